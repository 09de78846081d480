import JvmDerived
import JvmDerived.Pilot.@@N@@Statement
import JvmDerived.Pilot.@@N@@Code
set_option linter.unusedVariables false
set_option linter.unusedSimpArgs false
namespace Jvm.RoadKit
open Sem ClassFile Op Lib Jvm.Stand Jvm.Free Jvm.LawKit
section New
variable {p : Program} {l : Launch} {e : Env} {R : Room} {s : State} {m : MethodId} {args : Array Value} {below : List Frame} {meth : Method} {c : Code} {T : State} {locs : List Loc} {cells slots : Nat}
theorem retI (X : Stand p l e R s m args below meth c T locs cells slots) (hx : p.tables.exec = Jvm.exec) {pc : Nat} {Ls : Array Slot} {z : Int32} {rest : List Value} (hret : meth.sig.returnType = some .int) (hd : decode c.code pc = .ok (.ireturn, 1)) {fs : List Frame}
    (hl : ∀ (f : JFrame) (acts : List Action), f.method = m → f.locked = none → f.entered = [] → (doReturn e (T.setTop f) acts (some (.int z))).1 = T.setFrames fs) : Steps p.tables e below (T.setTop (mkF m pc Ls (.int z :: rest))) (T.setFrames fs) := by
  have hm' : T.vm.method? m = some meth := X.method'
  have hn : narrow .int (.int z) = .int z := rfl
  show Steps p.tables e below (T.setTop { method := m, pc := pc, locals := Ls, stack := _ :: rest, locked := none }) _
  jvm_step X.here [X.here.top, hx, hd, hm', hret, hn]
  first | (intro acts; rw [hl _ acts rfl rfl rfl]) | rw [hl _ _ rfl rfl rfl]
  exact Steps.refl _
end New
end Jvm.RoadKit
namespace Jvm.Pilot.@@N@@
open Jvm Jvm.ClassFile Sem Op Lib Jvm.Free Jvm.Stand Jvm.LawKit Jvm.RoadKit Bundle Jvm.Pilot.@@N@@.Jvm.D
section OwnRef
variable {p : Program} {l : Launch} {e : Env} {R : Room} {s : State} {m : MethodId} {args : Array Value} {below : List Frame} {meth : Method} {c : Code} {T : State} {locs : List Loc} {cells slots : Nat} {Z : State} {a0 : Array Value} {h : Heap}
theorem own_ready (X : Stand p l e R s m args below meth c T locs cells slots) (hZ : Z.Warmed39 s.vm) {own O n d : String} {index : Nat} (hown : s.vm.findClass own = some m.cls) (w : (Cond.fieldRef own index O n d).before a0 Z = true) {cf i : Nat} {k : Class} {f : Field} (hf : Z.fieldFound? O n d = some (cf, k, i, f)) : T.vm.fieldReady m.cls index cf f := by
  have hT : Z.Warmed39 T.vm := wtrans hZ X.warmed
  have hc : (Z.setVm T.vm).vm.findClass own = some m.cls := by
    show T.vm.findClass own = some m.cls
    rw [X.warmed.alike.findClass]; exact hown
  obtain ⟨c', k', i', f', q1, q2⟩ := Cond.fieldRef_spec (s := Z.setVm T.vm) hc (Cond.fieldRef_warmed39 hT w)
  obtain ⟨k'', q3, -⟩ := State.fieldFound?_setVm (s := Z) hT.alike hf
  cases q3.symm.trans q1
  exact q2
theorem own_getR (X : Stand p l e R s m args below meth c T locs cells slots) (hx : p.tables.exec = Jvm.exec) (hZ : Z.Warmed39 s.vm) {own O n d : String} {index : Nat} (hown : s.vm.findClass own = some m.cls) (w : (Cond.fieldRef own index O n d).before a0 Z = true) (eT : T.heap = h) {a : Addr} {v : Value} (F : Fld Z h a O n d v)
    {g : JFrame} (hg : g.method = m) {rest : List Value} (hs : g.stack = .ref a :: rest) (hd : decode c.code g.pc = .ok (.getfield index, 3)) :
    ∀ target, Steps p.tables e below (T.setTop { g with pc := g.pc + 3, stack := v :: rest }) target → Steps p.tables e below (T.setTop g) target := by
  obtain ⟨cell, cf, k, i, f, h1, h2, h3, h4, -, -, h7⟩ := F
  have hr := own_ready X hZ hown w h2
  intro target hrest
  subst hg
  have hcell : T.heap[a]? = some cell := by rw [eT]; exact h1
  jvm_step X.here [hx, hd, getfield.wp_ready (e := e) (s := T) (f := g) X.here.top hr h3 hs hcell h4 h7]
  exact hrest
theorem own_putR (X : Stand p l e R s m args below meth c T locs cells slots) (hx : p.tables.exec = Jvm.exec) (hZ : Z.Warmed39 s.vm) {own O n d C : String} {index kk : Nat} {ty : FieldType} (hown : s.vm.findClass own = some m.cls) (w : (Cond.fieldRef own index O n d).before a0 Z = true) (eT : T.heap = h) {a : Addr} {v old : Value} (F : Fld Z h a O n d old) (E : Exa Z h a C)
    (L : (Cond.lays C O n d).before a0 Z = true) (wi : (Cond.instantiable C kk).before a0 Z = true) (hty : parseFieldDescriptor d = some ty) (hn : narrow ty v = v) (hf : fits ty v = true) {g : JFrame} (hg : g.method = m) {rest : List Value} (hs : g.stack = v :: .ref a :: rest) (hd : decode c.code g.pc = .ok (.putfield index, 3)) :
    ∃ T' h', Stand p l e R s m args below meth c T' (locs ++ [⟨a, Jvm.RoadKit.slotOf Z O n d⟩]) cells slots ∧ T'.heap = h' ∧ Wr h h' a (Jvm.RoadKit.slotOf Z O n d) v ∧ ∀ target, Steps p.tables e below (T'.setTop { g with pc := g.pc + 3, stack := rest }) target → Steps p.tables e below (T.setTop g) target := by
  obtain ⟨cell, cf, k, i, f, h1, h2, h3, h4, h5, -, h7⟩ := F
  have hr := own_ready X hZ hown w h2
  have hT : Z.Warmed39 T.vm := wtrans hZ X.warmed
  obtain ⟨cellE, kc, e1, e2, e3, -⟩ := E
  obtain rfl : cell = cellE := Option.some.inj (h1.symm.trans e1)
  obtain ⟨c1, k1, cf1, kf1, i1, f1, a1, a2, a3, a4, a5, a6, a7, -⟩ := Cond.lays_spec L
  obtain ⟨rfl, -, -, rfl⟩ : cf = cf1 ∧ k = kf1 ∧ i = i1 ∧ f = f1 := by simpa using h2.symm.trans a3
  obtain rfl : cell.cls = c1 := Option.some.inj (e2.symm.trans a1)
  obtain ⟨c2, k2, b1, b2, b3, -⟩ := Cond.instantiable_spec wi
  obtain rfl : cell.cls = c2 := Option.some.inj (e2.symm.trans b1)
  obtain rfl : k1 = k2 := Option.some.inj (a2.symm.trans b2)
  have ht := (State.fieldFound?_type h2 hty).2
  have hslot : Z.slotType? cell.cls cell.vm f.slot = some ty := by
    simp only [State.slotType?, a2, Option.bind_eq_bind, Option.bind_some, b3]
    cases hq : cell.vm <;> first | (rw [hq] at h5; exact Bool.noConfusion h5) | (rw [a7, ht])
  have hfitZ : Z.fitsSlot cell.cls cell.vm f.slot v = true := by simp [State.fitsSlot, hslot, hf]
  have hfit : T.fitsSlot cell.cls cell.vm f.slot v = true := by
    rw [← State.fitsSlot_setVm hT.alike] at hfitZ; exact hfitZ
  have hlt := (Array.getElem?_eq_some_iff.mp h7).1
  have es : Jvm.RoadKit.slotOf Z O n d = f.slot := by simp [Jvm.RoadKit.slotOf, h2]
  rw [es]
  obtain ⟨X', st⟩ := X.putfieldReady hx hr h3 (Or.inl a5) (by rw [eT]; exact h1) h4 hlt (by rw [ht]; exact hn) hfit hg hs hd
  exact ⟨_, _, X', rfl, ⟨cell, h1, h5, hlt, by rw [← eT]; rfl⟩, st⟩
end OwnRef
/-! the queue as plain lists -/
def own_ref (P : Nat → Addr) : Option Nat → Value
  | none => .null
  | some i => .ref (P i)
def own_nx : List Nat → Nat → Option Nat
  | a :: b :: t, i => if i = a then some b else own_nx (b :: t) i
  | _, _ => none
def own_in (l : List Nat) (i : Nat) : Int32 := if i ∈ l then 1 else 0
def own_add (l : List Nat) (i : Nat) : List Nat := if i ∈ l then l else l ++ [i]
def own_sel (e k : Int32) : Int32 := if e = (0 : Int32) then (0 : Int32) else k
def own_cn (a b c n p : Int32) : Int32 :=
  if (0 : Int32) < n ∧ a = p then 1 else if (1 : Int32) < n ∧ b = p then 1 else if (2 : Int32) < n ∧ c = p then 1 else 0
theorem own_nx_nil (i : Nat) : own_nx [] i = none := rfl
theorem own_nx_one (a i : Nat) : own_nx [a] i = none := rfl
theorem own_nx_two (a b i : Nat) (t : List Nat) : own_nx (a :: b :: t) i = if i = a then some b else own_nx (b :: t) i := rfl
def own_ok (l : List Nat) : Prop := l.Nodup ∧ ∀ x ∈ l, x < 3
def own_mr : List Nat → Int32 → Int32 → Int32 → Prop
  | [], _, _, _ => True
  | [x], a, _, _ => a = Int32.ofNat x
  | [x, y], a, b, _ => a = Int32.ofNat x ∧ b = Int32.ofNat y
  | [x, y, z], a, b, c => a = Int32.ofNat x ∧ b = Int32.ofNat y ∧ c = Int32.ofNat z
  | _, _, _, _ => False
theorem own_nx_app (l : List Nat) (k i j : Nat) (hd : l.Nodup) (hk : l.getLast? = some k) : own_nx (l ++ [i]) j = if j = k then some i else own_nx l j := by
  induction l with
  | nil => simp at hk
  | cons x t ih =>
    cases t with
    | nil =>
      obtain rfl : x = k := by simpa using hk
      by_cases hj : j = x
      · simp [own_nx, hj]
      · simp [own_nx, hj]
    | cons y t =>
      have hk' : (y :: t).getLast? = some k := by simpa [List.getLast?_cons_cons] using hk
      have ih' := ih (List.nodup_cons.mp hd).2 hk'
      have hkm : k ∈ (y :: t) := List.mem_of_getLast? hk'
      have hx : x ∉ (y :: t) := (List.nodup_cons.mp hd).1
      show own_nx (x :: y :: (t ++ [i])) j = _
      rw [own_nx_two, own_nx_two]
      by_cases hj : j = x
      · have hjk : ¬ j = k := fun q => hx (hj ▸ q ▸ hkm)
        simp only [hj, if_true]
        rw [if_neg (by rw [← hj]; exact hjk)]
      · simp only [hj, if_false]
        exact ih'
theorem own_nx_last (l : List Nat) (j : Nat) (h : j ∉ l) : own_nx l j = none := by
  induction l with
  | nil => rfl
  | cons x t ih =>
    cases t with
    | nil => rfl
    | cons y t =>
      rw [own_nx_two, if_neg (fun q => h (by rw [q]; exact List.mem_cons_self ..))]
      exact ih (fun q => h (List.mem_cons_of_mem _ q))
/-! the queue in the heap -/
def own_qf (Z : State) (h : Heap) (q : Addr) (P : Nat → Addr) (f la : Value) (qu : Nat → Int32) (nx : Nat → Value) : Prop :=
  Exa Z h q "com/example/bulkwire/bulkwire/server/TurnQueue" ∧ Fld Z h q "com/example/bulkwire/bulkwire/server/TurnQueue" "first" "Lcom/example/bulkwire/bulkwire/server/TurnQueue$Place;" f ∧ Fld Z h q "com/example/bulkwire/bulkwire/server/TurnQueue" "last" "Lcom/example/bulkwire/bulkwire/server/TurnQueue$Place;" la ∧
    ∀ i, i < 3 → Exa Z h (P i) "com/example/bulkwire/bulkwire/server/TurnQueue$Place" ∧ Fld Z h (P i) "com/example/bulkwire/bulkwire/server/TurnQueue$Place" "connection" "Lcom/example/bulkwire/bulkwire/server/Connection;" .null ∧ Fld Z h (P i) "com/example/bulkwire/bulkwire/server/TurnQueue$Place" "queued" "Z" (.int (qu i)) ∧ Fld Z h (P i) "com/example/bulkwire/bulkwire/server/TurnQueue$Place" "next" "Lcom/example/bulkwire/bulkwire/server/TurnQueue$Place;" (nx i)
section OwnQ
variable {Z : State} {a0 : Array Value} {h h' : Heap} {q : Addr} {P : Nat → Addr} {f la v : Value} {qu : Nat → Int32} {nx : Nat → Value}
theorem own_qf.congr (F : own_qf Z h q P f la qu nx) {f' la' : Value} {qu' : Nat → Int32} {nx' : Nat → Value} (h1 : f = f') (h2 : la = la') (h3 : ∀ i, i < 3 → qu i = qu' i) (h4 : ∀ i, i < 3 → nx i = nx' i) : own_qf Z h q P f' la' qu' nx' := by
  subst h1 h2
  exact ⟨F.1, F.2.1, F.2.2.1, fun i hi => by rw [← h3 i hi, ← h4 i hi]; exact F.2.2.2 i hi⟩
theorem own_ne_q (F : own_qf Z h q P f la qu nx) {i : Nat} (hi : i < 3) : q ≠ P i := ne_exa F.1 (F.2.2.2 i hi).1 (by decide)
theorem own_wfirst (wl1 : Laid Z a0 "com/example/bulkwire/bulkwire/server/TurnQueue" "com/example/bulkwire/bulkwire/server/TurnQueue" "first" "Lcom/example/bulkwire/bulkwire/server/TurnQueue$Place;") (wl2 : Laid Z a0 "com/example/bulkwire/bulkwire/server/TurnQueue" "com/example/bulkwire/bulkwire/server/TurnQueue" "last" "Lcom/example/bulkwire/bulkwire/server/TurnQueue$Place;") (F : own_qf Z h q P f la qu nx) (W : Wr h h' q (Jvm.RoadKit.slotOf Z "com/example/bulkwire/bulkwire/server/TurnQueue" "first" "Lcom/example/bulkwire/bulkwire/server/TurnQueue$Place;") v) : own_qf Z h' q P v la qu nx := by
  refine ⟨F.1.wr W, F.2.1.same W, F.2.2.1.other W (Or.inr (slot_ne wl2 wl1 (by decide) (t := .object "com/example/bulkwire/bulkwire/server/TurnQueue$Place") (t' := .object "com/example/bulkwire/bulkwire/server/TurnQueue$Place") (by decide) (by decide))), fun i hi => ?_⟩
  have hn := Ne.symm (own_ne_q F hi)
  obtain ⟨e1, e2, e3, e4⟩ := F.2.2.2 i hi
  exact ⟨e1.wr W, e2.other W (Or.inl hn), e3.other W (Or.inl hn), e4.other W (Or.inl hn)⟩
theorem own_wlast (wl1 : Laid Z a0 "com/example/bulkwire/bulkwire/server/TurnQueue" "com/example/bulkwire/bulkwire/server/TurnQueue" "first" "Lcom/example/bulkwire/bulkwire/server/TurnQueue$Place;") (wl2 : Laid Z a0 "com/example/bulkwire/bulkwire/server/TurnQueue" "com/example/bulkwire/bulkwire/server/TurnQueue" "last" "Lcom/example/bulkwire/bulkwire/server/TurnQueue$Place;") (F : own_qf Z h q P f la qu nx) (W : Wr h h' q (Jvm.RoadKit.slotOf Z "com/example/bulkwire/bulkwire/server/TurnQueue" "last" "Lcom/example/bulkwire/bulkwire/server/TurnQueue$Place;") v) : own_qf Z h' q P f v qu nx := by
  refine ⟨F.1.wr W, F.2.1.other W (Or.inr (slot_ne wl1 wl2 (by decide) (t := .object "com/example/bulkwire/bulkwire/server/TurnQueue$Place") (t' := .object "com/example/bulkwire/bulkwire/server/TurnQueue$Place") (by decide) (by decide))), F.2.2.1.same W, fun i hi => ?_⟩
  have hn := Ne.symm (own_ne_q F hi)
  obtain ⟨e1, e2, e3, e4⟩ := F.2.2.2 i hi
  exact ⟨e1.wr W, e2.other W (Or.inl hn), e3.other W (Or.inl hn), e4.other W (Or.inl hn)⟩
theorem own_wqu (hP : ∀ i j, i < 3 → j < 3 → P i = P j → i = j) (w1 : Laid Z a0 "com/example/bulkwire/bulkwire/server/TurnQueue$Place" "com/example/bulkwire/bulkwire/server/TurnQueue$Place" "connection" "Lcom/example/bulkwire/bulkwire/server/Connection;") (w2 : Laid Z a0 "com/example/bulkwire/bulkwire/server/TurnQueue$Place" "com/example/bulkwire/bulkwire/server/TurnQueue$Place" "queued" "Z") (w3 : Laid Z a0 "com/example/bulkwire/bulkwire/server/TurnQueue$Place" "com/example/bulkwire/bulkwire/server/TurnQueue$Place" "next" "Lcom/example/bulkwire/bulkwire/server/TurnQueue$Place;") (F : own_qf Z h q P f la qu nx) {k : Nat} (hk : k < 3) {b : Int32} (W : Wr h h' (P k) (Jvm.RoadKit.slotOf Z "com/example/bulkwire/bulkwire/server/TurnQueue$Place" "queued" "Z") (.int b)) : own_qf Z h' q P f la (fun i => if i = k then b else qu i) nx := by
  have hn := own_ne_q F hk
  refine ⟨F.1.wr W, F.2.1.other W (Or.inl hn), F.2.2.1.other W (Or.inl hn), fun i hi => ?_⟩
  obtain ⟨e1, e2, e3, e4⟩ := F.2.2.2 i hi
  by_cases hik : i = k
  · subst hik
    refine ⟨e1.wr W, e2.other W (Or.inr (slot_ne w1 w2 (by decide) (t := .object "com/example/bulkwire/bulkwire/server/Connection") (t' := .boolean) (by decide) (by decide))), ?_, e4.other W (Or.inr (slot_ne w3 w2 (by decide) (t := .object "com/example/bulkwire/bulkwire/server/TurnQueue$Place") (t' := .boolean) (by decide) (by decide)))⟩
    simp only [if_true]
    exact e3.same W
  · have hne : P i ≠ P k := fun z => hik (hP i k hi hk z)
    simp only [hik, if_false]
    exact ⟨e1.wr W, e2.other W (Or.inl hne), e3.other W (Or.inl hne), e4.other W (Or.inl hne)⟩
theorem own_wnx (hP : ∀ i j, i < 3 → j < 3 → P i = P j → i = j) (w1 : Laid Z a0 "com/example/bulkwire/bulkwire/server/TurnQueue$Place" "com/example/bulkwire/bulkwire/server/TurnQueue$Place" "connection" "Lcom/example/bulkwire/bulkwire/server/Connection;") (w2 : Laid Z a0 "com/example/bulkwire/bulkwire/server/TurnQueue$Place" "com/example/bulkwire/bulkwire/server/TurnQueue$Place" "queued" "Z") (w3 : Laid Z a0 "com/example/bulkwire/bulkwire/server/TurnQueue$Place" "com/example/bulkwire/bulkwire/server/TurnQueue$Place" "next" "Lcom/example/bulkwire/bulkwire/server/TurnQueue$Place;") (F : own_qf Z h q P f la qu nx) {k : Nat} (hk : k < 3) (W : Wr h h' (P k) (Jvm.RoadKit.slotOf Z "com/example/bulkwire/bulkwire/server/TurnQueue$Place" "next" "Lcom/example/bulkwire/bulkwire/server/TurnQueue$Place;") v) : own_qf Z h' q P f la qu (fun i => if i = k then v else nx i) := by
  have hn := own_ne_q F hk
  refine ⟨F.1.wr W, F.2.1.other W (Or.inl hn), F.2.2.1.other W (Or.inl hn), fun i hi => ?_⟩
  obtain ⟨e1, e2, e3, e4⟩ := F.2.2.2 i hi
  by_cases hik : i = k
  · subst hik
    refine ⟨e1.wr W, e2.other W (Or.inr (slot_ne w1 w3 (by decide) (t := .object "com/example/bulkwire/bulkwire/server/Connection") (t' := .object "com/example/bulkwire/bulkwire/server/TurnQueue$Place") (by decide) (by decide))), e3.other W (Or.inr (slot_ne w2 w3 (by decide) (t := .boolean) (t' := .object "com/example/bulkwire/bulkwire/server/TurnQueue$Place") (by decide) (by decide))), ?_⟩
    simp only [if_true]
    exact e4.same W
  · have hne : P i ≠ P k := fun z => hik (hP i k hi hk z)
    simp only [hik, if_false]
    exact ⟨e1.wr W, e2.other W (Or.inl hne), e3.other W (Or.inl hne), e4.other W (Or.inl hne)⟩
theorem own_qf.other (F : own_qf Z h q P f la qu nx) {a : Addr} {sl : Nat} (W : Wr h h' a sl v) (h1 : q ≠ a) (h2 : ∀ i, i < 3 → P i ≠ a) : own_qf Z h' q P f la qu nx :=
  ⟨F.1.wr W, F.2.1.other W (Or.inl h1), F.2.2.1.other W (Or.inl h1), fun i hi => by
    obtain ⟨e1, e2, e3, e4⟩ := F.2.2.2 i hi
    exact ⟨e1.wr W, e2.other W (Or.inl (h2 i hi)), e3.other W (Or.inl (h2 i hi)), e4.other W (Or.inl (h2 i hi))⟩⟩
theorem own_qf.ext (F : own_qf Z h q P f la qu nx) (E : Ext h h') : own_qf Z h' q P f la qu nx :=
  ⟨F.1.ext E, F.2.1.ext E, F.2.2.1.ext E, fun i hi => by
    obtain ⟨e1, e2, e3, e4⟩ := F.2.2.2 i hi
    exact ⟨e1.ext E, e2.ext E, e3.ext E, e4.ext E⟩⟩
/-- the queue holds the list l -/
def own_ql (Z : State) (h : Heap) (q : Addr) (P : Nat → Addr) (l : List Nat) : Prop := own_qf Z h q P (own_ref P l.head?) (own_ref P l.getLast?) (own_in l) (fun j => own_ref P (own_nx l j))
theorem own_head_app {l : List Nat} {i : Nat} (h : l ≠ []) : (l ++ [i]).head? = l.head? := by cases l with
  | nil => exact absurd rfl h
  | cons x t => rfl
theorem own_in_app (l : List Nat) (i j : Nat) : own_in (l ++ [i]) j = if j = i then 1 else own_in l j := by
  unfold own_in
  by_cases h : j = i
  · simp [h]
  · by_cases h2 : j ∈ l <;> simp [h, h2]
/-- the write sequence of add, on an empty queue -/
theorem own_add0 {i : Nat} (F : own_qf Z h q P (.ref (P i)) (.ref (P i)) (fun j => if j = i then (1 : Int32) else own_in [] j) (fun j => own_ref P (own_nx [] j))) : own_ql Z h q P [i] :=
  F.congr rfl rfl (fun j _ => (own_in_app [] i j).symm) (fun j _ => rfl)
theorem own_add1 {l : List Nat} {i k : Nat} (hd : l.Nodup) (hk : l.getLast? = some k) (F : own_qf Z h q P (own_ref P l.head?) (.ref (P i)) (fun j => if j = i then (1 : Int32) else own_in l j) (fun j => if j = k then .ref (P i) else own_ref P (own_nx l j))) : own_ql Z h q P (l ++ [i]) := by
  have hne : l ≠ [] := fun z => by subst z; simp at hk
  refine F.congr (by rw [own_head_app hne]) (by simp [own_ref]) (fun j _ => (own_in_app l i j).symm) (fun j _ => ?_)
  rw [own_nx_app l k i j hd hk]
  by_cases hj : j = k <;> simp [hj, own_ref]
theorem own_in_tail {x : Nat} {t : List Nat} (hd : (x :: t).Nodup) (j : Nat) : (if j = x then (0 : Int32) else own_in (x :: t) j) = own_in t j := by
  have hx := (List.nodup_cons.mp hd).1
  unfold own_in
  by_cases h : j = x
  · subst h; simp [hx]
  · by_cases h2 : j ∈ t <;> simp [h, h2]
theorem own_poll1 {x : Nat} (F : own_qf Z h q P .null .null (fun j => if j = x then (0 : Int32) else own_in [x] j) (fun j => if j = x then .null else own_ref P (own_nx [x] j))) : own_ql Z h q P [] :=
  F.congr rfl rfl (fun j _ => own_in_tail (List.nodup_cons.mpr ⟨by simp, List.nodup_nil⟩) j) (fun j _ => by by_cases hj : j = x <;> simp [hj, own_nx, own_ref])
theorem own_poll2 {x y : Nat} {t : List Nat} (hd : (x :: y :: t).Nodup) (F : own_qf Z h q P (.ref (P y)) (own_ref P (x :: y :: t).getLast?) (fun j => if j = x then (0 : Int32) else own_in (x :: y :: t) j) (fun j => if j = x then .null else own_ref P (own_nx (x :: y :: t) j))) : own_ql Z h q P (y :: t) := by
  refine F.congr rfl (by rw [List.getLast?_cons_cons]) (fun j _ => own_in_tail hd j) (fun j _ => ?_)
  by_cases hj : j = x
  · subst hj
    rw [if_pos rfl, own_nx_last _ _ (List.nodup_cons.mp hd).1]; rfl
  · rw [if_neg hj, own_nx_two, if_neg hj]
end OwnQ
theorem own_cases (l : List Nat) (i : Nat) : i ∈ l ∨ (i ∉ l ∧ l = []) ∨ (i ∉ l ∧ ∃ k, k ∈ l ∧ l.getLast? = some k) := by
  by_cases h : i ∈ l
  · exact Or.inl h
  · refine Or.inr ?_
    cases hl : l.getLast? with
    | none => exact Or.inl ⟨h, List.getLast?_eq_none_iff.mp hl⟩
    | some k => exact Or.inr ⟨h, k, List.mem_of_getLast? hl, rfl⟩
theorem own_in_yes {l : List Nat} {i : Nat} (h : i ∈ l) : own_in l i = 1 := by unfold own_in; rw [if_pos h]
theorem own_in_no {l : List Nat} {i : Nat} (h : i ∉ l) : own_in l i = 0 := by unfold own_in; rw [if_neg h]
theorem own_add_yes {l : List Nat} {i : Nat} (h : i ∈ l) : own_add l i = l := by unfold own_add; rw [if_pos h]
theorem own_add_no {l : List Nat} {i : Nat} (h : i ∉ l) : own_add l i = l ++ [i] := by unfold own_add; rw [if_neg h]
/-! the model array, and the two answers -/
theorem own_cn0 (a b c p : Int32) : own_cn a b c 0 p = 0 := by
  have h1 : ¬ (0 : Int32) < 0 := by decide
  have h2 : ¬ (1 : Int32) < 0 := by decide
  have h3 : ¬ (2 : Int32) < 0 := by decide
  simp only [own_cn, h1, h2, h3, false_and, if_false]
theorem own_cn1 (a b c p : Int32) : own_cn a b c 1 p = if a = p then 1 else 0 := by
  have h1 : (0 : Int32) < 1 := by decide
  have h2 : ¬ (1 : Int32) < 1 := by decide
  have h3 : ¬ (2 : Int32) < 1 := by decide
  simp only [own_cn, h1, h2, h3, false_and, true_and, if_false]
theorem own_cn2 (a b c p : Int32) : own_cn a b c 2 p = if a = p then 1 else if b = p then 1 else 0 := by
  have h1 : (0 : Int32) < 2 := by decide
  have h2 : (1 : Int32) < 2 := by decide
  have h3 : ¬ (2 : Int32) < 2 := by decide
  simp only [own_cn, h1, h2, h3, false_and, true_and, if_false]
theorem own_cn3 (a b c p : Int32) : own_cn a b c 3 p = if a = p then 1 else if b = p then 1 else if c = p then 1 else 0 := by
  have h1 : (0 : Int32) < 3 := by decide
  have h2 : (1 : Int32) < 3 := by decide
  have h3 : (2 : Int32) < 3 := by decide
  simp only [own_cn, h1, h2, h3, true_and]
theorem own_eq3 : ∀ x, x < 3 → ∀ i, i < 3 → (Int32.ofNat x = Int32.ofNat i ↔ i = x) := by decide
theorem own_cn_in {l : List Nat} {a b c : Int32} (ho : own_ok l) (hm : own_mr l a b c) {i : Nat} (hi : i < 3) : own_cn a b c (Int32.ofNat l.length) (Int32.ofNat i) = own_in l i := by
  obtain ⟨-, hx⟩ := ho
  match l, hm with
  | [], _ => exact (own_cn0 a b c _).trans (by simp [own_in])
  | [x], hm =>
    obtain rfl : a = Int32.ofNat x := hm
    have e := own_eq3 x (hx x (by simp)) i hi
    refine (own_cn1 _ b c _).trans ?_
    simp only [own_in, e, List.mem_singleton]
  | [x, y], hm =>
    obtain ⟨rfl, rfl⟩ : a = Int32.ofNat x ∧ b = Int32.ofNat y := hm
    have e := own_eq3 x (hx x (by simp)) i hi
    have e' := own_eq3 y (hx y (by simp)) i hi
    refine (own_cn2 _ _ c _).trans ?_
    simp only [own_in, e, e', List.mem_cons, List.not_mem_nil, or_false]
    by_cases h1 : i = x <;> by_cases h2 : i = y <;> simp [h1, h2]
  | [x, y, z], hm =>
    obtain ⟨rfl, rfl, rfl⟩ : a = Int32.ofNat x ∧ b = Int32.ofNat y ∧ c = Int32.ofNat z := hm
    have e := own_eq3 x (hx x (by simp)) i hi
    have e' := own_eq3 y (hx y (by simp)) i hi
    have e'' := own_eq3 z (hx z (by simp)) i hi
    refine (own_cn3 _ _ _ _).trans ?_
    simp only [own_in, e, e', e'', List.mem_cons, List.not_mem_nil, or_false]
    by_cases h1 : i = x <;> by_cases h2 : i = y <;> by_cases h3 : i = z <;> simp [h1, h2, h3]
  | x :: y :: z :: w :: t, hm => exact hm.elim
def own_em (l : List Nat) : Int32 := if l = [] then 1 else 0
def own_selN (n k : Int32) : Int32 := if n = (0 : Int32) then k else (0 : Int32)
theorem own_mr_len {l : List Nat} {a b c : Int32} (hm : own_mr l a b c) : l.length ≤ 3 := by
  match l, hm with
  | [], _ => simp
  | [_], _ => simp
  | [_, _], _ => simp
  | [_, _, _], _ => simp
  | _ :: _ :: _ :: _ :: _, hm => exact hm.elim
theorem own_len0 : ∀ n, n ≤ 3 → (Int32.ofNat n = 0 ↔ n = 0) := by decide
theorem own_last {l : List Nat} {a b c : Int32} (hm : own_mr l a b c) : own_selN (Int32.ofNat l.length) (8 : Int32) = own_sel (own_em l) (8 : Int32) := by
  have e := own_len0 _ (own_mr_len hm)
  unfold own_selN own_sel own_em
  cases l with
  | nil => decide
  | cons x t =>
    have h1 : ¬ Int32.ofNat (x :: t).length = 0 := fun q => by have := e.mp q; simp at this
    rw [if_neg h1]
    simp
theorem own_match {l : List Nat} {a b c : Int32} (ho : own_ok l) (hm : own_mr l a b c) :
    ((((own_sel (own_cn a b c (Int32.ofNat l.length) (0 : Int32)) (1 : Int32)) ||| (own_sel (own_cn a b c (Int32.ofNat l.length) (1 : Int32)) (2 : Int32))) ||| (own_sel (own_cn a b c (Int32.ofNat l.length) (2 : Int32)) (4 : Int32))) ||| (own_selN (Int32.ofNat l.length) (8 : Int32))) =
      ((((own_sel (own_in l 0) (1 : Int32)) ||| (own_sel (own_in l 1) (2 : Int32))) ||| (own_sel (own_in l 2) (4 : Int32))) ||| (own_sel (own_em l) (8 : Int32))) := by
  have e0 : own_cn a b c (Int32.ofNat l.length) (0 : Int32) = own_in l 0 := own_cn_in ho hm (i := 0) (by decide)
  have e1 : own_cn a b c (Int32.ofNat l.length) (1 : Int32) = own_in l 1 := own_cn_in ho hm (i := 1) (by decide)
  have e2 : own_cn a b c (Int32.ofNat l.length) (2 : Int32) = own_in l 2 := own_cn_in ho hm (i := 2) (by decide)
  rw [e0, e1, e2, own_last hm]
theorem own_mr_tail {x : Nat} {t : List Nat} {a b c : Int32} (hm : own_mr (x :: t) a b c) : own_mr t b c c := by
  match t, hm with
  | [], _ => trivial
  | [y], hm => exact hm.2
  | [y, z], hm => exact hm.2
  | _ :: _ :: _ :: _, hm => exact hm.elim
theorem own_ok_tail {x : Nat} {t : List Nat} (ho : own_ok (x :: t)) : own_ok t := ⟨(List.nodup_cons.mp ho.1).2, fun y hy => ho.2 y (List.mem_cons_of_mem _ hy)⟩
theorem own_ok_add {l : List Nat} {i : Nat} (ho : own_ok l) (hi : i < 3) : own_ok (own_add l i) := by
  unfold own_add
  by_cases h : i ∈ l
  · rw [if_pos h]; exact ho
  · rw [if_neg h]
    refine ⟨List.nodup_append.mpr ⟨ho.1, by simp, ?_⟩, fun x hx => ?_⟩
    · intro a ha b hb
      obtain rfl : b = i := by simpa using hb
      exact fun q => h (q ▸ ha)
    · rcases List.mem_append.mp hx with q | q
      · exact ho.2 x q
      · obtain rfl : x = i := by simpa using q
        exact hi
/-- what is not in the list leaves room in it -/
theorem own_room {l : List Nat} {i : Nat} {a b c : Int32} (ho : own_ok l) (hm : own_mr l a b c) (hi : i < 3) (h : i ∉ l) : l = [] ∨ (∃ x, l = [x]) ∨ ∃ x y, l = [x, y] := by
  match l, hm with
  | [], _ => exact Or.inl rfl
  | [x], _ => exact Or.inr (Or.inl ⟨x, rfl⟩)
  | [x, y], _ => exact Or.inr (Or.inr ⟨x, y, rfl⟩)
  | [x, y, z], _ =>
    exfalso
    have h1 := ho.2 x (by simp)
    have h2 := ho.2 y (by simp)
    have h3 := ho.2 z (by simp)
    have hd := ho.1
    simp only [List.nodup_cons, List.mem_cons, List.not_mem_nil, or_false, not_or] at hd h
    omega
  | _ :: _ :: _ :: _ :: _, hm => exact hm.elim
def own_pick (s : Int32) : Int32 := ((s &&& (2147483647 : Int32)) - ((s &&& (2147483647 : Int32)) / (3 : Int32)) * (3 : Int32))
theorem own_pick_nat (s : Int32) : ∃ i, i < 3 ∧ own_pick s = Int32.ofNat i := by
  have h1 : (own_pick s).toInt = (s &&& (2147483647 : Int32)).toInt.tmod 3 := rem_toInt _ _
  have h2 := c_and s 2147483647 (by decide)
  have h3 := (tr (s &&& (2147483647 : Int32)).toInt 3).1 h2.1
  have h4 : 0 ≤ (own_pick s).toInt ∧ (own_pick s).toInt < 3 := by rw [h1, h3]; omega
  have h5 : ¬ own_pick s < 0 := fun q => by
    have := Int32.lt_iff_toInt_lt.mp q
    have e0 : (0 : Int32).toInt = 0 := by decide
    omega
  refine ⟨(own_pick s).toNatClampNeg, ?_, (back32 h5).1.symm⟩
  have := nat_of h5
  omega
theorem own_ix : ∀ i, i < 3 → (¬ Int32.ofNat i < 0 ∧ Int32.ofNat i < 3) ∧ (Int32.ofNat i).toNatClampNeg = i := by decide
theorem own_getP (P : Nat → Addr) {i : Nat} (hi : i < 3) : [Value.ref (P 0), .ref (P 1), .ref (P 2)].getD (Int32.ofNat i).toNatClampNeg .null = .ref (P i) := by
  rw [(own_ix i hi).2]
  match i, hi with
  | 0, _ => rfl
  | 1, _ => rfl
  | 2, _ => rfl
theorem own_memP (q : Addr) (P : Nat → Addr) {i : Nat} (hi : i < 3) : P i ∈ [q, P 0, P 1, P 2] := by
  match i, hi with
  | 0, _ => simp
  | 1, _ => simp
  | 2, _ => simp
/-- the whole of it -/
def own_fix (n0 : Nat) (q ps mm : Addr) (P : Nat → Addr) : Prop := n0 ≤ q ∧ (∀ i, i < 3 → n0 ≤ P i) ∧ n0 ≤ mm ∧ ps ≠ mm ∧ ∀ i j, i < 3 → j < 3 → P i = P j → i = j
def own_sys (Z : State) (h : Heap) (q ps mm : Addr) (P : Nat → Addr) (kp km : ClassId) (l : List Nat) (a b c : Int32) : Prop :=
  own_ok l ∧ own_mr l a b c ∧ own_ql Z h q P l ∧ Arv Z h ps kp (.object "com/example/bulkwire/bulkwire/server/TurnQueue$Place") 3 [.ref (P 0), .ref (P 1), .ref (P 2)] .null ∧ Arv Z h mm km .int 4 [.int a, .int b, .int c, .int (Int32.ofNat l.length)] (.int 0)
theorem own_ne_av {Z : State} {a0 : Array Value} {h : Heap} {a b : Addr} {C : String} {n : Nat} {k : ClassId} {ty : FieldType} {z : Int32} {vs : List Value} {d : Value} (E : Exa Z h a C) (wi : (Cond.instantiable C n).before a0 Z = true) (A : Arv Z h b k ty z vs d) : a ≠ b := by
  obtain ⟨cl, G, -⟩ := A
  exact ne_arr E wi G
theorem d1_0 : decode prog_293_method_1_code 0 = .ok (.aload_n 0, 1) := by decide +kernel
theorem d1_1 : decode prog_293_method_1_code 1 = .ok (.invokespecial 1, 3) := by decide +kernel
theorem d1_4 : decode prog_293_method_1_code 4 = .ok (.return_, 1) := by decide +kernel
theorem pn_1 : plainName "com/example/bulkwire/bulkwire/server/TurnQueue" = true := by first | (simp [plainName, overriddenIn]; done) | decide +kernel
theorem ef_1 (m : MethodId) (a1 : Addr) : entryFrame m #[(.ref a1)] 1 = mkF m 0 #[.val (.ref a1)] [] := by first | (simp [entryFrame, mkF, argsToLocals, Value.category]; done) | rfl
def Q1 (h0 : Heap) (n0 : Nat) (v : Option Value) (h : Heap) (L : List Loc) : Prop := v = none ∧ Fr n0 L ∧ h = h0
set_option maxRecDepth 65536 in
set_option maxHeartbeats 40000000 in
theorem rm1 (l : Launch) (Z : State) (a0 : Array Value) (hw : ∀ d ∈ tables_1, d.before a0 Z = true) (ws : List Jvm.Cond) (a1 : Addr) (h0 : Heap) (n0 : Nat) (Z0 : n0 ≤ h0.size)  :
    MetFree l (⟨"com/example/bulkwire/bulkwire/server/TurnQueue", "<init>", "()V"⟩ : MethodName) (head1 (Jvm.Cond.code (⟨"com/example/bulkwire/bulkwire/server/TurnQueue", "<init>", "()V"⟩ : MethodName) prog_293_method_1_code 1 none :: ws) ({ frames := 1, cells := 0, slots := 0, locals := 12 } : Room)) (fun a U => a = #[(.ref a1)] ∧ Z.Warmed39 U.vm ∧ U.heap = h0) (fun _ _ _ _ _ => True) (fun _ U o U' => ∃ v L, o = .returned v ∧ Q1 h0 n0 v U'.heap L ∧ FrameEnd U o U' L ({ frames := 1, cells := 0, slots := 0, locals := 12 } : Room).cells ({ frames := 1, cells := 0, slots := 0, locals := 12 } : Room).slots) := by
  refine MetFree.of_bodySF (plainFor_of_name pn_1) hisR ?_
  intro p e s m args below meth c s₁ Bd hml0 hP hK
  obtain ⟨rfl, hZ, hh⟩ := hP
  have hx := Bd.exec
  have hby := Bd.bytes
  have hml : c.maxLocals = 1 := hml0
  have hown : s.vm.findClass "com/example/bulkwire/bulkwire/server/TurnQueue" = some m.cls := findClass_of_methodNamed Bd.named
  have hnm := (name_of_methodNamed Bd.named Bd.method).1
  have X0 : Stand p l e ({ frames := 1, cells := 0, slots := 0, locals := 12 } : Room) s m #[(.ref a1)] below meth c s₁ [] 0 0 := Stand.of_body Bd
  have e0 : s₁.heap = h0 := by rw [← hh, Bd.state]; rfl
  have N0 := Fr.nil n0
  have pre0 : ∀ t, Steps p.tables e below (s₁.setTop (mkF m 0 #[.val (.ref a1)] [])) t → Steps p.tables e below (s₁.setTop (entryFrame m #[(.ref a1)] 1)) t := fun t k => castTop (ef_1 m a1) k
  obtain ⟨T1, X1, e1, st1⟩ := initO X0 hx hZ hown (hw _ (List.mem_of_getElem? (i := 6) rfl)) (hw _ (List.mem_of_getElem? (i := 7) rfl)) (hw _ (List.mem_of_getElem? (i := 8) rfl)) e0 (g := (mkF m 1 #[.val (.ref a1)] [(.ref a1)])) rfl (by rw [hml]; rfl) rfl (hb hby d1_1) (by decide) (W := 0) (by show 2 * 0 + _ ≤ _; exact Nat.le_of_eq rfl) (by decide)
  obtain ⟨fs, hr, hrun, hended, hW, hsame⟩ := X1.leave (v := none) (fun _ => rfl)
  refine ⟨_, _, pre0 _ ?_, hrun, hended, _, _, rfl, ?_, ⟨_, rfl⟩, hW, hsame.mono (by decide) (by decide)⟩
  · show Steps p.tables e below (s₁.setTop (mkF m 0 #[.val (.ref a1)] [])) _
    refine XS.aloadN X0.here hx rfl (hb hby d1_0) rfl rfl ?_
    show Steps p.tables e below (s₁.setTop (mkF m 1 #[.val (.ref a1)] [(.ref a1)])) _
    refine st1 _ ?_
    show Steps p.tables e below (T1.setTop (mkF m 4 #[.val (.ref a1)] [])) _
    exact X1.returnOut hx Bd.returns (hb hby d1_4) hr
  · show Q1 h0 n0 _ T1.heap _
    rw [e1]
    exact ⟨rfl, N0, rfl⟩
theorem d3_0 : decode prog_294_method_1_code 0 = .ok (.aload_n 0, 1) := by decide +kernel
theorem d3_1 : decode prog_294_method_1_code 1 = .ok (.invokespecial 1, 3) := by decide +kernel
theorem d3_4 : decode prog_294_method_1_code 4 = .ok (.aload_n 0, 1) := by decide +kernel
theorem d3_5 : decode prog_294_method_1_code 5 = .ok (.aload_n 1, 1) := by decide +kernel
theorem d3_6 : decode prog_294_method_1_code 6 = .ok (.putfield 7, 3) := by decide +kernel
theorem d3_9 : decode prog_294_method_1_code 9 = .ok (.return_, 1) := by decide +kernel
theorem pn_3 : plainName "com/example/bulkwire/bulkwire/server/TurnQueue$Place" = true := by first | (simp [plainName, overriddenIn]; done) | decide +kernel
theorem ef_3 (m : MethodId) (a1 : Addr) : entryFrame m #[(.ref a1), .null] 2 = mkF m 0 #[.val (.ref a1), .val .null] [] := by first | (simp [entryFrame, mkF, argsToLocals, Value.category]; done) | rfl
def Q3 (Z : State) (a1 : Addr) (h0 : Heap) (n0 : Nat) (v : Option Value) (h : Heap) (L : List Loc) : Prop := v = none ∧ Fr n0 L ∧ Keep h0 h [a1] ∧ Exa Z h a1 "com/example/bulkwire/bulkwire/server/TurnQueue$Place" ∧ Fld Z h a1 "com/example/bulkwire/bulkwire/server/TurnQueue$Place" "connection" "Lcom/example/bulkwire/bulkwire/server/Connection;" .null ∧ Fld Z h a1 "com/example/bulkwire/bulkwire/server/TurnQueue$Place" "queued" "Z" (.int (0 : Int32)) ∧ Fld Z h a1 "com/example/bulkwire/bulkwire/server/TurnQueue$Place" "next" "Lcom/example/bulkwire/bulkwire/server/TurnQueue$Place;" .null
set_option maxRecDepth 65536 in
set_option maxHeartbeats 40000000 in
theorem rm3 (l : Launch) (Z : State) (a0 : Array Value) (hw : ∀ d ∈ tables_1, d.before a0 Z = true) (ws : List Jvm.Cond) (a1 : Addr) (h0 : Heap) (n0 : Nat) (Z0 : n0 ≤ h0.size) (E_a1 : Exa Z h0 a1 "com/example/bulkwire/bulkwire/server/TurnQueue$Place") (F_c : Fld Z h0 a1 "com/example/bulkwire/bulkwire/server/TurnQueue$Place" "connection" "Lcom/example/bulkwire/bulkwire/server/Connection;" .null) (F_q : Fld Z h0 a1 "com/example/bulkwire/bulkwire/server/TurnQueue$Place" "queued" "Z" (.int (0 : Int32))) (F_n : Fld Z h0 a1 "com/example/bulkwire/bulkwire/server/TurnQueue$Place" "next" "Lcom/example/bulkwire/bulkwire/server/TurnQueue$Place;" .null) (g_a1 : n0 ≤ a1) :
    MetFree l (⟨"com/example/bulkwire/bulkwire/server/TurnQueue$Place", "<init>", "(Lcom/example/bulkwire/bulkwire/server/Connection;)V"⟩ : MethodName) (head1 (Jvm.Cond.code (⟨"com/example/bulkwire/bulkwire/server/TurnQueue$Place", "<init>", "(Lcom/example/bulkwire/bulkwire/server/Connection;)V"⟩ : MethodName) prog_294_method_1_code 2 none :: ws) ({ frames := 1, cells := 0, slots := 0, locals := 12 } : Room)) (fun a U => a = #[(.ref a1), .null] ∧ Z.Warmed39 U.vm ∧ U.heap = h0) (fun _ _ _ _ _ => True) (fun _ U o U' => ∃ v L, o = .returned v ∧ Q3 Z a1 h0 n0 v U'.heap L ∧ FrameEnd U o U' L ({ frames := 1, cells := 0, slots := 0, locals := 12 } : Room).cells ({ frames := 1, cells := 0, slots := 0, locals := 12 } : Room).slots) := by
  refine MetFree.of_bodySF (plainFor_of_name pn_3) hisR ?_
  intro p e s m args below meth c s₁ Bd hml0 hP hK
  obtain ⟨rfl, hZ, hh⟩ := hP
  have hx := Bd.exec
  have hby := Bd.bytes
  have hml : c.maxLocals = 2 := hml0
  have hown : s.vm.findClass "com/example/bulkwire/bulkwire/server/TurnQueue$Place" = some m.cls := findClass_of_methodNamed Bd.named
  have hnm := (name_of_methodNamed Bd.named Bd.method).1
  have X0 : Stand p l e ({ frames := 1, cells := 0, slots := 0, locals := 12 } : Room) s m #[(.ref a1), .null] below meth c s₁ [] 0 0 := Stand.of_body Bd
  have e0 : s₁.heap = h0 := by rw [← hh, Bd.state]; rfl
  have N0 := Fr.nil n0
  have pre0 : ∀ t, Steps p.tables e below (s₁.setTop (mkF m 0 #[.val (.ref a1), .val .null] [])) t → Steps p.tables e below (s₁.setTop (entryFrame m #[(.ref a1), .null] 2)) t := fun t k => castTop (ef_3 m a1) k
  obtain ⟨T1, X1, e1, st1⟩ := initO X0 hx hZ hown (hw _ (List.mem_of_getElem? (i := 16) rfl)) (hw _ (List.mem_of_getElem? (i := 7) rfl)) (hw _ (List.mem_of_getElem? (i := 8) rfl)) e0 (g := (mkF m 1 #[.val (.ref a1), .val .null] [(.ref a1)])) rfl (by rw [hml]; rfl) rfl (hb hby d3_1) (by decide) (W := 0) (by show 2 * 0 + _ ≤ _; exact Nat.le_of_eq rfl) (by decide)
  obtain ⟨T2, h2, X2, e2, W2, st2⟩ := putF X1 hx hZ hown (host := "") (Or.inl (hw _ (List.mem_of_getElem? (i := 17) rfl))) Via.refl e1 F_c E_a1 (Or.inr ⟨(hw _ (List.mem_of_getElem? (i := 18) rfl)), rfl, hnm⟩) (hw _ (List.mem_of_getElem? (i := 11) rfl)) (ty := (.object "com/example/bulkwire/bulkwire/server/Connection")) (by decide) rfl rfl (g := (mkF m 6 #[.val (.ref a1), .val .null] [.null, (.ref a1)])) rfl rfl (hb hby d3_6)
  have Fw2 : Fld Z h2 a1 "com/example/bulkwire/bulkwire/server/TurnQueue$Place" "connection" "Lcom/example/bulkwire/bulkwire/server/Connection;" .null := F_c.same W2
  have F2_1 := F_q.other W2 (Or.inr (slot_ne (Or.inl (hw _ (List.mem_of_getElem? (i := 35) rfl))) (Or.inr (hw _ (List.mem_of_getElem? (i := 18) rfl))) (by decide) (t := .boolean) (t' := (.object "com/example/bulkwire/bulkwire/server/Connection")) (by decide) (by decide)))
  have F2_2 := F_n.other W2 (Or.inr (slot_ne (Or.inl (hw _ (List.mem_of_getElem? (i := 52) rfl))) (Or.inr (hw _ (List.mem_of_getElem? (i := 18) rfl))) (by decide) (t := (.object "com/example/bulkwire/bulkwire/server/TurnQueue$Place")) (t' := (.object "com/example/bulkwire/bulkwire/server/Connection")) (by decide) (by decide)))
  have E2_0 := E_a1.wr W2
  have K2 := (Keep.refl h0 [a1]).wr W2 (Or.inl (List.mem_of_getElem? (i := 0) rfl))
  have N2 := Fr.snoc X2 N0 g_a1
  obtain ⟨fs, hr, hrun, hended, hW, hsame⟩ := X2.leave (v := none) (fun _ => rfl)
  refine ⟨_, _, pre0 _ ?_, hrun, hended, _, _, rfl, ?_, ⟨_, rfl⟩, hW, hsame.mono (by decide) (by decide)⟩
  · show Steps p.tables e below (s₁.setTop (mkF m 0 #[.val (.ref a1), .val .null] [])) _
    refine XS.aloadN X0.here hx rfl (hb hby d3_0) rfl rfl ?_
    show Steps p.tables e below (s₁.setTop (mkF m 1 #[.val (.ref a1), .val .null] [(.ref a1)])) _
    refine st1 _ ?_
    show Steps p.tables e below (T1.setTop (mkF m 4 #[.val (.ref a1), .val .null] [])) _
    refine XS.aloadN X1.here hx rfl (hb hby d3_4) rfl rfl ?_
    show Steps p.tables e below (T1.setTop (mkF m 5 #[.val (.ref a1), .val .null] [(.ref a1)])) _
    refine XS.aloadN X1.here hx rfl (hb hby d3_5) rfl rfl ?_
    show Steps p.tables e below (T1.setTop (mkF m 6 #[.val (.ref a1), .val .null] [.null, (.ref a1)])) _
    refine st2 _ ?_
    show Steps p.tables e below (T2.setTop (mkF m 9 #[.val (.ref a1), .val .null] [])) _
    exact X2.returnOut hx Bd.returns (hb hby d3_9) hr
  · show Q3 Z a1 h0 n0 _ T2.heap _
    rw [e2]
    exact ⟨rfl, N2, K2, E2_0, Fw2, F2_1, F2_2⟩
theorem d4_0 : decode method_3_code 0 = .ok (.iload_n 0, 1) := by decide +kernel
theorem d4_1 : decode method_3_code 1 = .ok (.ldc 29, 2) := by decide +kernel
theorem d4_3 : decode method_3_code 3 = .ok (.iand, 1) := by decide +kernel
theorem d4_4 : decode method_3_code 4 = .ok (.iconst 3, 1) := by decide +kernel
theorem d4_5 : decode method_3_code 5 = .ok (.irem, 1) := by decide +kernel
theorem d4_6 : decode method_3_code 6 = .ok (.ireturn, 1) := by decide +kernel
theorem pn_4 : plainName "com/example/bulkwire/bulkwire/server/TurnQueuePollPinLaw" = true := by first | (simp [plainName, overriddenIn]; done) | decide +kernel
theorem ef_4 (m : MethodId) (p1 : Int32) : entryFrame m #[(.int p1)] 1 = mkF m 0 #[.val (.int p1)] [] := by first | (simp [entryFrame, mkF, argsToLocals, Value.category]; done) | rfl
def Q4 (p1 : Int32) (h0 : Heap) (n0 : Nat) (v : Option Value) (h : Heap) (L : List Loc) : Prop := v = some (.int (own_pick p1)) ∧ Fr n0 L ∧ h = h0
set_option maxRecDepth 65536 in
set_option maxHeartbeats 40000000 in
theorem rm4 (l : Launch) (Z : State) (a0 : Array Value) (hw : ∀ d ∈ tables_1, d.before a0 Z = true) (ws : List Jvm.Cond) (p1 : Int32) (h0 : Heap) (n0 : Nat) (Z0 : n0 ≤ h0.size)  :
    MetFree l (⟨"com/example/bulkwire/bulkwire/server/TurnQueuePollPinLaw", "pick", "(I)I"⟩ : MethodName) (head1 (Jvm.Cond.code (⟨"com/example/bulkwire/bulkwire/server/TurnQueuePollPinLaw", "pick", "(I)I"⟩ : MethodName) method_3_code 1 (some .int) :: ws) ({ frames := 0, cells := 0, slots := 0, locals := 0 } : Room)) (fun a U => a = #[(.int p1)] ∧ Z.Warmed39 U.vm ∧ U.heap = h0) (fun _ _ _ _ _ => True) (fun _ U o U' => ∃ v L, o = .returned v ∧ Q4 p1 h0 n0 v U'.heap L ∧ FrameEnd U o U' L ({ frames := 0, cells := 0, slots := 0, locals := 0 } : Room).cells ({ frames := 0, cells := 0, slots := 0, locals := 0 } : Room).slots) := by
  refine MetFree.of_bodySF (plainFor_of_name pn_4) hisR ?_
  intro p e s m args below meth c s₁ Bd hml0 hP hK
  obtain ⟨rfl, hZ, hh⟩ := hP
  have hx := Bd.exec
  have hby := Bd.bytes
  have hml : c.maxLocals = 1 := hml0
  have hown : s.vm.findClass "com/example/bulkwire/bulkwire/server/TurnQueuePollPinLaw" = some m.cls := findClass_of_methodNamed Bd.named
  have hnm := (name_of_methodNamed Bd.named Bd.method).1
  have X0 : Stand p l e ({ frames := 0, cells := 0, slots := 0, locals := 0 } : Room) s m #[(.int p1)] below meth c s₁ [] 0 0 := Stand.of_body Bd
  have e0 : s₁.heap = h0 := by rw [← hh, Bd.state]; rfl
  have N0 := Fr.nil n0
  have pre0 : ∀ t, Steps p.tables e below (s₁.setTop (mkF m 0 #[.val (.int p1)] [])) t → Steps p.tables e below (s₁.setTop (entryFrame m #[(.int p1)] 1)) t := fun t k => castTop (ef_4 m p1) k
  obtain ⟨fs, hr, hrun, hended, hW, hsame⟩ := X0.leave (v := some (.int ((p1 &&& (2147483647 : Int32)) - ((p1 &&& (2147483647 : Int32)) / (3 : Int32)) * (3 : Int32)))) (fun h => by rw [Bd.returns] at h; cases h)
  refine ⟨_, _, pre0 _ ?_, hrun, hended, _, _, rfl, ?_, ⟨_, rfl⟩, hW, hsame.mono (by decide) (by decide)⟩
  · show Steps p.tables e below (s₁.setTop (mkF m 0 #[.val (.int p1)] [])) _
    refine XS.iloadN X0.here hx rfl (hb hby d4_0) rfl ?_
    show Steps p.tables e below (s₁.setTop (mkF m 1 #[.val (.int p1)] [(.int p1)])) _
    refine X0.ldcInt hx hown (mvT hZ (hw _ (List.mem_of_getElem? (i := 25) rfl))) (g := (mkF m 1 #[.val (.int p1)] [(.int p1)])) rfl (hb hby d4_1) _ ?_
    show Steps p.tables e below (s₁.setTop (mkF m 3 #[.val (.int p1)] [(.int (2147483647 : Int32)), (.int p1)])) _
    refine XS.iand X0.here hx rfl (hb hby d4_3) rfl ?_
    show Steps p.tables e below (s₁.setTop (mkF m 4 #[.val (.int p1)] [(.int (p1 &&& (2147483647 : Int32)))])) _
    refine XS.iconst X0.here hx rfl (hb hby d4_4) ?_
    show Steps p.tables e below (s₁.setTop (mkF m 5 #[.val (.int p1)] [(.int (3 : Int32)), (.int (p1 &&& (2147483647 : Int32)))])) _
    refine XS.irem X0.here hx rfl (hb hby d4_5) rfl (by decide) ?_
    show Steps p.tables e below (s₁.setTop (mkF m 6 #[.val (.int p1)] [(.int ((p1 &&& (2147483647 : Int32)) - ((p1 &&& (2147483647 : Int32)) / (3 : Int32)) * (3 : Int32)))])) _
    exact retI X0 hx Bd.returns (hb hby d4_6) hr
  · show Q4 p1 h0 n0 _ s₁.heap _
    rw [e0]
    exact ⟨congrArg (fun z => some (Value.int z)) (show ((p1 &&& (2147483647 : Int32)) - ((p1 &&& (2147483647 : Int32)) / (3 : Int32)) * (3 : Int32)) = (own_pick p1) by rfl), N0, rfl⟩
theorem d6_0 : decode prog_293_method_2_code 0 = .ok (.aload_n 1, 1) := by decide +kernel
theorem d6_1 : decode prog_293_method_2_code 1 = .ok (.getfield 7, 3) := by decide +kernel
theorem d6_4 : decode prog_293_method_2_code 4 = .ok (.ifCond .eq 4, 3) := by decide +kernel
theorem d6_7 : decode prog_293_method_2_code 7 = .ok (.return_, 1) := by decide +kernel
theorem d6_8 : decode prog_293_method_2_code 8 = .ok (.aload_n 1, 1) := by decide +kernel
theorem d6_9 : decode prog_293_method_2_code 9 = .ok (.iconst 1, 1) := by decide +kernel
theorem d6_10 : decode prog_293_method_2_code 10 = .ok (.putfield 7, 3) := by decide +kernel
theorem d6_13 : decode prog_293_method_2_code 13 = .ok (.aload_n 0, 1) := by decide +kernel
theorem d6_14 : decode prog_293_method_2_code 14 = .ok (.getfield 13, 3) := by decide +kernel
theorem d6_17 : decode prog_293_method_2_code 17 = .ok (.ifnonnull 11, 3) := by decide +kernel
theorem d6_20 : decode prog_293_method_2_code 20 = .ok (.aload_n 0, 1) := by decide +kernel
theorem d6_21 : decode prog_293_method_2_code 21 = .ok (.aload_n 1, 1) := by decide +kernel
theorem d6_22 : decode prog_293_method_2_code 22 = .ok (.putfield 19, 3) := by decide +kernel
theorem d6_25 : decode prog_293_method_2_code 25 = .ok (.goto 11, 3) := by decide +kernel
theorem d6_28 : decode prog_293_method_2_code 28 = .ok (.aload_n 0, 1) := by decide +kernel
theorem d6_29 : decode prog_293_method_2_code 29 = .ok (.getfield 13, 3) := by decide +kernel
theorem d6_32 : decode prog_293_method_2_code 32 = .ok (.aload_n 1, 1) := by decide +kernel
theorem d6_33 : decode prog_293_method_2_code 33 = .ok (.putfield 22, 3) := by decide +kernel
theorem d6_36 : decode prog_293_method_2_code 36 = .ok (.aload_n 0, 1) := by decide +kernel
theorem d6_37 : decode prog_293_method_2_code 37 = .ok (.aload_n 1, 1) := by decide +kernel
theorem d6_38 : decode prog_293_method_2_code 38 = .ok (.putfield 13, 3) := by decide +kernel
theorem d6_41 : decode prog_293_method_2_code 41 = .ok (.return_, 1) := by decide +kernel
theorem pn_6 : plainName "com/example/bulkwire/bulkwire/server/TurnQueue" = true := by first | (simp [plainName, overriddenIn]; done) | decide +kernel
theorem ef_6 (m : MethodId) (q : Addr) (a2 : Addr) : entryFrame m #[(.ref q), (.ref a2)] 2 = mkF m 0 #[.val (.ref q), .val (.ref a2)] [] := by first | (simp [entryFrame, mkF, argsToLocals, Value.category]; done) | rfl
def Q6 (Z : State) (q : Addr) (P : Nat → Addr) (l0 : List Nat) (i : Nat) (h0 : Heap) (n0 : Nat) (v : Option Value) (h : Heap) (L : List Loc) : Prop := v = none ∧ Fr n0 L ∧ Keep h0 h [q, P 0, P 1, P 2] ∧ own_ql Z h q P (own_add l0 i)
set_option maxRecDepth 65536 in
set_option maxHeartbeats 40000000 in
theorem rm6 (l : Launch) (Z : State) (a0 : Array Value) (hw : ∀ d ∈ tables_1, d.before a0 Z = true) (ws : List Jvm.Cond) (q : Addr) (a2 : Addr) (h0 : Heap) (n0 : Nat) (Z0 : n0 ≤ h0.size) (P : Nat → Addr) (l0 : List Nat) (ps mm : Addr) (hfx : own_fix n0 q ps mm P) (i : Nat) (hi : i < 3) (ha : a2 = P i) (ho : own_ok l0) (G0 : own_ql Z h0 q P l0) :
    MetFree l (⟨"com/example/bulkwire/bulkwire/server/TurnQueue", "add", "(Lcom/example/bulkwire/bulkwire/server/TurnQueue$Place;)V"⟩ : MethodName) (head1 (Jvm.Cond.code (⟨"com/example/bulkwire/bulkwire/server/TurnQueue", "add", "(Lcom/example/bulkwire/bulkwire/server/TurnQueue$Place;)V"⟩ : MethodName) prog_293_method_2_code 2 none :: ws) ({ frames := 0, cells := 0, slots := 0, locals := 0 } : Room)) (fun a U => a = #[(.ref q), (.ref a2)] ∧ Z.Warmed39 U.vm ∧ U.heap = h0) (fun _ _ _ _ _ => True) (fun _ U o U' => ∃ v L, o = .returned v ∧ Q6 Z q P l0 i h0 n0 v U'.heap L ∧ FrameEnd U o U' L ({ frames := 0, cells := 0, slots := 0, locals := 0 } : Room).cells ({ frames := 0, cells := 0, slots := 0, locals := 0 } : Room).slots) := by
  subst ha
  refine MetFree.of_bodySF (plainFor_of_name pn_6) hisR ?_
  intro p e s m args below meth c s₁ Bd hml0 hP hK
  obtain ⟨rfl, hZ, hh⟩ := hP
  have hx := Bd.exec
  have hby := Bd.bytes
  have hml : c.maxLocals = 2 := hml0
  have hown : s.vm.findClass "com/example/bulkwire/bulkwire/server/TurnQueue" = some m.cls := findClass_of_methodNamed Bd.named
  have hnm := (name_of_methodNamed Bd.named Bd.method).1
  have X0 : Stand p l e ({ frames := 0, cells := 0, slots := 0, locals := 0 } : Room) s m #[(.ref q), (.ref (P i))] below meth c s₁ [] 0 0 := Stand.of_body Bd
  have e0 : s₁.heap = h0 := by rw [← hh, Bd.state]; rfl
  have N0 := Fr.nil n0
  have pre0 : ∀ t, Steps p.tables e below (s₁.setTop (mkF m 0 #[.val (.ref q), .val (.ref (P i))] [])) t → Steps p.tables e below (s₁.setTop (entryFrame m #[(.ref q), (.ref (P i))] 2)) t := fun t k => castTop (ef_6 m q (P i)) k
  rcases own_cases l0 i with hm | ⟨hm, hl⟩ | ⟨hm, k, hk, hl⟩
  · have Fq : Fld Z h0 (P i) "com/example/bulkwire/bulkwire/server/TurnQueue$Place" "queued" "Z" (.int (1 : Int32)) := own_in_yes hm ▸ (G0.2.2.2 i hi).2.2.1
    obtain ⟨fs, hr, hrun, hended, hW, hsame⟩ := X0.leave (v := none) (fun _ => rfl)
    refine ⟨_, _, pre0 _ ?_, hrun, hended, _, _, rfl, ?_, ⟨_, rfl⟩, hW, hsame.mono (by decide) (by decide)⟩
    · show Steps p.tables e below (s₁.setTop (mkF m 0 #[.val (.ref q), .val (.ref (P i))] [])) _
      refine XS.aloadN X0.here hx rfl (hb hby d6_0) rfl rfl ?_
      show Steps p.tables e below (s₁.setTop (mkF m 1 #[.val (.ref q), .val (.ref (P i))] [(.ref (P i))])) _
      refine own_getR X0 hx hZ hown (hw _ (List.mem_of_getElem? (i := 34) rfl)) e0 Fq (g := (mkF m 1 #[.val (.ref q), .val (.ref (P i))] [(.ref (P i))])) rfl rfl (hb hby d6_1) _ ?_
      show Steps p.tables e below (s₁.setTop (mkF m 4 #[.val (.ref q), .val (.ref (P i))] [(.int (1 : Int32))])) _
      refine XS.ifNo X0.here hx rfl (hb hby d6_4) rfl ((if0 _ _).trans (feq (by decide : ¬ ((1 : Int32) = (0 : Int32)))).1) ?_
      show Steps p.tables e below (s₁.setTop (mkF m 7 #[.val (.ref q), .val (.ref (P i))] [])) _
      exact X0.returnOut hx Bd.returns (hb hby d6_7) hr
    · show Q6 Z q P l0 i h0 n0 _ s₁.heap _
      rw [e0]
      exact ⟨rfl, N0, (Keep.refl h0 [q, P 0, P 1, P 2]), by rw [own_add_yes hm]; exact G0⟩
  · subst hl
    have Fq : Fld Z h0 (P i) "com/example/bulkwire/bulkwire/server/TurnQueue$Place" "queued" "Z" (.int (0 : Int32)) := own_in_no hm ▸ (G0.2.2.2 i hi).2.2.1
    obtain ⟨T1, h1, X1, e1, W1, st1⟩ := own_putR X0 hx hZ hown (hw _ (List.mem_of_getElem? (i := 34) rfl)) e0 (G0.2.2.2 i hi).2.2.1 (G0.2.2.2 i hi).1 (hw _ (List.mem_of_getElem? (i := 35) rfl)) (hw _ (List.mem_of_getElem? (i := 11) rfl)) (ty := .boolean) (by decide) rfl rfl (g := (mkF m 10 #[.val (.ref q), .val (.ref (P i))] [(.int (1 : Int32)), (.ref (P i))])) rfl rfl (hb hby d6_10)
    have G1 := own_wqu hfx.2.2.2.2 (Or.inr (hw _ (List.mem_of_getElem? (i := 18) rfl))) (Or.inl (hw _ (List.mem_of_getElem? (i := 35) rfl))) (Or.inl (hw _ (List.mem_of_getElem? (i := 52) rfl))) G0 hi W1
    have K1 : Keep h0 h1 [q, P 0, P 1, P 2] := (Keep.refl h0 [q, P 0, P 1, P 2]).wr W1 (Or.inl (own_memP q P hi))
    have N1 := Fr.snoc X1 N0 (hfx.2.1 i hi)
    obtain ⟨T2, X2, e2, st2⟩ := getF X1 hx hZ hown (host := "") (Or.inl (hw _ (List.mem_of_getElem? (i := 36) rfl))) Via.refl e1 G1.2.2.1 (g := (mkF m 14 #[.val (.ref q), .val (.ref (P i))] [(.ref q)])) rfl rfl (hb hby d6_14)
    obtain ⟨T3, h3, X3, e3, W3, st3⟩ := putF X2 hx hZ hown (host := "") (Or.inl (hw _ (List.mem_of_getElem? (i := 38) rfl))) Via.refl e2 G1.2.1 G1.1 (Or.inl (hw _ (List.mem_of_getElem? (i := 39) rfl))) (hw _ (List.mem_of_getElem? (i := 1) rfl)) (ty := (.object "com/example/bulkwire/bulkwire/server/TurnQueue$Place")) (by decide) rfl rfl (g := (mkF m 22 #[.val (.ref q), .val (.ref (P i))] [(.ref (P i)), (.ref q)])) rfl rfl (hb hby d6_22)
    have G3 := own_wfirst (Or.inl (hw _ (List.mem_of_getElem? (i := 39) rfl))) (Or.inl (hw _ (List.mem_of_getElem? (i := 37) rfl))) G1 W3
    have K3 : Keep h0 h3 [q, P 0, P 1, P 2] := K1.wr W3 (Or.inl (by simp))
    have N3 := Fr.snoc X3 N1 hfx.1
    obtain ⟨T4, h4, X4, e4, W4, st4⟩ := putF X3 hx hZ hown (host := "") (Or.inl (hw _ (List.mem_of_getElem? (i := 36) rfl))) Via.refl e3 G3.2.2.1 G3.1 (Or.inl (hw _ (List.mem_of_getElem? (i := 37) rfl))) (hw _ (List.mem_of_getElem? (i := 1) rfl)) (ty := (.object "com/example/bulkwire/bulkwire/server/TurnQueue$Place")) (by decide) rfl rfl (g := (mkF m 38 #[.val (.ref q), .val (.ref (P i))] [(.ref (P i)), (.ref q)])) rfl rfl (hb hby d6_38)
    have G4 := own_wlast (Or.inl (hw _ (List.mem_of_getElem? (i := 39) rfl))) (Or.inl (hw _ (List.mem_of_getElem? (i := 37) rfl))) G3 W4
    have K4 : Keep h0 h4 [q, P 0, P 1, P 2] := K3.wr W4 (Or.inl (by simp))
    have N4 := Fr.snoc X4 N3 hfx.1
    obtain ⟨fs, hr, hrun, hended, hW, hsame⟩ := X4.leave (v := none) (fun _ => rfl)
    refine ⟨_, _, pre0 _ ?_, hrun, hended, _, _, rfl, ?_, ⟨_, rfl⟩, hW, hsame.mono (by decide) (by decide)⟩
    · show Steps p.tables e below (s₁.setTop (mkF m 0 #[.val (.ref q), .val (.ref (P i))] [])) _
      refine XS.aloadN X0.here hx rfl (hb hby d6_0) rfl rfl ?_
      show Steps p.tables e below (s₁.setTop (mkF m 1 #[.val (.ref q), .val (.ref (P i))] [(.ref (P i))])) _
      refine own_getR X0 hx hZ hown (hw _ (List.mem_of_getElem? (i := 34) rfl)) e0 Fq (g := (mkF m 1 #[.val (.ref q), .val (.ref (P i))] [(.ref (P i))])) rfl rfl (hb hby d6_1) _ ?_
      show Steps p.tables e below (s₁.setTop (mkF m 4 #[.val (.ref q), .val (.ref (P i))] [(.int (0 : Int32))])) _
      refine XS.ifYes X0.here hx rfl (pc0 := 4) (pc' := 8) rfl (hb hby d6_4) rfl ((if0 _ _).trans (teq (by decide : (0 : Int32) = (0 : Int32))).1) (by decide) (by decide) ?_
      show Steps p.tables e below (s₁.setTop (mkF m 8 #[.val (.ref q), .val (.ref (P i))] [])) _
      refine XS.aloadN X0.here hx rfl (hb hby d6_8) rfl rfl ?_
      show Steps p.tables e below (s₁.setTop (mkF m 9 #[.val (.ref q), .val (.ref (P i))] [(.ref (P i))])) _
      refine XS.iconst X0.here hx rfl (hb hby d6_9) ?_
      show Steps p.tables e below (s₁.setTop (mkF m 10 #[.val (.ref q), .val (.ref (P i))] [(.int (1 : Int32)), (.ref (P i))])) _
      refine st1 _ ?_
      show Steps p.tables e below (T1.setTop (mkF m 13 #[.val (.ref q), .val (.ref (P i))] [])) _
      refine XS.aloadN X1.here hx rfl (hb hby d6_13) rfl rfl ?_
      show Steps p.tables e below (T1.setTop (mkF m 14 #[.val (.ref q), .val (.ref (P i))] [(.ref q)])) _
      refine st2 _ ?_
      show Steps p.tables e below (T2.setTop (mkF m 17 #[.val (.ref q), .val (.ref (P i))] [.null])) _
      refine XS.ifnonnullNo X2.here hx rfl (hb hby d6_17) rfl ?_
      show Steps p.tables e below (T2.setTop (mkF m 20 #[.val (.ref q), .val (.ref (P i))] [])) _
      refine XS.aloadN X2.here hx rfl (hb hby d6_20) rfl rfl ?_
      show Steps p.tables e below (T2.setTop (mkF m 21 #[.val (.ref q), .val (.ref (P i))] [(.ref q)])) _
      refine XS.aloadN X2.here hx rfl (hb hby d6_21) rfl rfl ?_
      show Steps p.tables e below (T2.setTop (mkF m 22 #[.val (.ref q), .val (.ref (P i))] [(.ref (P i)), (.ref q)])) _
      refine st3 _ ?_
      show Steps p.tables e below (T3.setTop (mkF m 25 #[.val (.ref q), .val (.ref (P i))] [])) _
      refine XS.goto X3.here hx rfl (pc0 := 25) (pc' := 36) rfl (hb hby d6_25) (by decide) (by decide) ?_
      show Steps p.tables e below (T3.setTop (mkF m 36 #[.val (.ref q), .val (.ref (P i))] [])) _
      refine XS.aloadN X3.here hx rfl (hb hby d6_36) rfl rfl ?_
      show Steps p.tables e below (T3.setTop (mkF m 37 #[.val (.ref q), .val (.ref (P i))] [(.ref q)])) _
      refine XS.aloadN X3.here hx rfl (hb hby d6_37) rfl rfl ?_
      show Steps p.tables e below (T3.setTop (mkF m 38 #[.val (.ref q), .val (.ref (P i))] [(.ref (P i)), (.ref q)])) _
      refine st4 _ ?_
      show Steps p.tables e below (T4.setTop (mkF m 41 #[.val (.ref q), .val (.ref (P i))] [])) _
      exact X4.returnOut hx Bd.returns (hb hby d6_41) hr
    · show Q6 Z q P [] i h0 n0 _ T4.heap _
      rw [e4]
      exact ⟨rfl, N4, K4, by rw [own_add_no hm]; exact own_add0 G4⟩
  · have hk3 := ho.2 k hk
    have Fq : Fld Z h0 (P i) "com/example/bulkwire/bulkwire/server/TurnQueue$Place" "queued" "Z" (.int (0 : Int32)) := own_in_no hm ▸ (G0.2.2.2 i hi).2.2.1
    have G0 : own_qf Z h0 q P (own_ref P l0.head?) (.ref (P k)) (own_in l0) (fun j => own_ref P (own_nx l0 j)) := G0.congr rfl (by rw [hl]; rfl) (fun _ _ => rfl) (fun _ _ => rfl)
    obtain ⟨T1, h1, X1, e1, W1, st1⟩ := own_putR X0 hx hZ hown (hw _ (List.mem_of_getElem? (i := 34) rfl)) e0 (G0.2.2.2 i hi).2.2.1 (G0.2.2.2 i hi).1 (hw _ (List.mem_of_getElem? (i := 35) rfl)) (hw _ (List.mem_of_getElem? (i := 11) rfl)) (ty := .boolean) (by decide) rfl rfl (g := (mkF m 10 #[.val (.ref q), .val (.ref (P i))] [(.int (1 : Int32)), (.ref (P i))])) rfl rfl (hb hby d6_10)
    have G1 := own_wqu hfx.2.2.2.2 (Or.inr (hw _ (List.mem_of_getElem? (i := 18) rfl))) (Or.inl (hw _ (List.mem_of_getElem? (i := 35) rfl))) (Or.inl (hw _ (List.mem_of_getElem? (i := 52) rfl))) G0 hi W1
    have K1 : Keep h0 h1 [q, P 0, P 1, P 2] := (Keep.refl h0 [q, P 0, P 1, P 2]).wr W1 (Or.inl (own_memP q P hi))
    have N1 := Fr.snoc X1 N0 (hfx.2.1 i hi)
    obtain ⟨T2, X2, e2, st2⟩ := getF X1 hx hZ hown (host := "") (Or.inl (hw _ (List.mem_of_getElem? (i := 36) rfl))) Via.refl e1 G1.2.2.1 (g := (mkF m 14 #[.val (.ref q), .val (.ref (P i))] [(.ref q)])) rfl rfl (hb hby d6_14)
    obtain ⟨T3, X3, e3, st3⟩ := getF X2 hx hZ hown (host := "") (Or.inl (hw _ (List.mem_of_getElem? (i := 36) rfl))) Via.refl e2 G1.2.2.1 (g := (mkF m 29 #[.val (.ref q), .val (.ref (P i))] [(.ref q)])) rfl rfl (hb hby d6_29)
    obtain ⟨T4, h4, X4, e4, W4, st4⟩ := own_putR X3 hx hZ hown (hw _ (List.mem_of_getElem? (i := 51) rfl)) e3 (G1.2.2.2 k hk3).2.2.2 (G1.2.2.2 k hk3).1 (hw _ (List.mem_of_getElem? (i := 52) rfl)) (hw _ (List.mem_of_getElem? (i := 11) rfl)) (ty := (.object "com/example/bulkwire/bulkwire/server/TurnQueue$Place")) (by decide) rfl rfl (g := (mkF m 33 #[.val (.ref q), .val (.ref (P i))] [(.ref (P i)), (.ref (P k))])) rfl rfl (hb hby d6_33)
    have G4 := own_wnx hfx.2.2.2.2 (Or.inr (hw _ (List.mem_of_getElem? (i := 18) rfl))) (Or.inl (hw _ (List.mem_of_getElem? (i := 35) rfl))) (Or.inl (hw _ (List.mem_of_getElem? (i := 52) rfl))) G1 hk3 W4
    have K4 : Keep h0 h4 [q, P 0, P 1, P 2] := K1.wr W4 (Or.inl (own_memP q P hk3))
    have N4 := Fr.snoc X4 N1 (hfx.2.1 k hk3)
    obtain ⟨T5, h5, X5, e5, W5, st5⟩ := putF X4 hx hZ hown (host := "") (Or.inl (hw _ (List.mem_of_getElem? (i := 36) rfl))) Via.refl e4 G4.2.2.1 G4.1 (Or.inl (hw _ (List.mem_of_getElem? (i := 37) rfl))) (hw _ (List.mem_of_getElem? (i := 1) rfl)) (ty := (.object "com/example/bulkwire/bulkwire/server/TurnQueue$Place")) (by decide) rfl rfl (g := (mkF m 38 #[.val (.ref q), .val (.ref (P i))] [(.ref (P i)), (.ref q)])) rfl rfl (hb hby d6_38)
    have G5 := own_wlast (Or.inl (hw _ (List.mem_of_getElem? (i := 39) rfl))) (Or.inl (hw _ (List.mem_of_getElem? (i := 37) rfl))) G4 W5
    have K5 : Keep h0 h5 [q, P 0, P 1, P 2] := K4.wr W5 (Or.inl (by simp))
    have N5 := Fr.snoc X5 N4 hfx.1
    obtain ⟨fs, hr, hrun, hended, hW, hsame⟩ := X5.leave (v := none) (fun _ => rfl)
    refine ⟨_, _, pre0 _ ?_, hrun, hended, _, _, rfl, ?_, ⟨_, rfl⟩, hW, hsame.mono (by decide) (by decide)⟩
    · show Steps p.tables e below (s₁.setTop (mkF m 0 #[.val (.ref q), .val (.ref (P i))] [])) _
      refine XS.aloadN X0.here hx rfl (hb hby d6_0) rfl rfl ?_
      show Steps p.tables e below (s₁.setTop (mkF m 1 #[.val (.ref q), .val (.ref (P i))] [(.ref (P i))])) _
      refine own_getR X0 hx hZ hown (hw _ (List.mem_of_getElem? (i := 34) rfl)) e0 Fq (g := (mkF m 1 #[.val (.ref q), .val (.ref (P i))] [(.ref (P i))])) rfl rfl (hb hby d6_1) _ ?_
      show Steps p.tables e below (s₁.setTop (mkF m 4 #[.val (.ref q), .val (.ref (P i))] [(.int (0 : Int32))])) _
      refine XS.ifYes X0.here hx rfl (pc0 := 4) (pc' := 8) rfl (hb hby d6_4) rfl ((if0 _ _).trans (teq (by decide : (0 : Int32) = (0 : Int32))).1) (by decide) (by decide) ?_
      show Steps p.tables e below (s₁.setTop (mkF m 8 #[.val (.ref q), .val (.ref (P i))] [])) _
      refine XS.aloadN X0.here hx rfl (hb hby d6_8) rfl rfl ?_
      show Steps p.tables e below (s₁.setTop (mkF m 9 #[.val (.ref q), .val (.ref (P i))] [(.ref (P i))])) _
      refine XS.iconst X0.here hx rfl (hb hby d6_9) ?_
      show Steps p.tables e below (s₁.setTop (mkF m 10 #[.val (.ref q), .val (.ref (P i))] [(.int (1 : Int32)), (.ref (P i))])) _
      refine st1 _ ?_
      show Steps p.tables e below (T1.setTop (mkF m 13 #[.val (.ref q), .val (.ref (P i))] [])) _
      refine XS.aloadN X1.here hx rfl (hb hby d6_13) rfl rfl ?_
      show Steps p.tables e below (T1.setTop (mkF m 14 #[.val (.ref q), .val (.ref (P i))] [(.ref q)])) _
      refine st2 _ ?_
      show Steps p.tables e below (T2.setTop (mkF m 17 #[.val (.ref q), .val (.ref (P i))] [(.ref (P k))])) _
      refine XS.ifnonnullYes X2.here hx rfl (pc0 := 17) (pc' := 28) rfl (hb hby d6_17) rfl (by decide) (by decide) ?_
      show Steps p.tables e below (T2.setTop (mkF m 28 #[.val (.ref q), .val (.ref (P i))] [])) _
      refine XS.aloadN X2.here hx rfl (hb hby d6_28) rfl rfl ?_
      show Steps p.tables e below (T2.setTop (mkF m 29 #[.val (.ref q), .val (.ref (P i))] [(.ref q)])) _
      refine st3 _ ?_
      show Steps p.tables e below (T3.setTop (mkF m 32 #[.val (.ref q), .val (.ref (P i))] [(.ref (P k))])) _
      refine XS.aloadN X3.here hx rfl (hb hby d6_32) rfl rfl ?_
      show Steps p.tables e below (T3.setTop (mkF m 33 #[.val (.ref q), .val (.ref (P i))] [(.ref (P i)), (.ref (P k))])) _
      refine st4 _ ?_
      show Steps p.tables e below (T4.setTop (mkF m 36 #[.val (.ref q), .val (.ref (P i))] [])) _
      refine XS.aloadN X4.here hx rfl (hb hby d6_36) rfl rfl ?_
      show Steps p.tables e below (T4.setTop (mkF m 37 #[.val (.ref q), .val (.ref (P i))] [(.ref q)])) _
      refine XS.aloadN X4.here hx rfl (hb hby d6_37) rfl rfl ?_
      show Steps p.tables e below (T4.setTop (mkF m 38 #[.val (.ref q), .val (.ref (P i))] [(.ref (P i)), (.ref q)])) _
      refine st5 _ ?_
      show Steps p.tables e below (T5.setTop (mkF m 41 #[.val (.ref q), .val (.ref (P i))] [])) _
      exact X5.returnOut hx Bd.returns (hb hby d6_41) hr
    · show Q6 Z q P l0 i h0 n0 _ T5.heap _
      rw [e5]
      exact ⟨rfl, N5, K5, by rw [own_add_no hm]; exact own_add1 ho.1 hl G5⟩
theorem d9_0 : decode prog_293_method_4_code 0 = .ok (.aload_n 0, 1) := by decide +kernel
theorem d9_1 : decode prog_293_method_4_code 1 = .ok (.getfield 19, 3) := by decide +kernel
theorem d9_4 : decode prog_293_method_4_code 4 = .ok (.astore_n 1, 1) := by decide +kernel
theorem d9_5 : decode prog_293_method_4_code 5 = .ok (.aconst_null, 1) := by decide +kernel
theorem d9_6 : decode prog_293_method_4_code 6 = .ok (.astore_n 2, 1) := by decide +kernel
theorem d9_7 : decode prog_293_method_4_code 7 = .ok (.aload_n 1, 1) := by decide +kernel
theorem d9_8 : decode prog_293_method_4_code 8 = .ok (.ifnull 38, 3) := by decide +kernel
theorem d9_11 : decode prog_293_method_4_code 11 = .ok (.aload_n 0, 1) := by decide +kernel
theorem d9_12 : decode prog_293_method_4_code 12 = .ok (.aload_n 1, 1) := by decide +kernel
theorem d9_13 : decode prog_293_method_4_code 13 = .ok (.getfield 22, 3) := by decide +kernel
theorem d9_16 : decode prog_293_method_4_code 16 = .ok (.putfield 19, 3) := by decide +kernel
theorem d9_19 : decode prog_293_method_4_code 19 = .ok (.aload_n 0, 1) := by decide +kernel
theorem d9_20 : decode prog_293_method_4_code 20 = .ok (.getfield 19, 3) := by decide +kernel
theorem d9_23 : decode prog_293_method_4_code 23 = .ok (.ifnonnull 8, 3) := by decide +kernel
theorem d9_26 : decode prog_293_method_4_code 26 = .ok (.aload_n 0, 1) := by decide +kernel
theorem d9_27 : decode prog_293_method_4_code 27 = .ok (.aconst_null, 1) := by decide +kernel
theorem d9_28 : decode prog_293_method_4_code 28 = .ok (.putfield 13, 3) := by decide +kernel
theorem d9_31 : decode prog_293_method_4_code 31 = .ok (.aload_n 1, 1) := by decide +kernel
theorem d9_32 : decode prog_293_method_4_code 32 = .ok (.aconst_null, 1) := by decide +kernel
theorem d9_33 : decode prog_293_method_4_code 33 = .ok (.putfield 22, 3) := by decide +kernel
theorem d9_36 : decode prog_293_method_4_code 36 = .ok (.aload_n 1, 1) := by decide +kernel
theorem d9_37 : decode prog_293_method_4_code 37 = .ok (.iconst 0, 1) := by decide +kernel
theorem d9_38 : decode prog_293_method_4_code 38 = .ok (.putfield 7, 3) := by decide +kernel
theorem d9_41 : decode prog_293_method_4_code 41 = .ok (.aload_n 1, 1) := by decide +kernel
theorem d9_42 : decode prog_293_method_4_code 42 = .ok (.getfield 25, 3) := by decide +kernel
theorem d9_45 : decode prog_293_method_4_code 45 = .ok (.astore_n 2, 1) := by decide +kernel
theorem d9_46 : decode prog_293_method_4_code 46 = .ok (.aload_n 2, 1) := by decide +kernel
theorem d9_47 : decode prog_293_method_4_code 47 = .ok (.areturn, 1) := by decide +kernel
theorem pn_9 : plainName "com/example/bulkwire/bulkwire/server/TurnQueue" = true := by first | (simp [plainName, overriddenIn]; done) | decide +kernel
theorem ef_9 (m : MethodId) (q : Addr) : entryFrame m #[(.ref q)] 3 = mkF m 0 #[.val (.ref q), .unset, .unset] [] := by first | (simp [entryFrame, mkF, argsToLocals, Value.category]; done) | rfl
def Q9 (Z : State) (q : Addr) (P : Nat → Addr) (l0 : List Nat) (h0 : Heap) (n0 : Nat) (v : Option Value) (h : Heap) (L : List Loc) : Prop := v = some .null ∧ Fr n0 L ∧ Keep h0 h [q, P 0, P 1, P 2] ∧ own_ql Z h q P l0.tail
set_option maxRecDepth 65536 in
set_option maxHeartbeats 40000000 in
theorem rm9 (l : Launch) (Z : State) (a0 : Array Value) (hw : ∀ d ∈ tables_1, d.before a0 Z = true) (ws : List Jvm.Cond) (q : Addr) (h0 : Heap) (n0 : Nat) (Z0 : n0 ≤ h0.size) (P : Nat → Addr) (l0 : List Nat) (ps mm : Addr) (hfx : own_fix n0 q ps mm P) (ho : own_ok l0) (G0 : own_ql Z h0 q P l0) :
    MetFree l (⟨"com/example/bulkwire/bulkwire/server/TurnQueue", "poll", "()Lcom/example/bulkwire/bulkwire/server/Connection;"⟩ : MethodName) (head1 (Jvm.Cond.code (⟨"com/example/bulkwire/bulkwire/server/TurnQueue", "poll", "()Lcom/example/bulkwire/bulkwire/server/Connection;"⟩ : MethodName) prog_293_method_4_code 3 (some (.object "com/example/bulkwire/bulkwire/server/Connection")) :: ws) ({ frames := 0, cells := 0, slots := 0, locals := 0 } : Room)) (fun a U => a = #[(.ref q)] ∧ Z.Warmed39 U.vm ∧ U.heap = h0) (fun _ _ _ _ _ => True) (fun _ U o U' => ∃ v L, o = .returned v ∧ Q9 Z q P l0 h0 n0 v U'.heap L ∧ FrameEnd U o U' L ({ frames := 0, cells := 0, slots := 0, locals := 0 } : Room).cells ({ frames := 0, cells := 0, slots := 0, locals := 0 } : Room).slots) := by
  refine MetFree.of_bodySF (plainFor_of_name pn_9) hisR ?_
  intro p e s m args below meth c s₁ Bd hml0 hP hK
  obtain ⟨rfl, hZ, hh⟩ := hP
  have hx := Bd.exec
  have hby := Bd.bytes
  have hml : c.maxLocals = 3 := hml0
  have hown : s.vm.findClass "com/example/bulkwire/bulkwire/server/TurnQueue" = some m.cls := findClass_of_methodNamed Bd.named
  have hnm := (name_of_methodNamed Bd.named Bd.method).1
  have X0 : Stand p l e ({ frames := 0, cells := 0, slots := 0, locals := 0 } : Room) s m #[(.ref q)] below meth c s₁ [] 0 0 := Stand.of_body Bd
  have e0 : s₁.heap = h0 := by rw [← hh, Bd.state]; rfl
  have N0 := Fr.nil n0
  have pre0 : ∀ t, Steps p.tables e below (s₁.setTop (mkF m 0 #[.val (.ref q), .unset, .unset] [])) t → Steps p.tables e below (s₁.setTop (entryFrame m #[(.ref q)] 3)) t := fun t k => castTop (ef_9 m q) k
  rcases l0 with _ | ⟨i, _ | ⟨j, t⟩⟩
  · obtain ⟨T1, X1, e1, st1⟩ := getF X0 hx hZ hown (host := "") (Or.inl (hw _ (List.mem_of_getElem? (i := 38) rfl))) Via.refl e0 G0.2.1 (g := (mkF m 1 #[.val (.ref q), .unset, .unset] [(.ref q)])) rfl rfl (hb hby d9_1)
    obtain ⟨fs, hr, hrun, hended, hW, hsame⟩ := X1.leave (v := some .null) (fun h => by rw [Bd.returns] at h; cases h)
    refine ⟨_, _, pre0 _ ?_, hrun, hended, _, _, rfl, ?_, ⟨_, rfl⟩, hW, hsame.mono (by decide) (by decide)⟩
    · show Steps p.tables e below (s₁.setTop (mkF m 0 #[.val (.ref q), .unset, .unset] [])) _
      refine XS.aloadN X0.here hx rfl (hb hby d9_0) rfl rfl ?_
      show Steps p.tables e below (s₁.setTop (mkF m 1 #[.val (.ref q), .unset, .unset] [(.ref q)])) _
      refine st1 _ ?_
      show Steps p.tables e below (T1.setTop (mkF m 4 #[.val (.ref q), .unset, .unset] [.null])) _
      refine XS.astoreN X1.here hx rfl (hb hby d9_4) rfl rfl (l' := #[.val (.ref q), .val .null, .unset]) rfl ?_
      show Steps p.tables e below (T1.setTop (mkF m 5 #[.val (.ref q), .val .null, .unset] [])) _
      refine XS.aconstNull X1.here hx rfl (hb hby d9_5) ?_
      show Steps p.tables e below (T1.setTop (mkF m 6 #[.val (.ref q), .val .null, .unset] [.null])) _
      refine XS.astoreN X1.here hx rfl (hb hby d9_6) rfl rfl (l' := #[.val (.ref q), .val .null, .val .null]) rfl ?_
      show Steps p.tables e below (T1.setTop (mkF m 7 #[.val (.ref q), .val .null, .val .null] [])) _
      refine XS.aloadN X1.here hx rfl (hb hby d9_7) rfl rfl ?_
      show Steps p.tables e below (T1.setTop (mkF m 8 #[.val (.ref q), .val .null, .val .null] [.null])) _
      refine XS.ifnullYes X1.here hx rfl (pc0 := 8) (pc' := 46) rfl (hb hby d9_8) rfl (by decide) (by decide) ?_
      show Steps p.tables e below (T1.setTop (mkF m 46 #[.val (.ref q), .val .null, .val .null] [])) _
      refine XS.aloadN X1.here hx rfl (hb hby d9_46) rfl rfl ?_
      show Steps p.tables e below (T1.setTop (mkF m 47 #[.val (.ref q), .val .null, .val .null] [.null])) _
      jvm_step X1.here [X1.here.top, hx, (hb hby d9_47), X1.method', Bd.returns, Value.isRef, FieldType.isReference]
      first | (intro acts; rw [hr _ acts rfl rfl rfl]) | rw [hr _ _ rfl rfl rfl]
      exact Steps.refl _
    · show Q9 Z q P [] h0 n0 _ T1.heap _
      rw [e1]
      exact ⟨rfl, N0, (Keep.refl h0 [q, P 0, P 1, P 2]), G0⟩
  · have hi : i < 3 := ho.2 i (by simp)
    have G0 : own_qf Z h0 q P (.ref (P i)) (.ref (P i)) (own_in [i]) (fun j => own_ref P (own_nx [i] j)) := G0
    have Fn : Fld Z h0 (P i) "com/example/bulkwire/bulkwire/server/TurnQueue$Place" "next" "Lcom/example/bulkwire/bulkwire/server/TurnQueue$Place;" .null := (G0.2.2.2 i hi).2.2.2
    obtain ⟨T1, X1, e1, st1⟩ := getF X0 hx hZ hown (host := "") (Or.inl (hw _ (List.mem_of_getElem? (i := 38) rfl))) Via.refl e0 G0.2.1 (g := (mkF m 1 #[.val (.ref q), .unset, .unset] [(.ref q)])) rfl rfl (hb hby d9_1)
    obtain ⟨T2, h2, X2, e2, W2, st2⟩ := putF X1 hx hZ hown (host := "") (Or.inl (hw _ (List.mem_of_getElem? (i := 38) rfl))) Via.refl e1 G0.2.1 G0.1 (Or.inl (hw _ (List.mem_of_getElem? (i := 39) rfl))) (hw _ (List.mem_of_getElem? (i := 1) rfl)) (ty := (.object "com/example/bulkwire/bulkwire/server/TurnQueue$Place")) (by decide) rfl rfl (g := (mkF m 16 #[.val (.ref q), .val (.ref (P i)), .val .null] [.null, (.ref q)])) rfl rfl (hb hby d9_16)
    have G2 := own_wfirst (Or.inl (hw _ (List.mem_of_getElem? (i := 39) rfl))) (Or.inl (hw _ (List.mem_of_getElem? (i := 37) rfl))) G0 W2
    have K2 : Keep h0 h2 [q, P 0, P 1, P 2] := (Keep.refl h0 [q, P 0, P 1, P 2]).wr W2 (Or.inl (by simp))
    have N2 := Fr.snoc X2 N0 hfx.1
    obtain ⟨T3, X3, e3, st3⟩ := getF X2 hx hZ hown (host := "") (Or.inl (hw _ (List.mem_of_getElem? (i := 38) rfl))) Via.refl e2 G2.2.1 (g := (mkF m 20 #[.val (.ref q), .val (.ref (P i)), .val .null] [(.ref q)])) rfl rfl (hb hby d9_20)
    obtain ⟨T4, h4, X4, e4, W4, st4⟩ := putF X3 hx hZ hown (host := "") (Or.inl (hw _ (List.mem_of_getElem? (i := 36) rfl))) Via.refl e3 G2.2.2.1 G2.1 (Or.inl (hw _ (List.mem_of_getElem? (i := 37) rfl))) (hw _ (List.mem_of_getElem? (i := 1) rfl)) (ty := (.object "com/example/bulkwire/bulkwire/server/TurnQueue$Place")) (by decide) rfl rfl (g := (mkF m 28 #[.val (.ref q), .val (.ref (P i)), .val .null] [.null, (.ref q)])) rfl rfl (hb hby d9_28)
    have G4 := own_wlast (Or.inl (hw _ (List.mem_of_getElem? (i := 39) rfl))) (Or.inl (hw _ (List.mem_of_getElem? (i := 37) rfl))) G2 W4
    have K4 : Keep h0 h4 [q, P 0, P 1, P 2] := K2.wr W4 (Or.inl (by simp))
    have N4 := Fr.snoc X4 N2 hfx.1
    obtain ⟨T5, h5, X5, e5, W5, st5⟩ := own_putR X4 hx hZ hown (hw _ (List.mem_of_getElem? (i := 51) rfl)) e4 (G4.2.2.2 i hi).2.2.2 (G4.2.2.2 i hi).1 (hw _ (List.mem_of_getElem? (i := 52) rfl)) (hw _ (List.mem_of_getElem? (i := 11) rfl)) (ty := (.object "com/example/bulkwire/bulkwire/server/TurnQueue$Place")) (by decide) rfl rfl (g := (mkF m 33 #[.val (.ref q), .val (.ref (P i)), .val .null] [.null, (.ref (P i))])) rfl rfl (hb hby d9_33)
    have G5 := own_wnx hfx.2.2.2.2 (Or.inr (hw _ (List.mem_of_getElem? (i := 18) rfl))) (Or.inl (hw _ (List.mem_of_getElem? (i := 35) rfl))) (Or.inl (hw _ (List.mem_of_getElem? (i := 52) rfl))) G4 hi W5
    have K5 : Keep h0 h5 [q, P 0, P 1, P 2] := K4.wr W5 (Or.inl (own_memP q P hi))
    have N5 := Fr.snoc X5 N4 (hfx.2.1 i hi)
    obtain ⟨T6, h6, X6, e6, W6, st6⟩ := own_putR X5 hx hZ hown (hw _ (List.mem_of_getElem? (i := 34) rfl)) e5 (G5.2.2.2 i hi).2.2.1 (G5.2.2.2 i hi).1 (hw _ (List.mem_of_getElem? (i := 35) rfl)) (hw _ (List.mem_of_getElem? (i := 11) rfl)) (ty := .boolean) (by decide) rfl rfl (g := (mkF m 38 #[.val (.ref q), .val (.ref (P i)), .val .null] [(.int (0 : Int32)), (.ref (P i))])) rfl rfl (hb hby d9_38)
    have G6 := own_wqu hfx.2.2.2.2 (Or.inr (hw _ (List.mem_of_getElem? (i := 18) rfl))) (Or.inl (hw _ (List.mem_of_getElem? (i := 35) rfl))) (Or.inl (hw _ (List.mem_of_getElem? (i := 52) rfl))) G5 hi W6
    have K6 : Keep h0 h6 [q, P 0, P 1, P 2] := K5.wr W6 (Or.inl (own_memP q P hi))
    have N6 := Fr.snoc X6 N5 (hfx.2.1 i hi)
    obtain ⟨fs, hr, hrun, hended, hW, hsame⟩ := X6.leave (v := some .null) (fun h => by rw [Bd.returns] at h; cases h)
    refine ⟨_, _, pre0 _ ?_, hrun, hended, _, _, rfl, ?_, ⟨_, rfl⟩, hW, hsame.mono (by decide) (by decide)⟩
    · show Steps p.tables e below (s₁.setTop (mkF m 0 #[.val (.ref q), .unset, .unset] [])) _
      refine XS.aloadN X0.here hx rfl (hb hby d9_0) rfl rfl ?_
      show Steps p.tables e below (s₁.setTop (mkF m 1 #[.val (.ref q), .unset, .unset] [(.ref q)])) _
      refine st1 _ ?_
      show Steps p.tables e below (T1.setTop (mkF m 4 #[.val (.ref q), .unset, .unset] [(.ref (P i))])) _
      refine XS.astoreN X1.here hx rfl (hb hby d9_4) rfl rfl (l' := #[.val (.ref q), .val (.ref (P i)), .unset]) rfl ?_
      show Steps p.tables e below (T1.setTop (mkF m 5 #[.val (.ref q), .val (.ref (P i)), .unset] [])) _
      refine XS.aconstNull X1.here hx rfl (hb hby d9_5) ?_
      show Steps p.tables e below (T1.setTop (mkF m 6 #[.val (.ref q), .val (.ref (P i)), .unset] [.null])) _
      refine XS.astoreN X1.here hx rfl (hb hby d9_6) rfl rfl (l' := #[.val (.ref q), .val (.ref (P i)), .val .null]) rfl ?_
      show Steps p.tables e below (T1.setTop (mkF m 7 #[.val (.ref q), .val (.ref (P i)), .val .null] [])) _
      refine XS.aloadN X1.here hx rfl (hb hby d9_7) rfl rfl ?_
      show Steps p.tables e below (T1.setTop (mkF m 8 #[.val (.ref q), .val (.ref (P i)), .val .null] [(.ref (P i))])) _
      refine XS.ifnullNo X1.here hx rfl (hb hby d9_8) rfl ?_
      show Steps p.tables e below (T1.setTop (mkF m 11 #[.val (.ref q), .val (.ref (P i)), .val .null] [])) _
      refine XS.aloadN X1.here hx rfl (hb hby d9_11) rfl rfl ?_
      show Steps p.tables e below (T1.setTop (mkF m 12 #[.val (.ref q), .val (.ref (P i)), .val .null] [(.ref q)])) _
      refine XS.aloadN X1.here hx rfl (hb hby d9_12) rfl rfl ?_
      show Steps p.tables e below (T1.setTop (mkF m 13 #[.val (.ref q), .val (.ref (P i)), .val .null] [(.ref (P i)), (.ref q)])) _
      refine own_getR X1 hx hZ hown (hw _ (List.mem_of_getElem? (i := 51) rfl)) e1 Fn (g := (mkF m 13 #[.val (.ref q), .val (.ref (P i)), .val .null] [(.ref (P i)), (.ref q)])) rfl rfl (hb hby d9_13) _ ?_
      show Steps p.tables e below (T1.setTop (mkF m 16 #[.val (.ref q), .val (.ref (P i)), .val .null] [.null, (.ref q)])) _
      refine st2 _ ?_
      show Steps p.tables e below (T2.setTop (mkF m 19 #[.val (.ref q), .val (.ref (P i)), .val .null] [])) _
      refine XS.aloadN X2.here hx rfl (hb hby d9_19) rfl rfl ?_
      show Steps p.tables e below (T2.setTop (mkF m 20 #[.val (.ref q), .val (.ref (P i)), .val .null] [(.ref q)])) _
      refine st3 _ ?_
      show Steps p.tables e below (T3.setTop (mkF m 23 #[.val (.ref q), .val (.ref (P i)), .val .null] [.null])) _
      refine XS.ifnonnullNo X3.here hx rfl (hb hby d9_23) rfl ?_
      show Steps p.tables e below (T3.setTop (mkF m 26 #[.val (.ref q), .val (.ref (P i)), .val .null] [])) _
      refine XS.aloadN X3.here hx rfl (hb hby d9_26) rfl rfl ?_
      show Steps p.tables e below (T3.setTop (mkF m 27 #[.val (.ref q), .val (.ref (P i)), .val .null] [(.ref q)])) _
      refine XS.aconstNull X3.here hx rfl (hb hby d9_27) ?_
      show Steps p.tables e below (T3.setTop (mkF m 28 #[.val (.ref q), .val (.ref (P i)), .val .null] [.null, (.ref q)])) _
      refine st4 _ ?_
      show Steps p.tables e below (T4.setTop (mkF m 31 #[.val (.ref q), .val (.ref (P i)), .val .null] [])) _
      refine XS.aloadN X4.here hx rfl (hb hby d9_31) rfl rfl ?_
      show Steps p.tables e below (T4.setTop (mkF m 32 #[.val (.ref q), .val (.ref (P i)), .val .null] [(.ref (P i))])) _
      refine XS.aconstNull X4.here hx rfl (hb hby d9_32) ?_
      show Steps p.tables e below (T4.setTop (mkF m 33 #[.val (.ref q), .val (.ref (P i)), .val .null] [.null, (.ref (P i))])) _
      refine st5 _ ?_
      show Steps p.tables e below (T5.setTop (mkF m 36 #[.val (.ref q), .val (.ref (P i)), .val .null] [])) _
      refine XS.aloadN X5.here hx rfl (hb hby d9_36) rfl rfl ?_
      show Steps p.tables e below (T5.setTop (mkF m 37 #[.val (.ref q), .val (.ref (P i)), .val .null] [(.ref (P i))])) _
      refine XS.iconst X5.here hx rfl (hb hby d9_37) ?_
      show Steps p.tables e below (T5.setTop (mkF m 38 #[.val (.ref q), .val (.ref (P i)), .val .null] [(.int (0 : Int32)), (.ref (P i))])) _
      refine st6 _ ?_
      show Steps p.tables e below (T6.setTop (mkF m 41 #[.val (.ref q), .val (.ref (P i)), .val .null] [])) _
      refine XS.aloadN X6.here hx rfl (hb hby d9_41) rfl rfl ?_
      show Steps p.tables e below (T6.setTop (mkF m 42 #[.val (.ref q), .val (.ref (P i)), .val .null] [(.ref (P i))])) _
      refine own_getR X6 hx hZ hown (hw _ (List.mem_of_getElem? (i := 53) rfl)) e6 (G6.2.2.2 i hi).2.1 (g := (mkF m 42 #[.val (.ref q), .val (.ref (P i)), .val .null] [(.ref (P i))])) rfl rfl (hb hby d9_42) _ ?_
      show Steps p.tables e below (T6.setTop (mkF m 45 #[.val (.ref q), .val (.ref (P i)), .val .null] [.null])) _
      refine XS.astoreN X6.here hx rfl (hb hby d9_45) rfl rfl (l' := #[.val (.ref q), .val (.ref (P i)), .val .null]) rfl ?_
      show Steps p.tables e below (T6.setTop (mkF m 46 #[.val (.ref q), .val (.ref (P i)), .val .null] [])) _
      refine XS.aloadN X6.here hx rfl (hb hby d9_46) rfl rfl ?_
      show Steps p.tables e below (T6.setTop (mkF m 47 #[.val (.ref q), .val (.ref (P i)), .val .null] [.null])) _
      jvm_step X6.here [X6.here.top, hx, (hb hby d9_47), X6.method', Bd.returns, Value.isRef, FieldType.isReference]
      first | (intro acts; rw [hr _ acts rfl rfl rfl]) | rw [hr _ _ rfl rfl rfl]
      exact Steps.refl _
    · show Q9 Z q P [i] h0 n0 _ T6.heap _
      rw [e6]
      exact ⟨rfl, N6, K6, own_poll1 G6⟩
  · have hi : i < 3 := ho.2 i (by simp)
    have Fn : Fld Z h0 (P i) "com/example/bulkwire/bulkwire/server/TurnQueue$Place" "next" "Lcom/example/bulkwire/bulkwire/server/TurnQueue$Place;" (.ref (P j)) := (show own_ref P (own_nx (i :: j :: t) i) = .ref (P j) by simp [own_nx, own_ref]) ▸ (G0.2.2.2 i hi).2.2.2
    obtain ⟨T1, X1, e1, st1⟩ := getF X0 hx hZ hown (host := "") (Or.inl (hw _ (List.mem_of_getElem? (i := 38) rfl))) Via.refl e0 G0.2.1 (g := (mkF m 1 #[.val (.ref q), .unset, .unset] [(.ref q)])) rfl rfl (hb hby d9_1)
    obtain ⟨T2, h2, X2, e2, W2, st2⟩ := putF X1 hx hZ hown (host := "") (Or.inl (hw _ (List.mem_of_getElem? (i := 38) rfl))) Via.refl e1 G0.2.1 G0.1 (Or.inl (hw _ (List.mem_of_getElem? (i := 39) rfl))) (hw _ (List.mem_of_getElem? (i := 1) rfl)) (ty := (.object "com/example/bulkwire/bulkwire/server/TurnQueue$Place")) (by decide) rfl rfl (g := (mkF m 16 #[.val (.ref q), .val (.ref (P i)), .val .null] [(.ref (P j)), (.ref q)])) rfl rfl (hb hby d9_16)
    have G2 := own_wfirst (Or.inl (hw _ (List.mem_of_getElem? (i := 39) rfl))) (Or.inl (hw _ (List.mem_of_getElem? (i := 37) rfl))) G0 W2
    have K2 : Keep h0 h2 [q, P 0, P 1, P 2] := (Keep.refl h0 [q, P 0, P 1, P 2]).wr W2 (Or.inl (by simp))
    have N2 := Fr.snoc X2 N0 hfx.1
    obtain ⟨T3, X3, e3, st3⟩ := getF X2 hx hZ hown (host := "") (Or.inl (hw _ (List.mem_of_getElem? (i := 38) rfl))) Via.refl e2 G2.2.1 (g := (mkF m 20 #[.val (.ref q), .val (.ref (P i)), .val .null] [(.ref q)])) rfl rfl (hb hby d9_20)
    obtain ⟨T4, h4, X4, e4, W4, st4⟩ := own_putR X3 hx hZ hown (hw _ (List.mem_of_getElem? (i := 51) rfl)) e3 (G2.2.2.2 i hi).2.2.2 (G2.2.2.2 i hi).1 (hw _ (List.mem_of_getElem? (i := 52) rfl)) (hw _ (List.mem_of_getElem? (i := 11) rfl)) (ty := (.object "com/example/bulkwire/bulkwire/server/TurnQueue$Place")) (by decide) rfl rfl (g := (mkF m 33 #[.val (.ref q), .val (.ref (P i)), .val .null] [.null, (.ref (P i))])) rfl rfl (hb hby d9_33)
    have G4 := own_wnx hfx.2.2.2.2 (Or.inr (hw _ (List.mem_of_getElem? (i := 18) rfl))) (Or.inl (hw _ (List.mem_of_getElem? (i := 35) rfl))) (Or.inl (hw _ (List.mem_of_getElem? (i := 52) rfl))) G2 hi W4
    have K4 : Keep h0 h4 [q, P 0, P 1, P 2] := K2.wr W4 (Or.inl (own_memP q P hi))
    have N4 := Fr.snoc X4 N2 (hfx.2.1 i hi)
    obtain ⟨T5, h5, X5, e5, W5, st5⟩ := own_putR X4 hx hZ hown (hw _ (List.mem_of_getElem? (i := 34) rfl)) e4 (G4.2.2.2 i hi).2.2.1 (G4.2.2.2 i hi).1 (hw _ (List.mem_of_getElem? (i := 35) rfl)) (hw _ (List.mem_of_getElem? (i := 11) rfl)) (ty := .boolean) (by decide) rfl rfl (g := (mkF m 38 #[.val (.ref q), .val (.ref (P i)), .val .null] [(.int (0 : Int32)), (.ref (P i))])) rfl rfl (hb hby d9_38)
    have G5 := own_wqu hfx.2.2.2.2 (Or.inr (hw _ (List.mem_of_getElem? (i := 18) rfl))) (Or.inl (hw _ (List.mem_of_getElem? (i := 35) rfl))) (Or.inl (hw _ (List.mem_of_getElem? (i := 52) rfl))) G4 hi W5
    have K5 : Keep h0 h5 [q, P 0, P 1, P 2] := K4.wr W5 (Or.inl (own_memP q P hi))
    have N5 := Fr.snoc X5 N4 (hfx.2.1 i hi)
    obtain ⟨fs, hr, hrun, hended, hW, hsame⟩ := X5.leave (v := some .null) (fun h => by rw [Bd.returns] at h; cases h)
    refine ⟨_, _, pre0 _ ?_, hrun, hended, _, _, rfl, ?_, ⟨_, rfl⟩, hW, hsame.mono (by decide) (by decide)⟩
    · show Steps p.tables e below (s₁.setTop (mkF m 0 #[.val (.ref q), .unset, .unset] [])) _
      refine XS.aloadN X0.here hx rfl (hb hby d9_0) rfl rfl ?_
      show Steps p.tables e below (s₁.setTop (mkF m 1 #[.val (.ref q), .unset, .unset] [(.ref q)])) _
      refine st1 _ ?_
      show Steps p.tables e below (T1.setTop (mkF m 4 #[.val (.ref q), .unset, .unset] [(.ref (P i))])) _
      refine XS.astoreN X1.here hx rfl (hb hby d9_4) rfl rfl (l' := #[.val (.ref q), .val (.ref (P i)), .unset]) rfl ?_
      show Steps p.tables e below (T1.setTop (mkF m 5 #[.val (.ref q), .val (.ref (P i)), .unset] [])) _
      refine XS.aconstNull X1.here hx rfl (hb hby d9_5) ?_
      show Steps p.tables e below (T1.setTop (mkF m 6 #[.val (.ref q), .val (.ref (P i)), .unset] [.null])) _
      refine XS.astoreN X1.here hx rfl (hb hby d9_6) rfl rfl (l' := #[.val (.ref q), .val (.ref (P i)), .val .null]) rfl ?_
      show Steps p.tables e below (T1.setTop (mkF m 7 #[.val (.ref q), .val (.ref (P i)), .val .null] [])) _
      refine XS.aloadN X1.here hx rfl (hb hby d9_7) rfl rfl ?_
      show Steps p.tables e below (T1.setTop (mkF m 8 #[.val (.ref q), .val (.ref (P i)), .val .null] [(.ref (P i))])) _
      refine XS.ifnullNo X1.here hx rfl (hb hby d9_8) rfl ?_
      show Steps p.tables e below (T1.setTop (mkF m 11 #[.val (.ref q), .val (.ref (P i)), .val .null] [])) _
      refine XS.aloadN X1.here hx rfl (hb hby d9_11) rfl rfl ?_
      show Steps p.tables e below (T1.setTop (mkF m 12 #[.val (.ref q), .val (.ref (P i)), .val .null] [(.ref q)])) _
      refine XS.aloadN X1.here hx rfl (hb hby d9_12) rfl rfl ?_
      show Steps p.tables e below (T1.setTop (mkF m 13 #[.val (.ref q), .val (.ref (P i)), .val .null] [(.ref (P i)), (.ref q)])) _
      refine own_getR X1 hx hZ hown (hw _ (List.mem_of_getElem? (i := 51) rfl)) e1 Fn (g := (mkF m 13 #[.val (.ref q), .val (.ref (P i)), .val .null] [(.ref (P i)), (.ref q)])) rfl rfl (hb hby d9_13) _ ?_
      show Steps p.tables e below (T1.setTop (mkF m 16 #[.val (.ref q), .val (.ref (P i)), .val .null] [(.ref (P j)), (.ref q)])) _
      refine st2 _ ?_
      show Steps p.tables e below (T2.setTop (mkF m 19 #[.val (.ref q), .val (.ref (P i)), .val .null] [])) _
      refine XS.aloadN X2.here hx rfl (hb hby d9_19) rfl rfl ?_
      show Steps p.tables e below (T2.setTop (mkF m 20 #[.val (.ref q), .val (.ref (P i)), .val .null] [(.ref q)])) _
      refine st3 _ ?_
      show Steps p.tables e below (T3.setTop (mkF m 23 #[.val (.ref q), .val (.ref (P i)), .val .null] [(.ref (P j))])) _
      refine XS.ifnonnullYes X3.here hx rfl (pc0 := 23) (pc' := 31) rfl (hb hby d9_23) rfl (by decide) (by decide) ?_
      show Steps p.tables e below (T3.setTop (mkF m 31 #[.val (.ref q), .val (.ref (P i)), .val .null] [])) _
      refine XS.aloadN X3.here hx rfl (hb hby d9_31) rfl rfl ?_
      show Steps p.tables e below (T3.setTop (mkF m 32 #[.val (.ref q), .val (.ref (P i)), .val .null] [(.ref (P i))])) _
      refine XS.aconstNull X3.here hx rfl (hb hby d9_32) ?_
      show Steps p.tables e below (T3.setTop (mkF m 33 #[.val (.ref q), .val (.ref (P i)), .val .null] [.null, (.ref (P i))])) _
      refine st4 _ ?_
      show Steps p.tables e below (T4.setTop (mkF m 36 #[.val (.ref q), .val (.ref (P i)), .val .null] [])) _
      refine XS.aloadN X4.here hx rfl (hb hby d9_36) rfl rfl ?_
      show Steps p.tables e below (T4.setTop (mkF m 37 #[.val (.ref q), .val (.ref (P i)), .val .null] [(.ref (P i))])) _
      refine XS.iconst X4.here hx rfl (hb hby d9_37) ?_
      show Steps p.tables e below (T4.setTop (mkF m 38 #[.val (.ref q), .val (.ref (P i)), .val .null] [(.int (0 : Int32)), (.ref (P i))])) _
      refine st5 _ ?_
      show Steps p.tables e below (T5.setTop (mkF m 41 #[.val (.ref q), .val (.ref (P i)), .val .null] [])) _
      refine XS.aloadN X5.here hx rfl (hb hby d9_41) rfl rfl ?_
      show Steps p.tables e below (T5.setTop (mkF m 42 #[.val (.ref q), .val (.ref (P i)), .val .null] [(.ref (P i))])) _
      refine own_getR X5 hx hZ hown (hw _ (List.mem_of_getElem? (i := 53) rfl)) e5 (G5.2.2.2 i hi).2.1 (g := (mkF m 42 #[.val (.ref q), .val (.ref (P i)), .val .null] [(.ref (P i))])) rfl rfl (hb hby d9_42) _ ?_
      show Steps p.tables e below (T5.setTop (mkF m 45 #[.val (.ref q), .val (.ref (P i)), .val .null] [.null])) _
      refine XS.astoreN X5.here hx rfl (hb hby d9_45) rfl rfl (l' := #[.val (.ref q), .val (.ref (P i)), .val .null]) rfl ?_
      show Steps p.tables e below (T5.setTop (mkF m 46 #[.val (.ref q), .val (.ref (P i)), .val .null] [])) _
      refine XS.aloadN X5.here hx rfl (hb hby d9_46) rfl rfl ?_
      show Steps p.tables e below (T5.setTop (mkF m 47 #[.val (.ref q), .val (.ref (P i)), .val .null] [.null])) _
      jvm_step X5.here [X5.here.top, hx, (hb hby d9_47), X5.method', Bd.returns, Value.isRef, FieldType.isReference]
      first | (intro acts; rw [hr _ acts rfl rfl rfl]) | rw [hr _ _ rfl rfl rfl]
      exact Steps.refl _
    · show Q9 Z q P (i :: j :: t) h0 n0 _ T5.heap _
      rw [e5]
      exact ⟨rfl, N5, K5, own_poll2 ho.1 G5⟩
theorem d10_0 : decode prog_293_method_3_code 0 = .ok (.aload_n 1, 1) := by decide +kernel
theorem d10_1 : decode prog_293_method_3_code 1 = .ok (.getfield 7, 3) := by decide +kernel
theorem d10_4 : decode prog_293_method_3_code 4 = .ok (.ireturn, 1) := by decide +kernel
theorem pn_10 : plainName "com/example/bulkwire/bulkwire/server/TurnQueue" = true := by first | (simp [plainName, overriddenIn]; done) | decide +kernel
theorem ef_10 (m : MethodId) (q : Addr) (a2 : Addr) : entryFrame m #[(.ref q), (.ref a2)] 2 = mkF m 0 #[.val (.ref q), .val (.ref a2)] [] := by first | (simp [entryFrame, mkF, argsToLocals, Value.category]; done) | rfl
def Q10 (l0 : List Nat) (i : Nat) (h0 : Heap) (n0 : Nat) (v : Option Value) (h : Heap) (L : List Loc) : Prop := v = some (.int (own_in l0 i)) ∧ Fr n0 L ∧ h = h0
set_option maxRecDepth 65536 in
set_option maxHeartbeats 40000000 in
theorem rm10 (l : Launch) (Z : State) (a0 : Array Value) (hw : ∀ d ∈ tables_1, d.before a0 Z = true) (ws : List Jvm.Cond) (q : Addr) (a2 : Addr) (h0 : Heap) (n0 : Nat) (Z0 : n0 ≤ h0.size) (P : Nat → Addr) (l0 : List Nat) (i : Nat) (hi : i < 3) (ha : a2 = P i) (G0 : own_ql Z h0 q P l0) :
    MetFree l (⟨"com/example/bulkwire/bulkwire/server/TurnQueue", "holds", "(Lcom/example/bulkwire/bulkwire/server/TurnQueue$Place;)Z"⟩ : MethodName) (head1 (Jvm.Cond.code (⟨"com/example/bulkwire/bulkwire/server/TurnQueue", "holds", "(Lcom/example/bulkwire/bulkwire/server/TurnQueue$Place;)Z"⟩ : MethodName) prog_293_method_3_code 2 (some .boolean) :: ws) ({ frames := 0, cells := 0, slots := 0, locals := 0 } : Room)) (fun a U => a = #[(.ref q), (.ref a2)] ∧ Z.Warmed39 U.vm ∧ U.heap = h0) (fun _ _ _ _ _ => True) (fun _ U o U' => ∃ v L, o = .returned v ∧ Q10 l0 i h0 n0 v U'.heap L ∧ FrameEnd U o U' L ({ frames := 0, cells := 0, slots := 0, locals := 0 } : Room).cells ({ frames := 0, cells := 0, slots := 0, locals := 0 } : Room).slots) := by
  subst ha
  refine MetFree.of_bodySF (plainFor_of_name pn_10) hisR ?_
  intro p e s m args below meth c s₁ Bd hml0 hP hK
  obtain ⟨rfl, hZ, hh⟩ := hP
  have hx := Bd.exec
  have hby := Bd.bytes
  have hml : c.maxLocals = 2 := hml0
  have hown : s.vm.findClass "com/example/bulkwire/bulkwire/server/TurnQueue" = some m.cls := findClass_of_methodNamed Bd.named
  have hnm := (name_of_methodNamed Bd.named Bd.method).1
  have X0 : Stand p l e ({ frames := 0, cells := 0, slots := 0, locals := 0 } : Room) s m #[(.ref q), (.ref (P i))] below meth c s₁ [] 0 0 := Stand.of_body Bd
  have e0 : s₁.heap = h0 := by rw [← hh, Bd.state]; rfl
  have N0 := Fr.nil n0
  have pre0 : ∀ t, Steps p.tables e below (s₁.setTop (mkF m 0 #[.val (.ref q), .val (.ref (P i))] [])) t → Steps p.tables e below (s₁.setTop (entryFrame m #[(.ref q), (.ref (P i))] 2)) t := fun t k => castTop (ef_10 m q (P i)) k
  by_cases hm : i ∈ l0
  · have Fq : Fld Z h0 (P i) "com/example/bulkwire/bulkwire/server/TurnQueue$Place" "queued" "Z" (.int (1 : Int32)) := own_in_yes hm ▸ (G0.2.2.2 i hi).2.2.1
    obtain ⟨fs, hr, hrun, hended, hW, hsame⟩ := X0.leave (v := some (.int (1 : Int32))) (fun h => by rw [Bd.returns] at h; cases h)
    refine ⟨_, _, pre0 _ ?_, hrun, hended, _, _, rfl, ?_, ⟨_, rfl⟩, hW, hsame.mono (by decide) (by decide)⟩
    · show Steps p.tables e below (s₁.setTop (mkF m 0 #[.val (.ref q), .val (.ref (P i))] [])) _
      refine XS.aloadN X0.here hx rfl (hb hby d10_0) rfl rfl ?_
      show Steps p.tables e below (s₁.setTop (mkF m 1 #[.val (.ref q), .val (.ref (P i))] [(.ref (P i))])) _
      refine own_getR X0 hx hZ hown (hw _ (List.mem_of_getElem? (i := 34) rfl)) e0 Fq (g := (mkF m 1 #[.val (.ref q), .val (.ref (P i))] [(.ref (P i))])) rfl rfl (hb hby d10_1) _ ?_
      show Steps p.tables e below (s₁.setTop (mkF m 4 #[.val (.ref q), .val (.ref (P i))] [(.int (1 : Int32))])) _
      exact retN X0 hx (t := .boolean) Bd.returns (by simp) (hb hby d10_4) hr
    · show Q10 l0 i h0 n0 _ s₁.heap _
      rw [e0]
      exact ⟨by rw [own_in_yes hm], N0, rfl⟩
  · have Fq : Fld Z h0 (P i) "com/example/bulkwire/bulkwire/server/TurnQueue$Place" "queued" "Z" (.int (0 : Int32)) := own_in_no hm ▸ (G0.2.2.2 i hi).2.2.1
    obtain ⟨fs, hr, hrun, hended, hW, hsame⟩ := X0.leave (v := some (.int (0 : Int32))) (fun h => by rw [Bd.returns] at h; cases h)
    refine ⟨_, _, pre0 _ ?_, hrun, hended, _, _, rfl, ?_, ⟨_, rfl⟩, hW, hsame.mono (by decide) (by decide)⟩
    · show Steps p.tables e below (s₁.setTop (mkF m 0 #[.val (.ref q), .val (.ref (P i))] [])) _
      refine XS.aloadN X0.here hx rfl (hb hby d10_0) rfl rfl ?_
      show Steps p.tables e below (s₁.setTop (mkF m 1 #[.val (.ref q), .val (.ref (P i))] [(.ref (P i))])) _
      refine own_getR X0 hx hZ hown (hw _ (List.mem_of_getElem? (i := 34) rfl)) e0 Fq (g := (mkF m 1 #[.val (.ref q), .val (.ref (P i))] [(.ref (P i))])) rfl rfl (hb hby d10_1) _ ?_
      show Steps p.tables e below (s₁.setTop (mkF m 4 #[.val (.ref q), .val (.ref (P i))] [(.int (0 : Int32))])) _
      exact retN X0 hx (t := .boolean) Bd.returns (by simp) (hb hby d10_4) hr
    · show Q10 l0 i h0 n0 _ s₁.heap _
      rw [e0]
      exact ⟨by rw [own_in_no hm], N0, rfl⟩
theorem d11_0 : decode prog_293_method_5_code 0 = .ok (.aload_n 0, 1) := by decide +kernel
theorem d11_1 : decode prog_293_method_5_code 1 = .ok (.getfield 19, 3) := by decide +kernel
theorem d11_4 : decode prog_293_method_5_code 4 = .ok (.ifnonnull 7, 3) := by decide +kernel
theorem d11_7 : decode prog_293_method_5_code 7 = .ok (.iconst 1, 1) := by decide +kernel
theorem d11_8 : decode prog_293_method_5_code 8 = .ok (.goto 4, 3) := by decide +kernel
theorem d11_11 : decode prog_293_method_5_code 11 = .ok (.iconst 0, 1) := by decide +kernel
theorem d11_12 : decode prog_293_method_5_code 12 = .ok (.ireturn, 1) := by decide +kernel
theorem pn_11 : plainName "com/example/bulkwire/bulkwire/server/TurnQueue" = true := by first | (simp [plainName, overriddenIn]; done) | decide +kernel
theorem ef_11 (m : MethodId) (q : Addr) : entryFrame m #[(.ref q)] 1 = mkF m 0 #[.val (.ref q)] [] := by first | (simp [entryFrame, mkF, argsToLocals, Value.category]; done) | rfl
def Q11 (l0 : List Nat) (h0 : Heap) (n0 : Nat) (v : Option Value) (h : Heap) (L : List Loc) : Prop := v = some (.int (own_em l0)) ∧ Fr n0 L ∧ h = h0
set_option maxRecDepth 65536 in
set_option maxHeartbeats 40000000 in
theorem rm11 (l : Launch) (Z : State) (a0 : Array Value) (hw : ∀ d ∈ tables_1, d.before a0 Z = true) (ws : List Jvm.Cond) (q : Addr) (h0 : Heap) (n0 : Nat) (Z0 : n0 ≤ h0.size) (P : Nat → Addr) (l0 : List Nat) (G0 : own_ql Z h0 q P l0) :
    MetFree l (⟨"com/example/bulkwire/bulkwire/server/TurnQueue", "isEmpty", "()Z"⟩ : MethodName) (head1 (Jvm.Cond.code (⟨"com/example/bulkwire/bulkwire/server/TurnQueue", "isEmpty", "()Z"⟩ : MethodName) prog_293_method_5_code 1 (some .boolean) :: ws) ({ frames := 0, cells := 0, slots := 0, locals := 0 } : Room)) (fun a U => a = #[(.ref q)] ∧ Z.Warmed39 U.vm ∧ U.heap = h0) (fun _ _ _ _ _ => True) (fun _ U o U' => ∃ v L, o = .returned v ∧ Q11 l0 h0 n0 v U'.heap L ∧ FrameEnd U o U' L ({ frames := 0, cells := 0, slots := 0, locals := 0 } : Room).cells ({ frames := 0, cells := 0, slots := 0, locals := 0 } : Room).slots) := by
  refine MetFree.of_bodySF (plainFor_of_name pn_11) hisR ?_
  intro p e s m args below meth c s₁ Bd hml0 hP hK
  obtain ⟨rfl, hZ, hh⟩ := hP
  have hx := Bd.exec
  have hby := Bd.bytes
  have hml : c.maxLocals = 1 := hml0
  have hown : s.vm.findClass "com/example/bulkwire/bulkwire/server/TurnQueue" = some m.cls := findClass_of_methodNamed Bd.named
  have hnm := (name_of_methodNamed Bd.named Bd.method).1
  have X0 : Stand p l e ({ frames := 0, cells := 0, slots := 0, locals := 0 } : Room) s m #[(.ref q)] below meth c s₁ [] 0 0 := Stand.of_body Bd
  have e0 : s₁.heap = h0 := by rw [← hh, Bd.state]; rfl
  have N0 := Fr.nil n0
  have pre0 : ∀ t, Steps p.tables e below (s₁.setTop (mkF m 0 #[.val (.ref q)] [])) t → Steps p.tables e below (s₁.setTop (entryFrame m #[(.ref q)] 1)) t := fun t k => castTop (ef_11 m q) k
  rcases l0 with _ | ⟨i, t⟩
  · obtain ⟨T1, X1, e1, st1⟩ := getF X0 hx hZ hown (host := "") (Or.inl (hw _ (List.mem_of_getElem? (i := 38) rfl))) Via.refl e0 G0.2.1 (g := (mkF m 1 #[.val (.ref q)] [(.ref q)])) rfl rfl (hb hby d11_1)
    obtain ⟨fs, hr, hrun, hended, hW, hsame⟩ := X1.leave (v := some (.int (1 : Int32))) (fun h => by rw [Bd.returns] at h; cases h)
    refine ⟨_, _, pre0 _ ?_, hrun, hended, _, _, rfl, ?_, ⟨_, rfl⟩, hW, hsame.mono (by decide) (by decide)⟩
    · show Steps p.tables e below (s₁.setTop (mkF m 0 #[.val (.ref q)] [])) _
      refine XS.aloadN X0.here hx rfl (hb hby d11_0) rfl rfl ?_
      show Steps p.tables e below (s₁.setTop (mkF m 1 #[.val (.ref q)] [(.ref q)])) _
      refine st1 _ ?_
      show Steps p.tables e below (T1.setTop (mkF m 4 #[.val (.ref q)] [.null])) _
      refine XS.ifnonnullNo X1.here hx rfl (hb hby d11_4) rfl ?_
      show Steps p.tables e below (T1.setTop (mkF m 7 #[.val (.ref q)] [])) _
      refine XS.iconst X1.here hx rfl (hb hby d11_7) ?_
      show Steps p.tables e below (T1.setTop (mkF m 8 #[.val (.ref q)] [(.int (1 : Int32))])) _
      refine XS.goto X1.here hx rfl (pc0 := 8) (pc' := 12) rfl (hb hby d11_8) (by decide) (by decide) ?_
      show Steps p.tables e below (T1.setTop (mkF m 12 #[.val (.ref q)] [(.int (1 : Int32))])) _
      exact retN X1 hx (t := .boolean) Bd.returns (by simp) (hb hby d11_12) hr
    · show Q11 [] h0 n0 _ T1.heap _
      rw [e1]
      exact ⟨rfl, N0, rfl⟩
  · obtain ⟨T1, X1, e1, st1⟩ := getF X0 hx hZ hown (host := "") (Or.inl (hw _ (List.mem_of_getElem? (i := 38) rfl))) Via.refl e0 G0.2.1 (g := (mkF m 1 #[.val (.ref q)] [(.ref q)])) rfl rfl (hb hby d11_1)
    obtain ⟨fs, hr, hrun, hended, hW, hsame⟩ := X1.leave (v := some (.int (0 : Int32))) (fun h => by rw [Bd.returns] at h; cases h)
    refine ⟨_, _, pre0 _ ?_, hrun, hended, _, _, rfl, ?_, ⟨_, rfl⟩, hW, hsame.mono (by decide) (by decide)⟩
    · show Steps p.tables e below (s₁.setTop (mkF m 0 #[.val (.ref q)] [])) _
      refine XS.aloadN X0.here hx rfl (hb hby d11_0) rfl rfl ?_
      show Steps p.tables e below (s₁.setTop (mkF m 1 #[.val (.ref q)] [(.ref q)])) _
      refine st1 _ ?_
      show Steps p.tables e below (T1.setTop (mkF m 4 #[.val (.ref q)] [(.ref (P i))])) _
      refine XS.ifnonnullYes X1.here hx rfl (pc0 := 4) (pc' := 11) rfl (hb hby d11_4) rfl (by decide) (by decide) ?_
      show Steps p.tables e below (T1.setTop (mkF m 11 #[.val (.ref q)] [])) _
      refine XS.iconst X1.here hx rfl (hb hby d11_11) ?_
      show Steps p.tables e below (T1.setTop (mkF m 12 #[.val (.ref q)] [(.int (0 : Int32))])) _
      exact retN X1 hx (t := .boolean) Bd.returns (by simp) (hb hby d11_12) hr
    · show Q11 (i :: t) h0 n0 _ T1.heap _
      rw [e1]
      exact ⟨rfl, N0, rfl⟩
theorem d7_0 : decode method_5_code 0 = .ok (.aload_n 0, 1) := by decide +kernel
theorem d7_1 : decode method_5_code 1 = .ok (.iconst 3, 1) := by decide +kernel
theorem d7_2 : decode method_5_code 2 = .ok (.iaload, 1) := by decide +kernel
theorem d7_3 : decode method_5_code 3 = .ok (.istore_n 2, 1) := by decide +kernel
theorem d7_4 : decode method_5_code 4 = .ok (.iload_n 2, 1) := by decide +kernel
theorem d7_5 : decode method_5_code 5 = .ok (.ifCond .le 10, 3) := by decide +kernel
theorem d7_8 : decode method_5_code 8 = .ok (.aload_n 0, 1) := by decide +kernel
theorem d7_9 : decode method_5_code 9 = .ok (.iconst 0, 1) := by decide +kernel
theorem d7_10 : decode method_5_code 10 = .ok (.iaload, 1) := by decide +kernel
theorem d7_11 : decode method_5_code 11 = .ok (.iload_n 1, 1) := by decide +kernel
theorem d7_12 : decode method_5_code 12 = .ok (.if_icmp .eq 27, 3) := by decide +kernel
theorem d7_15 : decode method_5_code 15 = .ok (.iload_n 2, 1) := by decide +kernel
theorem d7_16 : decode method_5_code 16 = .ok (.iconst 1, 1) := by decide +kernel
theorem d7_17 : decode method_5_code 17 = .ok (.if_icmp .le 10, 3) := by decide +kernel
theorem d7_20 : decode method_5_code 20 = .ok (.aload_n 0, 1) := by decide +kernel
theorem d7_21 : decode method_5_code 21 = .ok (.iconst 1, 1) := by decide +kernel
theorem d7_22 : decode method_5_code 22 = .ok (.iaload, 1) := by decide +kernel
theorem d7_23 : decode method_5_code 23 = .ok (.iload_n 1, 1) := by decide +kernel
theorem d7_24 : decode method_5_code 24 = .ok (.if_icmp .eq 15, 3) := by decide +kernel
theorem d7_27 : decode method_5_code 27 = .ok (.iload_n 2, 1) := by decide +kernel
theorem d7_28 : decode method_5_code 28 = .ok (.iconst 2, 1) := by decide +kernel
theorem d7_29 : decode method_5_code 29 = .ok (.if_icmp .le 14, 3) := by decide +kernel
theorem d7_32 : decode method_5_code 32 = .ok (.aload_n 0, 1) := by decide +kernel
theorem d7_33 : decode method_5_code 33 = .ok (.iconst 2, 1) := by decide +kernel
theorem d7_34 : decode method_5_code 34 = .ok (.iaload, 1) := by decide +kernel
theorem d7_35 : decode method_5_code 35 = .ok (.iload_n 1, 1) := by decide +kernel
theorem d7_36 : decode method_5_code 36 = .ok (.if_icmp .ne 7, 3) := by decide +kernel
theorem d7_39 : decode method_5_code 39 = .ok (.iconst 1, 1) := by decide +kernel
theorem d7_40 : decode method_5_code 40 = .ok (.goto 4, 3) := by decide +kernel
theorem d7_43 : decode method_5_code 43 = .ok (.iconst 0, 1) := by decide +kernel
theorem d7_44 : decode method_5_code 44 = .ok (.ireturn, 1) := by decide +kernel
theorem pn_7 : plainName "com/example/bulkwire/bulkwire/server/TurnQueuePollPinLaw" = true := by first | (simp [plainName, overriddenIn]; done) | decide +kernel
theorem ef_7 (m : MethodId) (mm : Addr) (p2 : Int32) : entryFrame m #[(.ref mm), (.int p2)] 3 = mkF m 0 #[.val (.ref mm), .val (.int p2), .unset] [] := by first | (simp [entryFrame, mkF, argsToLocals, Value.category]; done) | rfl
def Q7 (a b c n p2 : Int32) (h0 : Heap) (n0 : Nat) (v : Option Value) (h : Heap) (L : List Loc) : Prop := v = some (.int (own_cn a b c n p2)) ∧ Fr n0 L ∧ h = h0
set_option maxRecDepth 65536 in
set_option maxHeartbeats 40000000 in
theorem rm7 (l : Launch) (Z : State) (a0 : Array Value) (hw : ∀ d ∈ tables_1, d.before a0 Z = true) (ws : List Jvm.Cond) (mm : Addr) (p2 : Int32) (h0 : Heap) (n0 : Nat) (Z0 : n0 ≤ h0.size) (km : ClassId) (va vb vc vn : Int32) (A0 : Arv Z h0 mm km .int 4 [.int va, .int vb, .int vc, .int vn] (.int 0)) :
    MetFree l (⟨"com/example/bulkwire/bulkwire/server/TurnQueuePollPinLaw", "contains", "([II)Z"⟩ : MethodName) (head1 (Jvm.Cond.code (⟨"com/example/bulkwire/bulkwire/server/TurnQueuePollPinLaw", "contains", "([II)Z"⟩ : MethodName) method_5_code 3 (some .boolean) :: ws) ({ frames := 0, cells := 0, slots := 0, locals := 0 } : Room)) (fun a U => a = #[(.ref mm), (.int p2)] ∧ Z.Warmed39 U.vm ∧ U.heap = h0) (fun _ _ _ _ _ => True) (fun _ U o U' => ∃ v L, o = .returned v ∧ Q7 va vb vc vn p2 h0 n0 v U'.heap L ∧ FrameEnd U o U' L ({ frames := 0, cells := 0, slots := 0, locals := 0 } : Room).cells ({ frames := 0, cells := 0, slots := 0, locals := 0 } : Room).slots) := by
  refine MetFree.of_bodySF (plainFor_of_name pn_7) hisR ?_
  intro p e s m args below meth c s₁ Bd hml0 hP hK
  obtain ⟨rfl, hZ, hh⟩ := hP
  have hx := Bd.exec
  have hby := Bd.bytes
  have hml : c.maxLocals = 3 := hml0
  have hown : s.vm.findClass "com/example/bulkwire/bulkwire/server/TurnQueuePollPinLaw" = some m.cls := findClass_of_methodNamed Bd.named
  have hnm := (name_of_methodNamed Bd.named Bd.method).1
  have X0 : Stand p l e ({ frames := 0, cells := 0, slots := 0, locals := 0 } : Room) s m #[(.ref mm), (.int p2)] below meth c s₁ [] 0 0 := Stand.of_body Bd
  have e0 : s₁.heap = h0 := by rw [← hh, Bd.state]; rfl
  have N0 := Fr.nil n0
  have pre0 : ∀ t, Steps p.tables e below (s₁.setTop (mkF m 0 #[.val (.ref mm), .val (.int p2), .unset] [])) t → Steps p.tables e below (s₁.setTop (entryFrame m #[(.ref mm), (.int p2)] 3)) t := fun t k => castTop (ef_7 m mm p2) k
  by_cases hc5 : (0 : Int32) < vn
  · by_cases hc12 : va = p2
    · obtain ⟨cl1, Ar1, qq1, S1, Nn1, H1, Gg1⟩ := id A0
      have hin1 : ¬ ((3 : Int32) < 0 ∨ cl1.slots.size ≤ ((3 : Int32)).toNatClampNeg) := inb_of S1 ⟨by decide, by decide⟩
      obtain ⟨cl2, Ar2, qq2, S2, Nn2, H2, Gg2⟩ := id A0
      have hin2 : ¬ ((0 : Int32) < 0 ∨ cl2.slots.size ≤ ((0 : Int32)).toNatClampNeg) := inb_of S2 ⟨by decide, by decide⟩
      obtain ⟨fs, hr, hrun, hended, hW, hsame⟩ := X0.leave (v := some (.int (1 : Int32))) (fun h => by rw [Bd.returns] at h; cases h)
      refine ⟨_, _, pre0 _ ?_, hrun, hended, _, _, rfl, ?_, ⟨_, rfl⟩, hW, hsame.mono (by decide) (by decide)⟩
      · show Steps p.tables e below (s₁.setTop (mkF m 0 #[.val (.ref mm), .val (.int p2), .unset] [])) _
        refine XS.aloadN X0.here hx rfl (hb hby d7_0) rfl rfl ?_
        show Steps p.tables e below (s₁.setTop (mkF m 1 #[.val (.ref mm), .val (.int p2), .unset] [(.ref mm)])) _
        refine XS.iconst X0.here hx rfl (hb hby d7_1) ?_
        show Steps p.tables e below (s₁.setTop (mkF m 2 #[.val (.ref mm), .val (.int p2), .unset] [(.int (3 : Int32)), (.ref mm)])) _
        refine X0.iaload hx (j := (3 : Int32)) (v := (.int vn)) (by rw [e0]; exact Ar1.1) (State.isArrayOf_alike hZ.alike Ar1.2.1) Ar1.2.2 hin1 (Has.at H1 hin1 rfl) (g := (mkF m 2 #[.val (.ref mm), .val (.int p2), .unset] [(.int (3 : Int32)), (.ref mm)])) rfl rfl (hb hby d7_2) _ ?_
        show Steps p.tables e below (s₁.setTop (mkF m 3 #[.val (.ref mm), .val (.int p2), .unset] [(.int vn)])) _
        refine XS.istoreN X0.here hx rfl (hb hby d7_3) rfl (l' := #[.val (.ref mm), .val (.int p2), .val (.int vn)]) rfl ?_
        show Steps p.tables e below (s₁.setTop (mkF m 4 #[.val (.ref mm), .val (.int p2), .val (.int vn)] [])) _
        refine XS.iloadN X0.here hx rfl (hb hby d7_4) rfl ?_
        show Steps p.tables e below (s₁.setTop (mkF m 5 #[.val (.ref mm), .val (.int p2), .val (.int vn)] [(.int vn)])) _
        refine XS.ifNo X0.here hx rfl (hb hby d7_5) rfl ((if0 _ _).trans (tlt hc5).2.2.2) ?_
        show Steps p.tables e below (s₁.setTop (mkF m 8 #[.val (.ref mm), .val (.int p2), .val (.int vn)] [])) _
        refine XS.aloadN X0.here hx rfl (hb hby d7_8) rfl rfl ?_
        show Steps p.tables e below (s₁.setTop (mkF m 9 #[.val (.ref mm), .val (.int p2), .val (.int vn)] [(.ref mm)])) _
        refine XS.iconst X0.here hx rfl (hb hby d7_9) ?_
        show Steps p.tables e below (s₁.setTop (mkF m 10 #[.val (.ref mm), .val (.int p2), .val (.int vn)] [(.int (0 : Int32)), (.ref mm)])) _
        refine X0.iaload hx (j := (0 : Int32)) (v := (.int va)) (by rw [e0]; exact Ar2.1) (State.isArrayOf_alike hZ.alike Ar2.2.1) Ar2.2.2 hin2 (Has.at H2 hin2 rfl) (g := (mkF m 10 #[.val (.ref mm), .val (.int p2), .val (.int vn)] [(.int (0 : Int32)), (.ref mm)])) rfl rfl (hb hby d7_10) _ ?_
        show Steps p.tables e below (s₁.setTop (mkF m 11 #[.val (.ref mm), .val (.int p2), .val (.int vn)] [(.int va)])) _
        refine XS.iloadN X0.here hx rfl (hb hby d7_11) rfl ?_
        show Steps p.tables e below (s₁.setTop (mkF m 12 #[.val (.ref mm), .val (.int p2), .val (.int vn)] [(.int p2), (.int va)])) _
        refine XS.icmpYes X0.here hx rfl (pc0 := 12) (pc' := 39) rfl (hb hby d7_12) rfl (teq hc12).1 (by decide) (by decide) ?_
        show Steps p.tables e below (s₁.setTop (mkF m 39 #[.val (.ref mm), .val (.int p2), .val (.int vn)] [])) _
        refine XS.iconst X0.here hx rfl (hb hby d7_39) ?_
        show Steps p.tables e below (s₁.setTop (mkF m 40 #[.val (.ref mm), .val (.int p2), .val (.int vn)] [(.int (1 : Int32))])) _
        refine XS.goto X0.here hx rfl (pc0 := 40) (pc' := 44) rfl (hb hby d7_40) (by decide) (by decide) ?_
        show Steps p.tables e below (s₁.setTop (mkF m 44 #[.val (.ref mm), .val (.int p2), .val (.int vn)] [(.int (1 : Int32))])) _
        exact retN X0 hx (t := .boolean) Bd.returns (by simp) (hb hby d7_44) hr
      · show Q7 va vb vc vn p2 h0 n0 _ s₁.heap _
        rw [e0]
        exact ⟨congrArg (fun z => some (Value.int z)) (show (1 : Int32) = own_cn va vb vc vn p2 by simp only [own_cn, hc5, hc12, true_and, false_and, and_true, and_false, if_true, if_false]), N0, rfl⟩
    · by_cases hc17 : (1 : Int32) < vn
      · by_cases hc24 : vb = p2
        · obtain ⟨cl1, Ar1, qq1, S1, Nn1, H1, Gg1⟩ := id A0
          have hin1 : ¬ ((3 : Int32) < 0 ∨ cl1.slots.size ≤ ((3 : Int32)).toNatClampNeg) := inb_of S1 ⟨by decide, by decide⟩
          obtain ⟨cl2, Ar2, qq2, S2, Nn2, H2, Gg2⟩ := id A0
          have hin2 : ¬ ((0 : Int32) < 0 ∨ cl2.slots.size ≤ ((0 : Int32)).toNatClampNeg) := inb_of S2 ⟨by decide, by decide⟩
          obtain ⟨cl3, Ar3, qq3, S3, Nn3, H3, Gg3⟩ := id A0
          have hin3 : ¬ ((1 : Int32) < 0 ∨ cl3.slots.size ≤ ((1 : Int32)).toNatClampNeg) := inb_of S3 ⟨by decide, by decide⟩
          obtain ⟨fs, hr, hrun, hended, hW, hsame⟩ := X0.leave (v := some (.int (1 : Int32))) (fun h => by rw [Bd.returns] at h; cases h)
          refine ⟨_, _, pre0 _ ?_, hrun, hended, _, _, rfl, ?_, ⟨_, rfl⟩, hW, hsame.mono (by decide) (by decide)⟩
          · show Steps p.tables e below (s₁.setTop (mkF m 0 #[.val (.ref mm), .val (.int p2), .unset] [])) _
            refine XS.aloadN X0.here hx rfl (hb hby d7_0) rfl rfl ?_
            show Steps p.tables e below (s₁.setTop (mkF m 1 #[.val (.ref mm), .val (.int p2), .unset] [(.ref mm)])) _
            refine XS.iconst X0.here hx rfl (hb hby d7_1) ?_
            show Steps p.tables e below (s₁.setTop (mkF m 2 #[.val (.ref mm), .val (.int p2), .unset] [(.int (3 : Int32)), (.ref mm)])) _
            refine X0.iaload hx (j := (3 : Int32)) (v := (.int vn)) (by rw [e0]; exact Ar1.1) (State.isArrayOf_alike hZ.alike Ar1.2.1) Ar1.2.2 hin1 (Has.at H1 hin1 rfl) (g := (mkF m 2 #[.val (.ref mm), .val (.int p2), .unset] [(.int (3 : Int32)), (.ref mm)])) rfl rfl (hb hby d7_2) _ ?_
            show Steps p.tables e below (s₁.setTop (mkF m 3 #[.val (.ref mm), .val (.int p2), .unset] [(.int vn)])) _
            refine XS.istoreN X0.here hx rfl (hb hby d7_3) rfl (l' := #[.val (.ref mm), .val (.int p2), .val (.int vn)]) rfl ?_
            show Steps p.tables e below (s₁.setTop (mkF m 4 #[.val (.ref mm), .val (.int p2), .val (.int vn)] [])) _
            refine XS.iloadN X0.here hx rfl (hb hby d7_4) rfl ?_
            show Steps p.tables e below (s₁.setTop (mkF m 5 #[.val (.ref mm), .val (.int p2), .val (.int vn)] [(.int vn)])) _
            refine XS.ifNo X0.here hx rfl (hb hby d7_5) rfl ((if0 _ _).trans (tlt hc5).2.2.2) ?_
            show Steps p.tables e below (s₁.setTop (mkF m 8 #[.val (.ref mm), .val (.int p2), .val (.int vn)] [])) _
            refine XS.aloadN X0.here hx rfl (hb hby d7_8) rfl rfl ?_
            show Steps p.tables e below (s₁.setTop (mkF m 9 #[.val (.ref mm), .val (.int p2), .val (.int vn)] [(.ref mm)])) _
            refine XS.iconst X0.here hx rfl (hb hby d7_9) ?_
            show Steps p.tables e below (s₁.setTop (mkF m 10 #[.val (.ref mm), .val (.int p2), .val (.int vn)] [(.int (0 : Int32)), (.ref mm)])) _
            refine X0.iaload hx (j := (0 : Int32)) (v := (.int va)) (by rw [e0]; exact Ar2.1) (State.isArrayOf_alike hZ.alike Ar2.2.1) Ar2.2.2 hin2 (Has.at H2 hin2 rfl) (g := (mkF m 10 #[.val (.ref mm), .val (.int p2), .val (.int vn)] [(.int (0 : Int32)), (.ref mm)])) rfl rfl (hb hby d7_10) _ ?_
            show Steps p.tables e below (s₁.setTop (mkF m 11 #[.val (.ref mm), .val (.int p2), .val (.int vn)] [(.int va)])) _
            refine XS.iloadN X0.here hx rfl (hb hby d7_11) rfl ?_
            show Steps p.tables e below (s₁.setTop (mkF m 12 #[.val (.ref mm), .val (.int p2), .val (.int vn)] [(.int p2), (.int va)])) _
            refine XS.icmpNo X0.here hx rfl (hb hby d7_12) rfl (feq hc12).1 ?_
            show Steps p.tables e below (s₁.setTop (mkF m 15 #[.val (.ref mm), .val (.int p2), .val (.int vn)] [])) _
            refine XS.iloadN X0.here hx rfl (hb hby d7_15) rfl ?_
            show Steps p.tables e below (s₁.setTop (mkF m 16 #[.val (.ref mm), .val (.int p2), .val (.int vn)] [(.int vn)])) _
            refine XS.iconst X0.here hx rfl (hb hby d7_16) ?_
            show Steps p.tables e below (s₁.setTop (mkF m 17 #[.val (.ref mm), .val (.int p2), .val (.int vn)] [(.int (1 : Int32)), (.int vn)])) _
            refine XS.icmpNo X0.here hx rfl (hb hby d7_17) rfl (tlt hc17).2.2.2 ?_
            show Steps p.tables e below (s₁.setTop (mkF m 20 #[.val (.ref mm), .val (.int p2), .val (.int vn)] [])) _
            refine XS.aloadN X0.here hx rfl (hb hby d7_20) rfl rfl ?_
            show Steps p.tables e below (s₁.setTop (mkF m 21 #[.val (.ref mm), .val (.int p2), .val (.int vn)] [(.ref mm)])) _
            refine XS.iconst X0.here hx rfl (hb hby d7_21) ?_
            show Steps p.tables e below (s₁.setTop (mkF m 22 #[.val (.ref mm), .val (.int p2), .val (.int vn)] [(.int (1 : Int32)), (.ref mm)])) _
            refine X0.iaload hx (j := (1 : Int32)) (v := (.int vb)) (by rw [e0]; exact Ar3.1) (State.isArrayOf_alike hZ.alike Ar3.2.1) Ar3.2.2 hin3 (Has.at H3 hin3 rfl) (g := (mkF m 22 #[.val (.ref mm), .val (.int p2), .val (.int vn)] [(.int (1 : Int32)), (.ref mm)])) rfl rfl (hb hby d7_22) _ ?_
            show Steps p.tables e below (s₁.setTop (mkF m 23 #[.val (.ref mm), .val (.int p2), .val (.int vn)] [(.int vb)])) _
            refine XS.iloadN X0.here hx rfl (hb hby d7_23) rfl ?_
            show Steps p.tables e below (s₁.setTop (mkF m 24 #[.val (.ref mm), .val (.int p2), .val (.int vn)] [(.int p2), (.int vb)])) _
            refine XS.icmpYes X0.here hx rfl (pc0 := 24) (pc' := 39) rfl (hb hby d7_24) rfl (teq hc24).1 (by decide) (by decide) ?_
            show Steps p.tables e below (s₁.setTop (mkF m 39 #[.val (.ref mm), .val (.int p2), .val (.int vn)] [])) _
            refine XS.iconst X0.here hx rfl (hb hby d7_39) ?_
            show Steps p.tables e below (s₁.setTop (mkF m 40 #[.val (.ref mm), .val (.int p2), .val (.int vn)] [(.int (1 : Int32))])) _
            refine XS.goto X0.here hx rfl (pc0 := 40) (pc' := 44) rfl (hb hby d7_40) (by decide) (by decide) ?_
            show Steps p.tables e below (s₁.setTop (mkF m 44 #[.val (.ref mm), .val (.int p2), .val (.int vn)] [(.int (1 : Int32))])) _
            exact retN X0 hx (t := .boolean) Bd.returns (by simp) (hb hby d7_44) hr
          · show Q7 va vb vc vn p2 h0 n0 _ s₁.heap _
            rw [e0]
            exact ⟨congrArg (fun z => some (Value.int z)) (show (1 : Int32) = own_cn va vb vc vn p2 by simp only [own_cn, hc5, hc12, hc17, hc24, true_and, false_and, and_true, and_false, if_true, if_false]), N0, rfl⟩
        · by_cases hc29 : (2 : Int32) < vn
          · by_cases hc36 : vc = p2
            · obtain ⟨cl1, Ar1, qq1, S1, Nn1, H1, Gg1⟩ := id A0
              have hin1 : ¬ ((3 : Int32) < 0 ∨ cl1.slots.size ≤ ((3 : Int32)).toNatClampNeg) := inb_of S1 ⟨by decide, by decide⟩
              obtain ⟨cl2, Ar2, qq2, S2, Nn2, H2, Gg2⟩ := id A0
              have hin2 : ¬ ((0 : Int32) < 0 ∨ cl2.slots.size ≤ ((0 : Int32)).toNatClampNeg) := inb_of S2 ⟨by decide, by decide⟩
              obtain ⟨cl3, Ar3, qq3, S3, Nn3, H3, Gg3⟩ := id A0
              have hin3 : ¬ ((1 : Int32) < 0 ∨ cl3.slots.size ≤ ((1 : Int32)).toNatClampNeg) := inb_of S3 ⟨by decide, by decide⟩
              obtain ⟨cl4, Ar4, qq4, S4, Nn4, H4, Gg4⟩ := id A0
              have hin4 : ¬ ((2 : Int32) < 0 ∨ cl4.slots.size ≤ ((2 : Int32)).toNatClampNeg) := inb_of S4 ⟨by decide, by decide⟩
              obtain ⟨fs, hr, hrun, hended, hW, hsame⟩ := X0.leave (v := some (.int (1 : Int32))) (fun h => by rw [Bd.returns] at h; cases h)
              refine ⟨_, _, pre0 _ ?_, hrun, hended, _, _, rfl, ?_, ⟨_, rfl⟩, hW, hsame.mono (by decide) (by decide)⟩
              · show Steps p.tables e below (s₁.setTop (mkF m 0 #[.val (.ref mm), .val (.int p2), .unset] [])) _
                refine XS.aloadN X0.here hx rfl (hb hby d7_0) rfl rfl ?_
                show Steps p.tables e below (s₁.setTop (mkF m 1 #[.val (.ref mm), .val (.int p2), .unset] [(.ref mm)])) _
                refine XS.iconst X0.here hx rfl (hb hby d7_1) ?_
                show Steps p.tables e below (s₁.setTop (mkF m 2 #[.val (.ref mm), .val (.int p2), .unset] [(.int (3 : Int32)), (.ref mm)])) _
                refine X0.iaload hx (j := (3 : Int32)) (v := (.int vn)) (by rw [e0]; exact Ar1.1) (State.isArrayOf_alike hZ.alike Ar1.2.1) Ar1.2.2 hin1 (Has.at H1 hin1 rfl) (g := (mkF m 2 #[.val (.ref mm), .val (.int p2), .unset] [(.int (3 : Int32)), (.ref mm)])) rfl rfl (hb hby d7_2) _ ?_
                show Steps p.tables e below (s₁.setTop (mkF m 3 #[.val (.ref mm), .val (.int p2), .unset] [(.int vn)])) _
                refine XS.istoreN X0.here hx rfl (hb hby d7_3) rfl (l' := #[.val (.ref mm), .val (.int p2), .val (.int vn)]) rfl ?_
                show Steps p.tables e below (s₁.setTop (mkF m 4 #[.val (.ref mm), .val (.int p2), .val (.int vn)] [])) _
                refine XS.iloadN X0.here hx rfl (hb hby d7_4) rfl ?_
                show Steps p.tables e below (s₁.setTop (mkF m 5 #[.val (.ref mm), .val (.int p2), .val (.int vn)] [(.int vn)])) _
                refine XS.ifNo X0.here hx rfl (hb hby d7_5) rfl ((if0 _ _).trans (tlt hc5).2.2.2) ?_
                show Steps p.tables e below (s₁.setTop (mkF m 8 #[.val (.ref mm), .val (.int p2), .val (.int vn)] [])) _
                refine XS.aloadN X0.here hx rfl (hb hby d7_8) rfl rfl ?_
                show Steps p.tables e below (s₁.setTop (mkF m 9 #[.val (.ref mm), .val (.int p2), .val (.int vn)] [(.ref mm)])) _
                refine XS.iconst X0.here hx rfl (hb hby d7_9) ?_
                show Steps p.tables e below (s₁.setTop (mkF m 10 #[.val (.ref mm), .val (.int p2), .val (.int vn)] [(.int (0 : Int32)), (.ref mm)])) _
                refine X0.iaload hx (j := (0 : Int32)) (v := (.int va)) (by rw [e0]; exact Ar2.1) (State.isArrayOf_alike hZ.alike Ar2.2.1) Ar2.2.2 hin2 (Has.at H2 hin2 rfl) (g := (mkF m 10 #[.val (.ref mm), .val (.int p2), .val (.int vn)] [(.int (0 : Int32)), (.ref mm)])) rfl rfl (hb hby d7_10) _ ?_
                show Steps p.tables e below (s₁.setTop (mkF m 11 #[.val (.ref mm), .val (.int p2), .val (.int vn)] [(.int va)])) _
                refine XS.iloadN X0.here hx rfl (hb hby d7_11) rfl ?_
                show Steps p.tables e below (s₁.setTop (mkF m 12 #[.val (.ref mm), .val (.int p2), .val (.int vn)] [(.int p2), (.int va)])) _
                refine XS.icmpNo X0.here hx rfl (hb hby d7_12) rfl (feq hc12).1 ?_
                show Steps p.tables e below (s₁.setTop (mkF m 15 #[.val (.ref mm), .val (.int p2), .val (.int vn)] [])) _
                refine XS.iloadN X0.here hx rfl (hb hby d7_15) rfl ?_
                show Steps p.tables e below (s₁.setTop (mkF m 16 #[.val (.ref mm), .val (.int p2), .val (.int vn)] [(.int vn)])) _
                refine XS.iconst X0.here hx rfl (hb hby d7_16) ?_
                show Steps p.tables e below (s₁.setTop (mkF m 17 #[.val (.ref mm), .val (.int p2), .val (.int vn)] [(.int (1 : Int32)), (.int vn)])) _
                refine XS.icmpNo X0.here hx rfl (hb hby d7_17) rfl (tlt hc17).2.2.2 ?_
                show Steps p.tables e below (s₁.setTop (mkF m 20 #[.val (.ref mm), .val (.int p2), .val (.int vn)] [])) _
                refine XS.aloadN X0.here hx rfl (hb hby d7_20) rfl rfl ?_
                show Steps p.tables e below (s₁.setTop (mkF m 21 #[.val (.ref mm), .val (.int p2), .val (.int vn)] [(.ref mm)])) _
                refine XS.iconst X0.here hx rfl (hb hby d7_21) ?_
                show Steps p.tables e below (s₁.setTop (mkF m 22 #[.val (.ref mm), .val (.int p2), .val (.int vn)] [(.int (1 : Int32)), (.ref mm)])) _
                refine X0.iaload hx (j := (1 : Int32)) (v := (.int vb)) (by rw [e0]; exact Ar3.1) (State.isArrayOf_alike hZ.alike Ar3.2.1) Ar3.2.2 hin3 (Has.at H3 hin3 rfl) (g := (mkF m 22 #[.val (.ref mm), .val (.int p2), .val (.int vn)] [(.int (1 : Int32)), (.ref mm)])) rfl rfl (hb hby d7_22) _ ?_
                show Steps p.tables e below (s₁.setTop (mkF m 23 #[.val (.ref mm), .val (.int p2), .val (.int vn)] [(.int vb)])) _
                refine XS.iloadN X0.here hx rfl (hb hby d7_23) rfl ?_
                show Steps p.tables e below (s₁.setTop (mkF m 24 #[.val (.ref mm), .val (.int p2), .val (.int vn)] [(.int p2), (.int vb)])) _
                refine XS.icmpNo X0.here hx rfl (hb hby d7_24) rfl (feq hc24).1 ?_
                show Steps p.tables e below (s₁.setTop (mkF m 27 #[.val (.ref mm), .val (.int p2), .val (.int vn)] [])) _
                refine XS.iloadN X0.here hx rfl (hb hby d7_27) rfl ?_
                show Steps p.tables e below (s₁.setTop (mkF m 28 #[.val (.ref mm), .val (.int p2), .val (.int vn)] [(.int vn)])) _
                refine XS.iconst X0.here hx rfl (hb hby d7_28) ?_
                show Steps p.tables e below (s₁.setTop (mkF m 29 #[.val (.ref mm), .val (.int p2), .val (.int vn)] [(.int (2 : Int32)), (.int vn)])) _
                refine XS.icmpNo X0.here hx rfl (hb hby d7_29) rfl (tlt hc29).2.2.2 ?_
                show Steps p.tables e below (s₁.setTop (mkF m 32 #[.val (.ref mm), .val (.int p2), .val (.int vn)] [])) _
                refine XS.aloadN X0.here hx rfl (hb hby d7_32) rfl rfl ?_
                show Steps p.tables e below (s₁.setTop (mkF m 33 #[.val (.ref mm), .val (.int p2), .val (.int vn)] [(.ref mm)])) _
                refine XS.iconst X0.here hx rfl (hb hby d7_33) ?_
                show Steps p.tables e below (s₁.setTop (mkF m 34 #[.val (.ref mm), .val (.int p2), .val (.int vn)] [(.int (2 : Int32)), (.ref mm)])) _
                refine X0.iaload hx (j := (2 : Int32)) (v := (.int vc)) (by rw [e0]; exact Ar4.1) (State.isArrayOf_alike hZ.alike Ar4.2.1) Ar4.2.2 hin4 (Has.at H4 hin4 rfl) (g := (mkF m 34 #[.val (.ref mm), .val (.int p2), .val (.int vn)] [(.int (2 : Int32)), (.ref mm)])) rfl rfl (hb hby d7_34) _ ?_
                show Steps p.tables e below (s₁.setTop (mkF m 35 #[.val (.ref mm), .val (.int p2), .val (.int vn)] [(.int vc)])) _
                refine XS.iloadN X0.here hx rfl (hb hby d7_35) rfl ?_
                show Steps p.tables e below (s₁.setTop (mkF m 36 #[.val (.ref mm), .val (.int p2), .val (.int vn)] [(.int p2), (.int vc)])) _
                refine XS.icmpNo X0.here hx rfl (hb hby d7_36) rfl (teq hc36).2 ?_
                show Steps p.tables e below (s₁.setTop (mkF m 39 #[.val (.ref mm), .val (.int p2), .val (.int vn)] [])) _
                refine XS.iconst X0.here hx rfl (hb hby d7_39) ?_
                show Steps p.tables e below (s₁.setTop (mkF m 40 #[.val (.ref mm), .val (.int p2), .val (.int vn)] [(.int (1 : Int32))])) _
                refine XS.goto X0.here hx rfl (pc0 := 40) (pc' := 44) rfl (hb hby d7_40) (by decide) (by decide) ?_
                show Steps p.tables e below (s₁.setTop (mkF m 44 #[.val (.ref mm), .val (.int p2), .val (.int vn)] [(.int (1 : Int32))])) _
                exact retN X0 hx (t := .boolean) Bd.returns (by simp) (hb hby d7_44) hr
              · show Q7 va vb vc vn p2 h0 n0 _ s₁.heap _
                rw [e0]
                exact ⟨congrArg (fun z => some (Value.int z)) (show (1 : Int32) = own_cn va vb vc vn p2 by simp only [own_cn, hc5, hc12, hc17, hc24, hc29, hc36, true_and, false_and, and_true, and_false, if_true, if_false]), N0, rfl⟩
            · obtain ⟨cl1, Ar1, qq1, S1, Nn1, H1, Gg1⟩ := id A0
              have hin1 : ¬ ((3 : Int32) < 0 ∨ cl1.slots.size ≤ ((3 : Int32)).toNatClampNeg) := inb_of S1 ⟨by decide, by decide⟩
              obtain ⟨cl2, Ar2, qq2, S2, Nn2, H2, Gg2⟩ := id A0
              have hin2 : ¬ ((0 : Int32) < 0 ∨ cl2.slots.size ≤ ((0 : Int32)).toNatClampNeg) := inb_of S2 ⟨by decide, by decide⟩
              obtain ⟨cl3, Ar3, qq3, S3, Nn3, H3, Gg3⟩ := id A0
              have hin3 : ¬ ((1 : Int32) < 0 ∨ cl3.slots.size ≤ ((1 : Int32)).toNatClampNeg) := inb_of S3 ⟨by decide, by decide⟩
              obtain ⟨cl4, Ar4, qq4, S4, Nn4, H4, Gg4⟩ := id A0
              have hin4 : ¬ ((2 : Int32) < 0 ∨ cl4.slots.size ≤ ((2 : Int32)).toNatClampNeg) := inb_of S4 ⟨by decide, by decide⟩
              obtain ⟨fs, hr, hrun, hended, hW, hsame⟩ := X0.leave (v := some (.int (0 : Int32))) (fun h => by rw [Bd.returns] at h; cases h)
              refine ⟨_, _, pre0 _ ?_, hrun, hended, _, _, rfl, ?_, ⟨_, rfl⟩, hW, hsame.mono (by decide) (by decide)⟩
              · show Steps p.tables e below (s₁.setTop (mkF m 0 #[.val (.ref mm), .val (.int p2), .unset] [])) _
                refine XS.aloadN X0.here hx rfl (hb hby d7_0) rfl rfl ?_
                show Steps p.tables e below (s₁.setTop (mkF m 1 #[.val (.ref mm), .val (.int p2), .unset] [(.ref mm)])) _
                refine XS.iconst X0.here hx rfl (hb hby d7_1) ?_
                show Steps p.tables e below (s₁.setTop (mkF m 2 #[.val (.ref mm), .val (.int p2), .unset] [(.int (3 : Int32)), (.ref mm)])) _
                refine X0.iaload hx (j := (3 : Int32)) (v := (.int vn)) (by rw [e0]; exact Ar1.1) (State.isArrayOf_alike hZ.alike Ar1.2.1) Ar1.2.2 hin1 (Has.at H1 hin1 rfl) (g := (mkF m 2 #[.val (.ref mm), .val (.int p2), .unset] [(.int (3 : Int32)), (.ref mm)])) rfl rfl (hb hby d7_2) _ ?_
                show Steps p.tables e below (s₁.setTop (mkF m 3 #[.val (.ref mm), .val (.int p2), .unset] [(.int vn)])) _
                refine XS.istoreN X0.here hx rfl (hb hby d7_3) rfl (l' := #[.val (.ref mm), .val (.int p2), .val (.int vn)]) rfl ?_
                show Steps p.tables e below (s₁.setTop (mkF m 4 #[.val (.ref mm), .val (.int p2), .val (.int vn)] [])) _
                refine XS.iloadN X0.here hx rfl (hb hby d7_4) rfl ?_
                show Steps p.tables e below (s₁.setTop (mkF m 5 #[.val (.ref mm), .val (.int p2), .val (.int vn)] [(.int vn)])) _
                refine XS.ifNo X0.here hx rfl (hb hby d7_5) rfl ((if0 _ _).trans (tlt hc5).2.2.2) ?_
                show Steps p.tables e below (s₁.setTop (mkF m 8 #[.val (.ref mm), .val (.int p2), .val (.int vn)] [])) _
                refine XS.aloadN X0.here hx rfl (hb hby d7_8) rfl rfl ?_
                show Steps p.tables e below (s₁.setTop (mkF m 9 #[.val (.ref mm), .val (.int p2), .val (.int vn)] [(.ref mm)])) _
                refine XS.iconst X0.here hx rfl (hb hby d7_9) ?_
                show Steps p.tables e below (s₁.setTop (mkF m 10 #[.val (.ref mm), .val (.int p2), .val (.int vn)] [(.int (0 : Int32)), (.ref mm)])) _
                refine X0.iaload hx (j := (0 : Int32)) (v := (.int va)) (by rw [e0]; exact Ar2.1) (State.isArrayOf_alike hZ.alike Ar2.2.1) Ar2.2.2 hin2 (Has.at H2 hin2 rfl) (g := (mkF m 10 #[.val (.ref mm), .val (.int p2), .val (.int vn)] [(.int (0 : Int32)), (.ref mm)])) rfl rfl (hb hby d7_10) _ ?_
                show Steps p.tables e below (s₁.setTop (mkF m 11 #[.val (.ref mm), .val (.int p2), .val (.int vn)] [(.int va)])) _
                refine XS.iloadN X0.here hx rfl (hb hby d7_11) rfl ?_
                show Steps p.tables e below (s₁.setTop (mkF m 12 #[.val (.ref mm), .val (.int p2), .val (.int vn)] [(.int p2), (.int va)])) _
                refine XS.icmpNo X0.here hx rfl (hb hby d7_12) rfl (feq hc12).1 ?_
                show Steps p.tables e below (s₁.setTop (mkF m 15 #[.val (.ref mm), .val (.int p2), .val (.int vn)] [])) _
                refine XS.iloadN X0.here hx rfl (hb hby d7_15) rfl ?_
                show Steps p.tables e below (s₁.setTop (mkF m 16 #[.val (.ref mm), .val (.int p2), .val (.int vn)] [(.int vn)])) _
                refine XS.iconst X0.here hx rfl (hb hby d7_16) ?_
                show Steps p.tables e below (s₁.setTop (mkF m 17 #[.val (.ref mm), .val (.int p2), .val (.int vn)] [(.int (1 : Int32)), (.int vn)])) _
                refine XS.icmpNo X0.here hx rfl (hb hby d7_17) rfl (tlt hc17).2.2.2 ?_
                show Steps p.tables e below (s₁.setTop (mkF m 20 #[.val (.ref mm), .val (.int p2), .val (.int vn)] [])) _
                refine XS.aloadN X0.here hx rfl (hb hby d7_20) rfl rfl ?_
                show Steps p.tables e below (s₁.setTop (mkF m 21 #[.val (.ref mm), .val (.int p2), .val (.int vn)] [(.ref mm)])) _
                refine XS.iconst X0.here hx rfl (hb hby d7_21) ?_
                show Steps p.tables e below (s₁.setTop (mkF m 22 #[.val (.ref mm), .val (.int p2), .val (.int vn)] [(.int (1 : Int32)), (.ref mm)])) _
                refine X0.iaload hx (j := (1 : Int32)) (v := (.int vb)) (by rw [e0]; exact Ar3.1) (State.isArrayOf_alike hZ.alike Ar3.2.1) Ar3.2.2 hin3 (Has.at H3 hin3 rfl) (g := (mkF m 22 #[.val (.ref mm), .val (.int p2), .val (.int vn)] [(.int (1 : Int32)), (.ref mm)])) rfl rfl (hb hby d7_22) _ ?_
                show Steps p.tables e below (s₁.setTop (mkF m 23 #[.val (.ref mm), .val (.int p2), .val (.int vn)] [(.int vb)])) _
                refine XS.iloadN X0.here hx rfl (hb hby d7_23) rfl ?_
                show Steps p.tables e below (s₁.setTop (mkF m 24 #[.val (.ref mm), .val (.int p2), .val (.int vn)] [(.int p2), (.int vb)])) _
                refine XS.icmpNo X0.here hx rfl (hb hby d7_24) rfl (feq hc24).1 ?_
                show Steps p.tables e below (s₁.setTop (mkF m 27 #[.val (.ref mm), .val (.int p2), .val (.int vn)] [])) _
                refine XS.iloadN X0.here hx rfl (hb hby d7_27) rfl ?_
                show Steps p.tables e below (s₁.setTop (mkF m 28 #[.val (.ref mm), .val (.int p2), .val (.int vn)] [(.int vn)])) _
                refine XS.iconst X0.here hx rfl (hb hby d7_28) ?_
                show Steps p.tables e below (s₁.setTop (mkF m 29 #[.val (.ref mm), .val (.int p2), .val (.int vn)] [(.int (2 : Int32)), (.int vn)])) _
                refine XS.icmpNo X0.here hx rfl (hb hby d7_29) rfl (tlt hc29).2.2.2 ?_
                show Steps p.tables e below (s₁.setTop (mkF m 32 #[.val (.ref mm), .val (.int p2), .val (.int vn)] [])) _
                refine XS.aloadN X0.here hx rfl (hb hby d7_32) rfl rfl ?_
                show Steps p.tables e below (s₁.setTop (mkF m 33 #[.val (.ref mm), .val (.int p2), .val (.int vn)] [(.ref mm)])) _
                refine XS.iconst X0.here hx rfl (hb hby d7_33) ?_
                show Steps p.tables e below (s₁.setTop (mkF m 34 #[.val (.ref mm), .val (.int p2), .val (.int vn)] [(.int (2 : Int32)), (.ref mm)])) _
                refine X0.iaload hx (j := (2 : Int32)) (v := (.int vc)) (by rw [e0]; exact Ar4.1) (State.isArrayOf_alike hZ.alike Ar4.2.1) Ar4.2.2 hin4 (Has.at H4 hin4 rfl) (g := (mkF m 34 #[.val (.ref mm), .val (.int p2), .val (.int vn)] [(.int (2 : Int32)), (.ref mm)])) rfl rfl (hb hby d7_34) _ ?_
                show Steps p.tables e below (s₁.setTop (mkF m 35 #[.val (.ref mm), .val (.int p2), .val (.int vn)] [(.int vc)])) _
                refine XS.iloadN X0.here hx rfl (hb hby d7_35) rfl ?_
                show Steps p.tables e below (s₁.setTop (mkF m 36 #[.val (.ref mm), .val (.int p2), .val (.int vn)] [(.int p2), (.int vc)])) _
                refine XS.icmpYes X0.here hx rfl (pc0 := 36) (pc' := 43) rfl (hb hby d7_36) rfl (feq hc36).2 (by decide) (by decide) ?_
                show Steps p.tables e below (s₁.setTop (mkF m 43 #[.val (.ref mm), .val (.int p2), .val (.int vn)] [])) _
                refine XS.iconst X0.here hx rfl (hb hby d7_43) ?_
                show Steps p.tables e below (s₁.setTop (mkF m 44 #[.val (.ref mm), .val (.int p2), .val (.int vn)] [(.int (0 : Int32))])) _
                exact retN X0 hx (t := .boolean) Bd.returns (by simp) (hb hby d7_44) hr
              · show Q7 va vb vc vn p2 h0 n0 _ s₁.heap _
                rw [e0]
                exact ⟨congrArg (fun z => some (Value.int z)) (show (0 : Int32) = own_cn va vb vc vn p2 by simp only [own_cn, hc5, hc12, hc17, hc24, hc29, hc36, true_and, false_and, and_true, and_false, if_true, if_false]), N0, rfl⟩
          · obtain ⟨cl1, Ar1, qq1, S1, Nn1, H1, Gg1⟩ := id A0
            have hin1 : ¬ ((3 : Int32) < 0 ∨ cl1.slots.size ≤ ((3 : Int32)).toNatClampNeg) := inb_of S1 ⟨by decide, by decide⟩
            obtain ⟨cl2, Ar2, qq2, S2, Nn2, H2, Gg2⟩ := id A0
            have hin2 : ¬ ((0 : Int32) < 0 ∨ cl2.slots.size ≤ ((0 : Int32)).toNatClampNeg) := inb_of S2 ⟨by decide, by decide⟩
            obtain ⟨cl3, Ar3, qq3, S3, Nn3, H3, Gg3⟩ := id A0
            have hin3 : ¬ ((1 : Int32) < 0 ∨ cl3.slots.size ≤ ((1 : Int32)).toNatClampNeg) := inb_of S3 ⟨by decide, by decide⟩
            obtain ⟨fs, hr, hrun, hended, hW, hsame⟩ := X0.leave (v := some (.int (0 : Int32))) (fun h => by rw [Bd.returns] at h; cases h)
            refine ⟨_, _, pre0 _ ?_, hrun, hended, _, _, rfl, ?_, ⟨_, rfl⟩, hW, hsame.mono (by decide) (by decide)⟩
            · show Steps p.tables e below (s₁.setTop (mkF m 0 #[.val (.ref mm), .val (.int p2), .unset] [])) _
              refine XS.aloadN X0.here hx rfl (hb hby d7_0) rfl rfl ?_
              show Steps p.tables e below (s₁.setTop (mkF m 1 #[.val (.ref mm), .val (.int p2), .unset] [(.ref mm)])) _
              refine XS.iconst X0.here hx rfl (hb hby d7_1) ?_
              show Steps p.tables e below (s₁.setTop (mkF m 2 #[.val (.ref mm), .val (.int p2), .unset] [(.int (3 : Int32)), (.ref mm)])) _
              refine X0.iaload hx (j := (3 : Int32)) (v := (.int vn)) (by rw [e0]; exact Ar1.1) (State.isArrayOf_alike hZ.alike Ar1.2.1) Ar1.2.2 hin1 (Has.at H1 hin1 rfl) (g := (mkF m 2 #[.val (.ref mm), .val (.int p2), .unset] [(.int (3 : Int32)), (.ref mm)])) rfl rfl (hb hby d7_2) _ ?_
              show Steps p.tables e below (s₁.setTop (mkF m 3 #[.val (.ref mm), .val (.int p2), .unset] [(.int vn)])) _
              refine XS.istoreN X0.here hx rfl (hb hby d7_3) rfl (l' := #[.val (.ref mm), .val (.int p2), .val (.int vn)]) rfl ?_
              show Steps p.tables e below (s₁.setTop (mkF m 4 #[.val (.ref mm), .val (.int p2), .val (.int vn)] [])) _
              refine XS.iloadN X0.here hx rfl (hb hby d7_4) rfl ?_
              show Steps p.tables e below (s₁.setTop (mkF m 5 #[.val (.ref mm), .val (.int p2), .val (.int vn)] [(.int vn)])) _
              refine XS.ifNo X0.here hx rfl (hb hby d7_5) rfl ((if0 _ _).trans (tlt hc5).2.2.2) ?_
              show Steps p.tables e below (s₁.setTop (mkF m 8 #[.val (.ref mm), .val (.int p2), .val (.int vn)] [])) _
              refine XS.aloadN X0.here hx rfl (hb hby d7_8) rfl rfl ?_
              show Steps p.tables e below (s₁.setTop (mkF m 9 #[.val (.ref mm), .val (.int p2), .val (.int vn)] [(.ref mm)])) _
              refine XS.iconst X0.here hx rfl (hb hby d7_9) ?_
              show Steps p.tables e below (s₁.setTop (mkF m 10 #[.val (.ref mm), .val (.int p2), .val (.int vn)] [(.int (0 : Int32)), (.ref mm)])) _
              refine X0.iaload hx (j := (0 : Int32)) (v := (.int va)) (by rw [e0]; exact Ar2.1) (State.isArrayOf_alike hZ.alike Ar2.2.1) Ar2.2.2 hin2 (Has.at H2 hin2 rfl) (g := (mkF m 10 #[.val (.ref mm), .val (.int p2), .val (.int vn)] [(.int (0 : Int32)), (.ref mm)])) rfl rfl (hb hby d7_10) _ ?_
              show Steps p.tables e below (s₁.setTop (mkF m 11 #[.val (.ref mm), .val (.int p2), .val (.int vn)] [(.int va)])) _
              refine XS.iloadN X0.here hx rfl (hb hby d7_11) rfl ?_
              show Steps p.tables e below (s₁.setTop (mkF m 12 #[.val (.ref mm), .val (.int p2), .val (.int vn)] [(.int p2), (.int va)])) _
              refine XS.icmpNo X0.here hx rfl (hb hby d7_12) rfl (feq hc12).1 ?_
              show Steps p.tables e below (s₁.setTop (mkF m 15 #[.val (.ref mm), .val (.int p2), .val (.int vn)] [])) _
              refine XS.iloadN X0.here hx rfl (hb hby d7_15) rfl ?_
              show Steps p.tables e below (s₁.setTop (mkF m 16 #[.val (.ref mm), .val (.int p2), .val (.int vn)] [(.int vn)])) _
              refine XS.iconst X0.here hx rfl (hb hby d7_16) ?_
              show Steps p.tables e below (s₁.setTop (mkF m 17 #[.val (.ref mm), .val (.int p2), .val (.int vn)] [(.int (1 : Int32)), (.int vn)])) _
              refine XS.icmpNo X0.here hx rfl (hb hby d7_17) rfl (tlt hc17).2.2.2 ?_
              show Steps p.tables e below (s₁.setTop (mkF m 20 #[.val (.ref mm), .val (.int p2), .val (.int vn)] [])) _
              refine XS.aloadN X0.here hx rfl (hb hby d7_20) rfl rfl ?_
              show Steps p.tables e below (s₁.setTop (mkF m 21 #[.val (.ref mm), .val (.int p2), .val (.int vn)] [(.ref mm)])) _
              refine XS.iconst X0.here hx rfl (hb hby d7_21) ?_
              show Steps p.tables e below (s₁.setTop (mkF m 22 #[.val (.ref mm), .val (.int p2), .val (.int vn)] [(.int (1 : Int32)), (.ref mm)])) _
              refine X0.iaload hx (j := (1 : Int32)) (v := (.int vb)) (by rw [e0]; exact Ar3.1) (State.isArrayOf_alike hZ.alike Ar3.2.1) Ar3.2.2 hin3 (Has.at H3 hin3 rfl) (g := (mkF m 22 #[.val (.ref mm), .val (.int p2), .val (.int vn)] [(.int (1 : Int32)), (.ref mm)])) rfl rfl (hb hby d7_22) _ ?_
              show Steps p.tables e below (s₁.setTop (mkF m 23 #[.val (.ref mm), .val (.int p2), .val (.int vn)] [(.int vb)])) _
              refine XS.iloadN X0.here hx rfl (hb hby d7_23) rfl ?_
              show Steps p.tables e below (s₁.setTop (mkF m 24 #[.val (.ref mm), .val (.int p2), .val (.int vn)] [(.int p2), (.int vb)])) _
              refine XS.icmpNo X0.here hx rfl (hb hby d7_24) rfl (feq hc24).1 ?_
              show Steps p.tables e below (s₁.setTop (mkF m 27 #[.val (.ref mm), .val (.int p2), .val (.int vn)] [])) _
              refine XS.iloadN X0.here hx rfl (hb hby d7_27) rfl ?_
              show Steps p.tables e below (s₁.setTop (mkF m 28 #[.val (.ref mm), .val (.int p2), .val (.int vn)] [(.int vn)])) _
              refine XS.iconst X0.here hx rfl (hb hby d7_28) ?_
              show Steps p.tables e below (s₁.setTop (mkF m 29 #[.val (.ref mm), .val (.int p2), .val (.int vn)] [(.int (2 : Int32)), (.int vn)])) _
              refine XS.icmpYes X0.here hx rfl (pc0 := 29) (pc' := 43) rfl (hb hby d7_29) rfl (flt hc29).2.2.2 (by decide) (by decide) ?_
              show Steps p.tables e below (s₁.setTop (mkF m 43 #[.val (.ref mm), .val (.int p2), .val (.int vn)] [])) _
              refine XS.iconst X0.here hx rfl (hb hby d7_43) ?_
              show Steps p.tables e below (s₁.setTop (mkF m 44 #[.val (.ref mm), .val (.int p2), .val (.int vn)] [(.int (0 : Int32))])) _
              exact retN X0 hx (t := .boolean) Bd.returns (by simp) (hb hby d7_44) hr
            · show Q7 va vb vc vn p2 h0 n0 _ s₁.heap _
              rw [e0]
              exact ⟨congrArg (fun z => some (Value.int z)) (show (0 : Int32) = own_cn va vb vc vn p2 by simp only [own_cn, hc5, hc12, hc17, hc24, hc29, true_and, false_and, and_true, and_false, if_true, if_false]), N0, rfl⟩
      · by_cases hc29 : (2 : Int32) < vn
        · by_cases hc36 : vc = p2
          · obtain ⟨cl1, Ar1, qq1, S1, Nn1, H1, Gg1⟩ := id A0
            have hin1 : ¬ ((3 : Int32) < 0 ∨ cl1.slots.size ≤ ((3 : Int32)).toNatClampNeg) := inb_of S1 ⟨by decide, by decide⟩
            obtain ⟨cl2, Ar2, qq2, S2, Nn2, H2, Gg2⟩ := id A0
            have hin2 : ¬ ((0 : Int32) < 0 ∨ cl2.slots.size ≤ ((0 : Int32)).toNatClampNeg) := inb_of S2 ⟨by decide, by decide⟩
            obtain ⟨cl3, Ar3, qq3, S3, Nn3, H3, Gg3⟩ := id A0
            have hin3 : ¬ ((2 : Int32) < 0 ∨ cl3.slots.size ≤ ((2 : Int32)).toNatClampNeg) := inb_of S3 ⟨by decide, by decide⟩
            obtain ⟨fs, hr, hrun, hended, hW, hsame⟩ := X0.leave (v := some (.int (1 : Int32))) (fun h => by rw [Bd.returns] at h; cases h)
            refine ⟨_, _, pre0 _ ?_, hrun, hended, _, _, rfl, ?_, ⟨_, rfl⟩, hW, hsame.mono (by decide) (by decide)⟩
            · show Steps p.tables e below (s₁.setTop (mkF m 0 #[.val (.ref mm), .val (.int p2), .unset] [])) _
              refine XS.aloadN X0.here hx rfl (hb hby d7_0) rfl rfl ?_
              show Steps p.tables e below (s₁.setTop (mkF m 1 #[.val (.ref mm), .val (.int p2), .unset] [(.ref mm)])) _
              refine XS.iconst X0.here hx rfl (hb hby d7_1) ?_
              show Steps p.tables e below (s₁.setTop (mkF m 2 #[.val (.ref mm), .val (.int p2), .unset] [(.int (3 : Int32)), (.ref mm)])) _
              refine X0.iaload hx (j := (3 : Int32)) (v := (.int vn)) (by rw [e0]; exact Ar1.1) (State.isArrayOf_alike hZ.alike Ar1.2.1) Ar1.2.2 hin1 (Has.at H1 hin1 rfl) (g := (mkF m 2 #[.val (.ref mm), .val (.int p2), .unset] [(.int (3 : Int32)), (.ref mm)])) rfl rfl (hb hby d7_2) _ ?_
              show Steps p.tables e below (s₁.setTop (mkF m 3 #[.val (.ref mm), .val (.int p2), .unset] [(.int vn)])) _
              refine XS.istoreN X0.here hx rfl (hb hby d7_3) rfl (l' := #[.val (.ref mm), .val (.int p2), .val (.int vn)]) rfl ?_
              show Steps p.tables e below (s₁.setTop (mkF m 4 #[.val (.ref mm), .val (.int p2), .val (.int vn)] [])) _
              refine XS.iloadN X0.here hx rfl (hb hby d7_4) rfl ?_
              show Steps p.tables e below (s₁.setTop (mkF m 5 #[.val (.ref mm), .val (.int p2), .val (.int vn)] [(.int vn)])) _
              refine XS.ifNo X0.here hx rfl (hb hby d7_5) rfl ((if0 _ _).trans (tlt hc5).2.2.2) ?_
              show Steps p.tables e below (s₁.setTop (mkF m 8 #[.val (.ref mm), .val (.int p2), .val (.int vn)] [])) _
              refine XS.aloadN X0.here hx rfl (hb hby d7_8) rfl rfl ?_
              show Steps p.tables e below (s₁.setTop (mkF m 9 #[.val (.ref mm), .val (.int p2), .val (.int vn)] [(.ref mm)])) _
              refine XS.iconst X0.here hx rfl (hb hby d7_9) ?_
              show Steps p.tables e below (s₁.setTop (mkF m 10 #[.val (.ref mm), .val (.int p2), .val (.int vn)] [(.int (0 : Int32)), (.ref mm)])) _
              refine X0.iaload hx (j := (0 : Int32)) (v := (.int va)) (by rw [e0]; exact Ar2.1) (State.isArrayOf_alike hZ.alike Ar2.2.1) Ar2.2.2 hin2 (Has.at H2 hin2 rfl) (g := (mkF m 10 #[.val (.ref mm), .val (.int p2), .val (.int vn)] [(.int (0 : Int32)), (.ref mm)])) rfl rfl (hb hby d7_10) _ ?_
              show Steps p.tables e below (s₁.setTop (mkF m 11 #[.val (.ref mm), .val (.int p2), .val (.int vn)] [(.int va)])) _
              refine XS.iloadN X0.here hx rfl (hb hby d7_11) rfl ?_
              show Steps p.tables e below (s₁.setTop (mkF m 12 #[.val (.ref mm), .val (.int p2), .val (.int vn)] [(.int p2), (.int va)])) _
              refine XS.icmpNo X0.here hx rfl (hb hby d7_12) rfl (feq hc12).1 ?_
              show Steps p.tables e below (s₁.setTop (mkF m 15 #[.val (.ref mm), .val (.int p2), .val (.int vn)] [])) _
              refine XS.iloadN X0.here hx rfl (hb hby d7_15) rfl ?_
              show Steps p.tables e below (s₁.setTop (mkF m 16 #[.val (.ref mm), .val (.int p2), .val (.int vn)] [(.int vn)])) _
              refine XS.iconst X0.here hx rfl (hb hby d7_16) ?_
              show Steps p.tables e below (s₁.setTop (mkF m 17 #[.val (.ref mm), .val (.int p2), .val (.int vn)] [(.int (1 : Int32)), (.int vn)])) _
              refine XS.icmpYes X0.here hx rfl (pc0 := 17) (pc' := 27) rfl (hb hby d7_17) rfl (flt hc17).2.2.2 (by decide) (by decide) ?_
              show Steps p.tables e below (s₁.setTop (mkF m 27 #[.val (.ref mm), .val (.int p2), .val (.int vn)] [])) _
              refine XS.iloadN X0.here hx rfl (hb hby d7_27) rfl ?_
              show Steps p.tables e below (s₁.setTop (mkF m 28 #[.val (.ref mm), .val (.int p2), .val (.int vn)] [(.int vn)])) _
              refine XS.iconst X0.here hx rfl (hb hby d7_28) ?_
              show Steps p.tables e below (s₁.setTop (mkF m 29 #[.val (.ref mm), .val (.int p2), .val (.int vn)] [(.int (2 : Int32)), (.int vn)])) _
              refine XS.icmpNo X0.here hx rfl (hb hby d7_29) rfl (tlt hc29).2.2.2 ?_
              show Steps p.tables e below (s₁.setTop (mkF m 32 #[.val (.ref mm), .val (.int p2), .val (.int vn)] [])) _
              refine XS.aloadN X0.here hx rfl (hb hby d7_32) rfl rfl ?_
              show Steps p.tables e below (s₁.setTop (mkF m 33 #[.val (.ref mm), .val (.int p2), .val (.int vn)] [(.ref mm)])) _
              refine XS.iconst X0.here hx rfl (hb hby d7_33) ?_
              show Steps p.tables e below (s₁.setTop (mkF m 34 #[.val (.ref mm), .val (.int p2), .val (.int vn)] [(.int (2 : Int32)), (.ref mm)])) _
              refine X0.iaload hx (j := (2 : Int32)) (v := (.int vc)) (by rw [e0]; exact Ar3.1) (State.isArrayOf_alike hZ.alike Ar3.2.1) Ar3.2.2 hin3 (Has.at H3 hin3 rfl) (g := (mkF m 34 #[.val (.ref mm), .val (.int p2), .val (.int vn)] [(.int (2 : Int32)), (.ref mm)])) rfl rfl (hb hby d7_34) _ ?_
              show Steps p.tables e below (s₁.setTop (mkF m 35 #[.val (.ref mm), .val (.int p2), .val (.int vn)] [(.int vc)])) _
              refine XS.iloadN X0.here hx rfl (hb hby d7_35) rfl ?_
              show Steps p.tables e below (s₁.setTop (mkF m 36 #[.val (.ref mm), .val (.int p2), .val (.int vn)] [(.int p2), (.int vc)])) _
              refine XS.icmpNo X0.here hx rfl (hb hby d7_36) rfl (teq hc36).2 ?_
              show Steps p.tables e below (s₁.setTop (mkF m 39 #[.val (.ref mm), .val (.int p2), .val (.int vn)] [])) _
              refine XS.iconst X0.here hx rfl (hb hby d7_39) ?_
              show Steps p.tables e below (s₁.setTop (mkF m 40 #[.val (.ref mm), .val (.int p2), .val (.int vn)] [(.int (1 : Int32))])) _
              refine XS.goto X0.here hx rfl (pc0 := 40) (pc' := 44) rfl (hb hby d7_40) (by decide) (by decide) ?_
              show Steps p.tables e below (s₁.setTop (mkF m 44 #[.val (.ref mm), .val (.int p2), .val (.int vn)] [(.int (1 : Int32))])) _
              exact retN X0 hx (t := .boolean) Bd.returns (by simp) (hb hby d7_44) hr
            · show Q7 va vb vc vn p2 h0 n0 _ s₁.heap _
              rw [e0]
              exact ⟨congrArg (fun z => some (Value.int z)) (show (1 : Int32) = own_cn va vb vc vn p2 by simp only [own_cn, hc5, hc12, hc17, hc29, hc36, true_and, false_and, and_true, and_false, if_true, if_false]), N0, rfl⟩
          · obtain ⟨cl1, Ar1, qq1, S1, Nn1, H1, Gg1⟩ := id A0
            have hin1 : ¬ ((3 : Int32) < 0 ∨ cl1.slots.size ≤ ((3 : Int32)).toNatClampNeg) := inb_of S1 ⟨by decide, by decide⟩
            obtain ⟨cl2, Ar2, qq2, S2, Nn2, H2, Gg2⟩ := id A0
            have hin2 : ¬ ((0 : Int32) < 0 ∨ cl2.slots.size ≤ ((0 : Int32)).toNatClampNeg) := inb_of S2 ⟨by decide, by decide⟩
            obtain ⟨cl3, Ar3, qq3, S3, Nn3, H3, Gg3⟩ := id A0
            have hin3 : ¬ ((2 : Int32) < 0 ∨ cl3.slots.size ≤ ((2 : Int32)).toNatClampNeg) := inb_of S3 ⟨by decide, by decide⟩
            obtain ⟨fs, hr, hrun, hended, hW, hsame⟩ := X0.leave (v := some (.int (0 : Int32))) (fun h => by rw [Bd.returns] at h; cases h)
            refine ⟨_, _, pre0 _ ?_, hrun, hended, _, _, rfl, ?_, ⟨_, rfl⟩, hW, hsame.mono (by decide) (by decide)⟩
            · show Steps p.tables e below (s₁.setTop (mkF m 0 #[.val (.ref mm), .val (.int p2), .unset] [])) _
              refine XS.aloadN X0.here hx rfl (hb hby d7_0) rfl rfl ?_
              show Steps p.tables e below (s₁.setTop (mkF m 1 #[.val (.ref mm), .val (.int p2), .unset] [(.ref mm)])) _
              refine XS.iconst X0.here hx rfl (hb hby d7_1) ?_
              show Steps p.tables e below (s₁.setTop (mkF m 2 #[.val (.ref mm), .val (.int p2), .unset] [(.int (3 : Int32)), (.ref mm)])) _
              refine X0.iaload hx (j := (3 : Int32)) (v := (.int vn)) (by rw [e0]; exact Ar1.1) (State.isArrayOf_alike hZ.alike Ar1.2.1) Ar1.2.2 hin1 (Has.at H1 hin1 rfl) (g := (mkF m 2 #[.val (.ref mm), .val (.int p2), .unset] [(.int (3 : Int32)), (.ref mm)])) rfl rfl (hb hby d7_2) _ ?_
              show Steps p.tables e below (s₁.setTop (mkF m 3 #[.val (.ref mm), .val (.int p2), .unset] [(.int vn)])) _
              refine XS.istoreN X0.here hx rfl (hb hby d7_3) rfl (l' := #[.val (.ref mm), .val (.int p2), .val (.int vn)]) rfl ?_
              show Steps p.tables e below (s₁.setTop (mkF m 4 #[.val (.ref mm), .val (.int p2), .val (.int vn)] [])) _
              refine XS.iloadN X0.here hx rfl (hb hby d7_4) rfl ?_
              show Steps p.tables e below (s₁.setTop (mkF m 5 #[.val (.ref mm), .val (.int p2), .val (.int vn)] [(.int vn)])) _
              refine XS.ifNo X0.here hx rfl (hb hby d7_5) rfl ((if0 _ _).trans (tlt hc5).2.2.2) ?_
              show Steps p.tables e below (s₁.setTop (mkF m 8 #[.val (.ref mm), .val (.int p2), .val (.int vn)] [])) _
              refine XS.aloadN X0.here hx rfl (hb hby d7_8) rfl rfl ?_
              show Steps p.tables e below (s₁.setTop (mkF m 9 #[.val (.ref mm), .val (.int p2), .val (.int vn)] [(.ref mm)])) _
              refine XS.iconst X0.here hx rfl (hb hby d7_9) ?_
              show Steps p.tables e below (s₁.setTop (mkF m 10 #[.val (.ref mm), .val (.int p2), .val (.int vn)] [(.int (0 : Int32)), (.ref mm)])) _
              refine X0.iaload hx (j := (0 : Int32)) (v := (.int va)) (by rw [e0]; exact Ar2.1) (State.isArrayOf_alike hZ.alike Ar2.2.1) Ar2.2.2 hin2 (Has.at H2 hin2 rfl) (g := (mkF m 10 #[.val (.ref mm), .val (.int p2), .val (.int vn)] [(.int (0 : Int32)), (.ref mm)])) rfl rfl (hb hby d7_10) _ ?_
              show Steps p.tables e below (s₁.setTop (mkF m 11 #[.val (.ref mm), .val (.int p2), .val (.int vn)] [(.int va)])) _
              refine XS.iloadN X0.here hx rfl (hb hby d7_11) rfl ?_
              show Steps p.tables e below (s₁.setTop (mkF m 12 #[.val (.ref mm), .val (.int p2), .val (.int vn)] [(.int p2), (.int va)])) _
              refine XS.icmpNo X0.here hx rfl (hb hby d7_12) rfl (feq hc12).1 ?_
              show Steps p.tables e below (s₁.setTop (mkF m 15 #[.val (.ref mm), .val (.int p2), .val (.int vn)] [])) _
              refine XS.iloadN X0.here hx rfl (hb hby d7_15) rfl ?_
              show Steps p.tables e below (s₁.setTop (mkF m 16 #[.val (.ref mm), .val (.int p2), .val (.int vn)] [(.int vn)])) _
              refine XS.iconst X0.here hx rfl (hb hby d7_16) ?_
              show Steps p.tables e below (s₁.setTop (mkF m 17 #[.val (.ref mm), .val (.int p2), .val (.int vn)] [(.int (1 : Int32)), (.int vn)])) _
              refine XS.icmpYes X0.here hx rfl (pc0 := 17) (pc' := 27) rfl (hb hby d7_17) rfl (flt hc17).2.2.2 (by decide) (by decide) ?_
              show Steps p.tables e below (s₁.setTop (mkF m 27 #[.val (.ref mm), .val (.int p2), .val (.int vn)] [])) _
              refine XS.iloadN X0.here hx rfl (hb hby d7_27) rfl ?_
              show Steps p.tables e below (s₁.setTop (mkF m 28 #[.val (.ref mm), .val (.int p2), .val (.int vn)] [(.int vn)])) _
              refine XS.iconst X0.here hx rfl (hb hby d7_28) ?_
              show Steps p.tables e below (s₁.setTop (mkF m 29 #[.val (.ref mm), .val (.int p2), .val (.int vn)] [(.int (2 : Int32)), (.int vn)])) _
              refine XS.icmpNo X0.here hx rfl (hb hby d7_29) rfl (tlt hc29).2.2.2 ?_
              show Steps p.tables e below (s₁.setTop (mkF m 32 #[.val (.ref mm), .val (.int p2), .val (.int vn)] [])) _
              refine XS.aloadN X0.here hx rfl (hb hby d7_32) rfl rfl ?_
              show Steps p.tables e below (s₁.setTop (mkF m 33 #[.val (.ref mm), .val (.int p2), .val (.int vn)] [(.ref mm)])) _
              refine XS.iconst X0.here hx rfl (hb hby d7_33) ?_
              show Steps p.tables e below (s₁.setTop (mkF m 34 #[.val (.ref mm), .val (.int p2), .val (.int vn)] [(.int (2 : Int32)), (.ref mm)])) _
              refine X0.iaload hx (j := (2 : Int32)) (v := (.int vc)) (by rw [e0]; exact Ar3.1) (State.isArrayOf_alike hZ.alike Ar3.2.1) Ar3.2.2 hin3 (Has.at H3 hin3 rfl) (g := (mkF m 34 #[.val (.ref mm), .val (.int p2), .val (.int vn)] [(.int (2 : Int32)), (.ref mm)])) rfl rfl (hb hby d7_34) _ ?_
              show Steps p.tables e below (s₁.setTop (mkF m 35 #[.val (.ref mm), .val (.int p2), .val (.int vn)] [(.int vc)])) _
              refine XS.iloadN X0.here hx rfl (hb hby d7_35) rfl ?_
              show Steps p.tables e below (s₁.setTop (mkF m 36 #[.val (.ref mm), .val (.int p2), .val (.int vn)] [(.int p2), (.int vc)])) _
              refine XS.icmpYes X0.here hx rfl (pc0 := 36) (pc' := 43) rfl (hb hby d7_36) rfl (feq hc36).2 (by decide) (by decide) ?_
              show Steps p.tables e below (s₁.setTop (mkF m 43 #[.val (.ref mm), .val (.int p2), .val (.int vn)] [])) _
              refine XS.iconst X0.here hx rfl (hb hby d7_43) ?_
              show Steps p.tables e below (s₁.setTop (mkF m 44 #[.val (.ref mm), .val (.int p2), .val (.int vn)] [(.int (0 : Int32))])) _
              exact retN X0 hx (t := .boolean) Bd.returns (by simp) (hb hby d7_44) hr
            · show Q7 va vb vc vn p2 h0 n0 _ s₁.heap _
              rw [e0]
              exact ⟨congrArg (fun z => some (Value.int z)) (show (0 : Int32) = own_cn va vb vc vn p2 by simp only [own_cn, hc5, hc12, hc17, hc29, hc36, true_and, false_and, and_true, and_false, if_true, if_false]), N0, rfl⟩
        · obtain ⟨cl1, Ar1, qq1, S1, Nn1, H1, Gg1⟩ := id A0
          have hin1 : ¬ ((3 : Int32) < 0 ∨ cl1.slots.size ≤ ((3 : Int32)).toNatClampNeg) := inb_of S1 ⟨by decide, by decide⟩
          obtain ⟨cl2, Ar2, qq2, S2, Nn2, H2, Gg2⟩ := id A0
          have hin2 : ¬ ((0 : Int32) < 0 ∨ cl2.slots.size ≤ ((0 : Int32)).toNatClampNeg) := inb_of S2 ⟨by decide, by decide⟩
          obtain ⟨fs, hr, hrun, hended, hW, hsame⟩ := X0.leave (v := some (.int (0 : Int32))) (fun h => by rw [Bd.returns] at h; cases h)
          refine ⟨_, _, pre0 _ ?_, hrun, hended, _, _, rfl, ?_, ⟨_, rfl⟩, hW, hsame.mono (by decide) (by decide)⟩
          · show Steps p.tables e below (s₁.setTop (mkF m 0 #[.val (.ref mm), .val (.int p2), .unset] [])) _
            refine XS.aloadN X0.here hx rfl (hb hby d7_0) rfl rfl ?_
            show Steps p.tables e below (s₁.setTop (mkF m 1 #[.val (.ref mm), .val (.int p2), .unset] [(.ref mm)])) _
            refine XS.iconst X0.here hx rfl (hb hby d7_1) ?_
            show Steps p.tables e below (s₁.setTop (mkF m 2 #[.val (.ref mm), .val (.int p2), .unset] [(.int (3 : Int32)), (.ref mm)])) _
            refine X0.iaload hx (j := (3 : Int32)) (v := (.int vn)) (by rw [e0]; exact Ar1.1) (State.isArrayOf_alike hZ.alike Ar1.2.1) Ar1.2.2 hin1 (Has.at H1 hin1 rfl) (g := (mkF m 2 #[.val (.ref mm), .val (.int p2), .unset] [(.int (3 : Int32)), (.ref mm)])) rfl rfl (hb hby d7_2) _ ?_
            show Steps p.tables e below (s₁.setTop (mkF m 3 #[.val (.ref mm), .val (.int p2), .unset] [(.int vn)])) _
            refine XS.istoreN X0.here hx rfl (hb hby d7_3) rfl (l' := #[.val (.ref mm), .val (.int p2), .val (.int vn)]) rfl ?_
            show Steps p.tables e below (s₁.setTop (mkF m 4 #[.val (.ref mm), .val (.int p2), .val (.int vn)] [])) _
            refine XS.iloadN X0.here hx rfl (hb hby d7_4) rfl ?_
            show Steps p.tables e below (s₁.setTop (mkF m 5 #[.val (.ref mm), .val (.int p2), .val (.int vn)] [(.int vn)])) _
            refine XS.ifNo X0.here hx rfl (hb hby d7_5) rfl ((if0 _ _).trans (tlt hc5).2.2.2) ?_
            show Steps p.tables e below (s₁.setTop (mkF m 8 #[.val (.ref mm), .val (.int p2), .val (.int vn)] [])) _
            refine XS.aloadN X0.here hx rfl (hb hby d7_8) rfl rfl ?_
            show Steps p.tables e below (s₁.setTop (mkF m 9 #[.val (.ref mm), .val (.int p2), .val (.int vn)] [(.ref mm)])) _
            refine XS.iconst X0.here hx rfl (hb hby d7_9) ?_
            show Steps p.tables e below (s₁.setTop (mkF m 10 #[.val (.ref mm), .val (.int p2), .val (.int vn)] [(.int (0 : Int32)), (.ref mm)])) _
            refine X0.iaload hx (j := (0 : Int32)) (v := (.int va)) (by rw [e0]; exact Ar2.1) (State.isArrayOf_alike hZ.alike Ar2.2.1) Ar2.2.2 hin2 (Has.at H2 hin2 rfl) (g := (mkF m 10 #[.val (.ref mm), .val (.int p2), .val (.int vn)] [(.int (0 : Int32)), (.ref mm)])) rfl rfl (hb hby d7_10) _ ?_
            show Steps p.tables e below (s₁.setTop (mkF m 11 #[.val (.ref mm), .val (.int p2), .val (.int vn)] [(.int va)])) _
            refine XS.iloadN X0.here hx rfl (hb hby d7_11) rfl ?_
            show Steps p.tables e below (s₁.setTop (mkF m 12 #[.val (.ref mm), .val (.int p2), .val (.int vn)] [(.int p2), (.int va)])) _
            refine XS.icmpNo X0.here hx rfl (hb hby d7_12) rfl (feq hc12).1 ?_
            show Steps p.tables e below (s₁.setTop (mkF m 15 #[.val (.ref mm), .val (.int p2), .val (.int vn)] [])) _
            refine XS.iloadN X0.here hx rfl (hb hby d7_15) rfl ?_
            show Steps p.tables e below (s₁.setTop (mkF m 16 #[.val (.ref mm), .val (.int p2), .val (.int vn)] [(.int vn)])) _
            refine XS.iconst X0.here hx rfl (hb hby d7_16) ?_
            show Steps p.tables e below (s₁.setTop (mkF m 17 #[.val (.ref mm), .val (.int p2), .val (.int vn)] [(.int (1 : Int32)), (.int vn)])) _
            refine XS.icmpYes X0.here hx rfl (pc0 := 17) (pc' := 27) rfl (hb hby d7_17) rfl (flt hc17).2.2.2 (by decide) (by decide) ?_
            show Steps p.tables e below (s₁.setTop (mkF m 27 #[.val (.ref mm), .val (.int p2), .val (.int vn)] [])) _
            refine XS.iloadN X0.here hx rfl (hb hby d7_27) rfl ?_
            show Steps p.tables e below (s₁.setTop (mkF m 28 #[.val (.ref mm), .val (.int p2), .val (.int vn)] [(.int vn)])) _
            refine XS.iconst X0.here hx rfl (hb hby d7_28) ?_
            show Steps p.tables e below (s₁.setTop (mkF m 29 #[.val (.ref mm), .val (.int p2), .val (.int vn)] [(.int (2 : Int32)), (.int vn)])) _
            refine XS.icmpYes X0.here hx rfl (pc0 := 29) (pc' := 43) rfl (hb hby d7_29) rfl (flt hc29).2.2.2 (by decide) (by decide) ?_
            show Steps p.tables e below (s₁.setTop (mkF m 43 #[.val (.ref mm), .val (.int p2), .val (.int vn)] [])) _
            refine XS.iconst X0.here hx rfl (hb hby d7_43) ?_
            show Steps p.tables e below (s₁.setTop (mkF m 44 #[.val (.ref mm), .val (.int p2), .val (.int vn)] [(.int (0 : Int32))])) _
            exact retN X0 hx (t := .boolean) Bd.returns (by simp) (hb hby d7_44) hr
          · show Q7 va vb vc vn p2 h0 n0 _ s₁.heap _
            rw [e0]
            exact ⟨congrArg (fun z => some (Value.int z)) (show (0 : Int32) = own_cn va vb vc vn p2 by simp only [own_cn, hc5, hc12, hc17, hc29, true_and, false_and, and_true, and_false, if_true, if_false]), N0, rfl⟩
  · by_cases hc17 : (1 : Int32) < vn
    · by_cases hc24 : vb = p2
      · obtain ⟨cl1, Ar1, qq1, S1, Nn1, H1, Gg1⟩ := id A0
        have hin1 : ¬ ((3 : Int32) < 0 ∨ cl1.slots.size ≤ ((3 : Int32)).toNatClampNeg) := inb_of S1 ⟨by decide, by decide⟩
        obtain ⟨cl2, Ar2, qq2, S2, Nn2, H2, Gg2⟩ := id A0
        have hin2 : ¬ ((1 : Int32) < 0 ∨ cl2.slots.size ≤ ((1 : Int32)).toNatClampNeg) := inb_of S2 ⟨by decide, by decide⟩
        obtain ⟨fs, hr, hrun, hended, hW, hsame⟩ := X0.leave (v := some (.int (1 : Int32))) (fun h => by rw [Bd.returns] at h; cases h)
        refine ⟨_, _, pre0 _ ?_, hrun, hended, _, _, rfl, ?_, ⟨_, rfl⟩, hW, hsame.mono (by decide) (by decide)⟩
        · show Steps p.tables e below (s₁.setTop (mkF m 0 #[.val (.ref mm), .val (.int p2), .unset] [])) _
          refine XS.aloadN X0.here hx rfl (hb hby d7_0) rfl rfl ?_
          show Steps p.tables e below (s₁.setTop (mkF m 1 #[.val (.ref mm), .val (.int p2), .unset] [(.ref mm)])) _
          refine XS.iconst X0.here hx rfl (hb hby d7_1) ?_
          show Steps p.tables e below (s₁.setTop (mkF m 2 #[.val (.ref mm), .val (.int p2), .unset] [(.int (3 : Int32)), (.ref mm)])) _
          refine X0.iaload hx (j := (3 : Int32)) (v := (.int vn)) (by rw [e0]; exact Ar1.1) (State.isArrayOf_alike hZ.alike Ar1.2.1) Ar1.2.2 hin1 (Has.at H1 hin1 rfl) (g := (mkF m 2 #[.val (.ref mm), .val (.int p2), .unset] [(.int (3 : Int32)), (.ref mm)])) rfl rfl (hb hby d7_2) _ ?_
          show Steps p.tables e below (s₁.setTop (mkF m 3 #[.val (.ref mm), .val (.int p2), .unset] [(.int vn)])) _
          refine XS.istoreN X0.here hx rfl (hb hby d7_3) rfl (l' := #[.val (.ref mm), .val (.int p2), .val (.int vn)]) rfl ?_
          show Steps p.tables e below (s₁.setTop (mkF m 4 #[.val (.ref mm), .val (.int p2), .val (.int vn)] [])) _
          refine XS.iloadN X0.here hx rfl (hb hby d7_4) rfl ?_
          show Steps p.tables e below (s₁.setTop (mkF m 5 #[.val (.ref mm), .val (.int p2), .val (.int vn)] [(.int vn)])) _
          refine XS.ifYes X0.here hx rfl (pc0 := 5) (pc' := 15) rfl (hb hby d7_5) rfl ((if0 _ _).trans (flt hc5).2.2.2) (by decide) (by decide) ?_
          show Steps p.tables e below (s₁.setTop (mkF m 15 #[.val (.ref mm), .val (.int p2), .val (.int vn)] [])) _
          refine XS.iloadN X0.here hx rfl (hb hby d7_15) rfl ?_
          show Steps p.tables e below (s₁.setTop (mkF m 16 #[.val (.ref mm), .val (.int p2), .val (.int vn)] [(.int vn)])) _
          refine XS.iconst X0.here hx rfl (hb hby d7_16) ?_
          show Steps p.tables e below (s₁.setTop (mkF m 17 #[.val (.ref mm), .val (.int p2), .val (.int vn)] [(.int (1 : Int32)), (.int vn)])) _
          refine XS.icmpNo X0.here hx rfl (hb hby d7_17) rfl (tlt hc17).2.2.2 ?_
          show Steps p.tables e below (s₁.setTop (mkF m 20 #[.val (.ref mm), .val (.int p2), .val (.int vn)] [])) _
          refine XS.aloadN X0.here hx rfl (hb hby d7_20) rfl rfl ?_
          show Steps p.tables e below (s₁.setTop (mkF m 21 #[.val (.ref mm), .val (.int p2), .val (.int vn)] [(.ref mm)])) _
          refine XS.iconst X0.here hx rfl (hb hby d7_21) ?_
          show Steps p.tables e below (s₁.setTop (mkF m 22 #[.val (.ref mm), .val (.int p2), .val (.int vn)] [(.int (1 : Int32)), (.ref mm)])) _
          refine X0.iaload hx (j := (1 : Int32)) (v := (.int vb)) (by rw [e0]; exact Ar2.1) (State.isArrayOf_alike hZ.alike Ar2.2.1) Ar2.2.2 hin2 (Has.at H2 hin2 rfl) (g := (mkF m 22 #[.val (.ref mm), .val (.int p2), .val (.int vn)] [(.int (1 : Int32)), (.ref mm)])) rfl rfl (hb hby d7_22) _ ?_
          show Steps p.tables e below (s₁.setTop (mkF m 23 #[.val (.ref mm), .val (.int p2), .val (.int vn)] [(.int vb)])) _
          refine XS.iloadN X0.here hx rfl (hb hby d7_23) rfl ?_
          show Steps p.tables e below (s₁.setTop (mkF m 24 #[.val (.ref mm), .val (.int p2), .val (.int vn)] [(.int p2), (.int vb)])) _
          refine XS.icmpYes X0.here hx rfl (pc0 := 24) (pc' := 39) rfl (hb hby d7_24) rfl (teq hc24).1 (by decide) (by decide) ?_
          show Steps p.tables e below (s₁.setTop (mkF m 39 #[.val (.ref mm), .val (.int p2), .val (.int vn)] [])) _
          refine XS.iconst X0.here hx rfl (hb hby d7_39) ?_
          show Steps p.tables e below (s₁.setTop (mkF m 40 #[.val (.ref mm), .val (.int p2), .val (.int vn)] [(.int (1 : Int32))])) _
          refine XS.goto X0.here hx rfl (pc0 := 40) (pc' := 44) rfl (hb hby d7_40) (by decide) (by decide) ?_
          show Steps p.tables e below (s₁.setTop (mkF m 44 #[.val (.ref mm), .val (.int p2), .val (.int vn)] [(.int (1 : Int32))])) _
          exact retN X0 hx (t := .boolean) Bd.returns (by simp) (hb hby d7_44) hr
        · show Q7 va vb vc vn p2 h0 n0 _ s₁.heap _
          rw [e0]
          exact ⟨congrArg (fun z => some (Value.int z)) (show (1 : Int32) = own_cn va vb vc vn p2 by simp only [own_cn, hc5, hc17, hc24, true_and, false_and, and_true, and_false, if_true, if_false]), N0, rfl⟩
      · by_cases hc29 : (2 : Int32) < vn
        · by_cases hc36 : vc = p2
          · obtain ⟨cl1, Ar1, qq1, S1, Nn1, H1, Gg1⟩ := id A0
            have hin1 : ¬ ((3 : Int32) < 0 ∨ cl1.slots.size ≤ ((3 : Int32)).toNatClampNeg) := inb_of S1 ⟨by decide, by decide⟩
            obtain ⟨cl2, Ar2, qq2, S2, Nn2, H2, Gg2⟩ := id A0
            have hin2 : ¬ ((1 : Int32) < 0 ∨ cl2.slots.size ≤ ((1 : Int32)).toNatClampNeg) := inb_of S2 ⟨by decide, by decide⟩
            obtain ⟨cl3, Ar3, qq3, S3, Nn3, H3, Gg3⟩ := id A0
            have hin3 : ¬ ((2 : Int32) < 0 ∨ cl3.slots.size ≤ ((2 : Int32)).toNatClampNeg) := inb_of S3 ⟨by decide, by decide⟩
            obtain ⟨fs, hr, hrun, hended, hW, hsame⟩ := X0.leave (v := some (.int (1 : Int32))) (fun h => by rw [Bd.returns] at h; cases h)
            refine ⟨_, _, pre0 _ ?_, hrun, hended, _, _, rfl, ?_, ⟨_, rfl⟩, hW, hsame.mono (by decide) (by decide)⟩
            · show Steps p.tables e below (s₁.setTop (mkF m 0 #[.val (.ref mm), .val (.int p2), .unset] [])) _
              refine XS.aloadN X0.here hx rfl (hb hby d7_0) rfl rfl ?_
              show Steps p.tables e below (s₁.setTop (mkF m 1 #[.val (.ref mm), .val (.int p2), .unset] [(.ref mm)])) _
              refine XS.iconst X0.here hx rfl (hb hby d7_1) ?_
              show Steps p.tables e below (s₁.setTop (mkF m 2 #[.val (.ref mm), .val (.int p2), .unset] [(.int (3 : Int32)), (.ref mm)])) _
              refine X0.iaload hx (j := (3 : Int32)) (v := (.int vn)) (by rw [e0]; exact Ar1.1) (State.isArrayOf_alike hZ.alike Ar1.2.1) Ar1.2.2 hin1 (Has.at H1 hin1 rfl) (g := (mkF m 2 #[.val (.ref mm), .val (.int p2), .unset] [(.int (3 : Int32)), (.ref mm)])) rfl rfl (hb hby d7_2) _ ?_
              show Steps p.tables e below (s₁.setTop (mkF m 3 #[.val (.ref mm), .val (.int p2), .unset] [(.int vn)])) _
              refine XS.istoreN X0.here hx rfl (hb hby d7_3) rfl (l' := #[.val (.ref mm), .val (.int p2), .val (.int vn)]) rfl ?_
              show Steps p.tables e below (s₁.setTop (mkF m 4 #[.val (.ref mm), .val (.int p2), .val (.int vn)] [])) _
              refine XS.iloadN X0.here hx rfl (hb hby d7_4) rfl ?_
              show Steps p.tables e below (s₁.setTop (mkF m 5 #[.val (.ref mm), .val (.int p2), .val (.int vn)] [(.int vn)])) _
              refine XS.ifYes X0.here hx rfl (pc0 := 5) (pc' := 15) rfl (hb hby d7_5) rfl ((if0 _ _).trans (flt hc5).2.2.2) (by decide) (by decide) ?_
              show Steps p.tables e below (s₁.setTop (mkF m 15 #[.val (.ref mm), .val (.int p2), .val (.int vn)] [])) _
              refine XS.iloadN X0.here hx rfl (hb hby d7_15) rfl ?_
              show Steps p.tables e below (s₁.setTop (mkF m 16 #[.val (.ref mm), .val (.int p2), .val (.int vn)] [(.int vn)])) _
              refine XS.iconst X0.here hx rfl (hb hby d7_16) ?_
              show Steps p.tables e below (s₁.setTop (mkF m 17 #[.val (.ref mm), .val (.int p2), .val (.int vn)] [(.int (1 : Int32)), (.int vn)])) _
              refine XS.icmpNo X0.here hx rfl (hb hby d7_17) rfl (tlt hc17).2.2.2 ?_
              show Steps p.tables e below (s₁.setTop (mkF m 20 #[.val (.ref mm), .val (.int p2), .val (.int vn)] [])) _
              refine XS.aloadN X0.here hx rfl (hb hby d7_20) rfl rfl ?_
              show Steps p.tables e below (s₁.setTop (mkF m 21 #[.val (.ref mm), .val (.int p2), .val (.int vn)] [(.ref mm)])) _
              refine XS.iconst X0.here hx rfl (hb hby d7_21) ?_
              show Steps p.tables e below (s₁.setTop (mkF m 22 #[.val (.ref mm), .val (.int p2), .val (.int vn)] [(.int (1 : Int32)), (.ref mm)])) _
              refine X0.iaload hx (j := (1 : Int32)) (v := (.int vb)) (by rw [e0]; exact Ar2.1) (State.isArrayOf_alike hZ.alike Ar2.2.1) Ar2.2.2 hin2 (Has.at H2 hin2 rfl) (g := (mkF m 22 #[.val (.ref mm), .val (.int p2), .val (.int vn)] [(.int (1 : Int32)), (.ref mm)])) rfl rfl (hb hby d7_22) _ ?_
              show Steps p.tables e below (s₁.setTop (mkF m 23 #[.val (.ref mm), .val (.int p2), .val (.int vn)] [(.int vb)])) _
              refine XS.iloadN X0.here hx rfl (hb hby d7_23) rfl ?_
              show Steps p.tables e below (s₁.setTop (mkF m 24 #[.val (.ref mm), .val (.int p2), .val (.int vn)] [(.int p2), (.int vb)])) _
              refine XS.icmpNo X0.here hx rfl (hb hby d7_24) rfl (feq hc24).1 ?_
              show Steps p.tables e below (s₁.setTop (mkF m 27 #[.val (.ref mm), .val (.int p2), .val (.int vn)] [])) _
              refine XS.iloadN X0.here hx rfl (hb hby d7_27) rfl ?_
              show Steps p.tables e below (s₁.setTop (mkF m 28 #[.val (.ref mm), .val (.int p2), .val (.int vn)] [(.int vn)])) _
              refine XS.iconst X0.here hx rfl (hb hby d7_28) ?_
              show Steps p.tables e below (s₁.setTop (mkF m 29 #[.val (.ref mm), .val (.int p2), .val (.int vn)] [(.int (2 : Int32)), (.int vn)])) _
              refine XS.icmpNo X0.here hx rfl (hb hby d7_29) rfl (tlt hc29).2.2.2 ?_
              show Steps p.tables e below (s₁.setTop (mkF m 32 #[.val (.ref mm), .val (.int p2), .val (.int vn)] [])) _
              refine XS.aloadN X0.here hx rfl (hb hby d7_32) rfl rfl ?_
              show Steps p.tables e below (s₁.setTop (mkF m 33 #[.val (.ref mm), .val (.int p2), .val (.int vn)] [(.ref mm)])) _
              refine XS.iconst X0.here hx rfl (hb hby d7_33) ?_
              show Steps p.tables e below (s₁.setTop (mkF m 34 #[.val (.ref mm), .val (.int p2), .val (.int vn)] [(.int (2 : Int32)), (.ref mm)])) _
              refine X0.iaload hx (j := (2 : Int32)) (v := (.int vc)) (by rw [e0]; exact Ar3.1) (State.isArrayOf_alike hZ.alike Ar3.2.1) Ar3.2.2 hin3 (Has.at H3 hin3 rfl) (g := (mkF m 34 #[.val (.ref mm), .val (.int p2), .val (.int vn)] [(.int (2 : Int32)), (.ref mm)])) rfl rfl (hb hby d7_34) _ ?_
              show Steps p.tables e below (s₁.setTop (mkF m 35 #[.val (.ref mm), .val (.int p2), .val (.int vn)] [(.int vc)])) _
              refine XS.iloadN X0.here hx rfl (hb hby d7_35) rfl ?_
              show Steps p.tables e below (s₁.setTop (mkF m 36 #[.val (.ref mm), .val (.int p2), .val (.int vn)] [(.int p2), (.int vc)])) _
              refine XS.icmpNo X0.here hx rfl (hb hby d7_36) rfl (teq hc36).2 ?_
              show Steps p.tables e below (s₁.setTop (mkF m 39 #[.val (.ref mm), .val (.int p2), .val (.int vn)] [])) _
              refine XS.iconst X0.here hx rfl (hb hby d7_39) ?_
              show Steps p.tables e below (s₁.setTop (mkF m 40 #[.val (.ref mm), .val (.int p2), .val (.int vn)] [(.int (1 : Int32))])) _
              refine XS.goto X0.here hx rfl (pc0 := 40) (pc' := 44) rfl (hb hby d7_40) (by decide) (by decide) ?_
              show Steps p.tables e below (s₁.setTop (mkF m 44 #[.val (.ref mm), .val (.int p2), .val (.int vn)] [(.int (1 : Int32))])) _
              exact retN X0 hx (t := .boolean) Bd.returns (by simp) (hb hby d7_44) hr
            · show Q7 va vb vc vn p2 h0 n0 _ s₁.heap _
              rw [e0]
              exact ⟨congrArg (fun z => some (Value.int z)) (show (1 : Int32) = own_cn va vb vc vn p2 by simp only [own_cn, hc5, hc17, hc24, hc29, hc36, true_and, false_and, and_true, and_false, if_true, if_false]), N0, rfl⟩
          · obtain ⟨cl1, Ar1, qq1, S1, Nn1, H1, Gg1⟩ := id A0
            have hin1 : ¬ ((3 : Int32) < 0 ∨ cl1.slots.size ≤ ((3 : Int32)).toNatClampNeg) := inb_of S1 ⟨by decide, by decide⟩
            obtain ⟨cl2, Ar2, qq2, S2, Nn2, H2, Gg2⟩ := id A0
            have hin2 : ¬ ((1 : Int32) < 0 ∨ cl2.slots.size ≤ ((1 : Int32)).toNatClampNeg) := inb_of S2 ⟨by decide, by decide⟩
            obtain ⟨cl3, Ar3, qq3, S3, Nn3, H3, Gg3⟩ := id A0
            have hin3 : ¬ ((2 : Int32) < 0 ∨ cl3.slots.size ≤ ((2 : Int32)).toNatClampNeg) := inb_of S3 ⟨by decide, by decide⟩
            obtain ⟨fs, hr, hrun, hended, hW, hsame⟩ := X0.leave (v := some (.int (0 : Int32))) (fun h => by rw [Bd.returns] at h; cases h)
            refine ⟨_, _, pre0 _ ?_, hrun, hended, _, _, rfl, ?_, ⟨_, rfl⟩, hW, hsame.mono (by decide) (by decide)⟩
            · show Steps p.tables e below (s₁.setTop (mkF m 0 #[.val (.ref mm), .val (.int p2), .unset] [])) _
              refine XS.aloadN X0.here hx rfl (hb hby d7_0) rfl rfl ?_
              show Steps p.tables e below (s₁.setTop (mkF m 1 #[.val (.ref mm), .val (.int p2), .unset] [(.ref mm)])) _
              refine XS.iconst X0.here hx rfl (hb hby d7_1) ?_
              show Steps p.tables e below (s₁.setTop (mkF m 2 #[.val (.ref mm), .val (.int p2), .unset] [(.int (3 : Int32)), (.ref mm)])) _
              refine X0.iaload hx (j := (3 : Int32)) (v := (.int vn)) (by rw [e0]; exact Ar1.1) (State.isArrayOf_alike hZ.alike Ar1.2.1) Ar1.2.2 hin1 (Has.at H1 hin1 rfl) (g := (mkF m 2 #[.val (.ref mm), .val (.int p2), .unset] [(.int (3 : Int32)), (.ref mm)])) rfl rfl (hb hby d7_2) _ ?_
              show Steps p.tables e below (s₁.setTop (mkF m 3 #[.val (.ref mm), .val (.int p2), .unset] [(.int vn)])) _
              refine XS.istoreN X0.here hx rfl (hb hby d7_3) rfl (l' := #[.val (.ref mm), .val (.int p2), .val (.int vn)]) rfl ?_
              show Steps p.tables e below (s₁.setTop (mkF m 4 #[.val (.ref mm), .val (.int p2), .val (.int vn)] [])) _
              refine XS.iloadN X0.here hx rfl (hb hby d7_4) rfl ?_
              show Steps p.tables e below (s₁.setTop (mkF m 5 #[.val (.ref mm), .val (.int p2), .val (.int vn)] [(.int vn)])) _
              refine XS.ifYes X0.here hx rfl (pc0 := 5) (pc' := 15) rfl (hb hby d7_5) rfl ((if0 _ _).trans (flt hc5).2.2.2) (by decide) (by decide) ?_
              show Steps p.tables e below (s₁.setTop (mkF m 15 #[.val (.ref mm), .val (.int p2), .val (.int vn)] [])) _
              refine XS.iloadN X0.here hx rfl (hb hby d7_15) rfl ?_
              show Steps p.tables e below (s₁.setTop (mkF m 16 #[.val (.ref mm), .val (.int p2), .val (.int vn)] [(.int vn)])) _
              refine XS.iconst X0.here hx rfl (hb hby d7_16) ?_
              show Steps p.tables e below (s₁.setTop (mkF m 17 #[.val (.ref mm), .val (.int p2), .val (.int vn)] [(.int (1 : Int32)), (.int vn)])) _
              refine XS.icmpNo X0.here hx rfl (hb hby d7_17) rfl (tlt hc17).2.2.2 ?_
              show Steps p.tables e below (s₁.setTop (mkF m 20 #[.val (.ref mm), .val (.int p2), .val (.int vn)] [])) _
              refine XS.aloadN X0.here hx rfl (hb hby d7_20) rfl rfl ?_
              show Steps p.tables e below (s₁.setTop (mkF m 21 #[.val (.ref mm), .val (.int p2), .val (.int vn)] [(.ref mm)])) _
              refine XS.iconst X0.here hx rfl (hb hby d7_21) ?_
              show Steps p.tables e below (s₁.setTop (mkF m 22 #[.val (.ref mm), .val (.int p2), .val (.int vn)] [(.int (1 : Int32)), (.ref mm)])) _
              refine X0.iaload hx (j := (1 : Int32)) (v := (.int vb)) (by rw [e0]; exact Ar2.1) (State.isArrayOf_alike hZ.alike Ar2.2.1) Ar2.2.2 hin2 (Has.at H2 hin2 rfl) (g := (mkF m 22 #[.val (.ref mm), .val (.int p2), .val (.int vn)] [(.int (1 : Int32)), (.ref mm)])) rfl rfl (hb hby d7_22) _ ?_
              show Steps p.tables e below (s₁.setTop (mkF m 23 #[.val (.ref mm), .val (.int p2), .val (.int vn)] [(.int vb)])) _
              refine XS.iloadN X0.here hx rfl (hb hby d7_23) rfl ?_
              show Steps p.tables e below (s₁.setTop (mkF m 24 #[.val (.ref mm), .val (.int p2), .val (.int vn)] [(.int p2), (.int vb)])) _
              refine XS.icmpNo X0.here hx rfl (hb hby d7_24) rfl (feq hc24).1 ?_
              show Steps p.tables e below (s₁.setTop (mkF m 27 #[.val (.ref mm), .val (.int p2), .val (.int vn)] [])) _
              refine XS.iloadN X0.here hx rfl (hb hby d7_27) rfl ?_
              show Steps p.tables e below (s₁.setTop (mkF m 28 #[.val (.ref mm), .val (.int p2), .val (.int vn)] [(.int vn)])) _
              refine XS.iconst X0.here hx rfl (hb hby d7_28) ?_
              show Steps p.tables e below (s₁.setTop (mkF m 29 #[.val (.ref mm), .val (.int p2), .val (.int vn)] [(.int (2 : Int32)), (.int vn)])) _
              refine XS.icmpNo X0.here hx rfl (hb hby d7_29) rfl (tlt hc29).2.2.2 ?_
              show Steps p.tables e below (s₁.setTop (mkF m 32 #[.val (.ref mm), .val (.int p2), .val (.int vn)] [])) _
              refine XS.aloadN X0.here hx rfl (hb hby d7_32) rfl rfl ?_
              show Steps p.tables e below (s₁.setTop (mkF m 33 #[.val (.ref mm), .val (.int p2), .val (.int vn)] [(.ref mm)])) _
              refine XS.iconst X0.here hx rfl (hb hby d7_33) ?_
              show Steps p.tables e below (s₁.setTop (mkF m 34 #[.val (.ref mm), .val (.int p2), .val (.int vn)] [(.int (2 : Int32)), (.ref mm)])) _
              refine X0.iaload hx (j := (2 : Int32)) (v := (.int vc)) (by rw [e0]; exact Ar3.1) (State.isArrayOf_alike hZ.alike Ar3.2.1) Ar3.2.2 hin3 (Has.at H3 hin3 rfl) (g := (mkF m 34 #[.val (.ref mm), .val (.int p2), .val (.int vn)] [(.int (2 : Int32)), (.ref mm)])) rfl rfl (hb hby d7_34) _ ?_
              show Steps p.tables e below (s₁.setTop (mkF m 35 #[.val (.ref mm), .val (.int p2), .val (.int vn)] [(.int vc)])) _
              refine XS.iloadN X0.here hx rfl (hb hby d7_35) rfl ?_
              show Steps p.tables e below (s₁.setTop (mkF m 36 #[.val (.ref mm), .val (.int p2), .val (.int vn)] [(.int p2), (.int vc)])) _
              refine XS.icmpYes X0.here hx rfl (pc0 := 36) (pc' := 43) rfl (hb hby d7_36) rfl (feq hc36).2 (by decide) (by decide) ?_
              show Steps p.tables e below (s₁.setTop (mkF m 43 #[.val (.ref mm), .val (.int p2), .val (.int vn)] [])) _
              refine XS.iconst X0.here hx rfl (hb hby d7_43) ?_
              show Steps p.tables e below (s₁.setTop (mkF m 44 #[.val (.ref mm), .val (.int p2), .val (.int vn)] [(.int (0 : Int32))])) _
              exact retN X0 hx (t := .boolean) Bd.returns (by simp) (hb hby d7_44) hr
            · show Q7 va vb vc vn p2 h0 n0 _ s₁.heap _
              rw [e0]
              exact ⟨congrArg (fun z => some (Value.int z)) (show (0 : Int32) = own_cn va vb vc vn p2 by simp only [own_cn, hc5, hc17, hc24, hc29, hc36, true_and, false_and, and_true, and_false, if_true, if_false]), N0, rfl⟩
        · obtain ⟨cl1, Ar1, qq1, S1, Nn1, H1, Gg1⟩ := id A0
          have hin1 : ¬ ((3 : Int32) < 0 ∨ cl1.slots.size ≤ ((3 : Int32)).toNatClampNeg) := inb_of S1 ⟨by decide, by decide⟩
          obtain ⟨cl2, Ar2, qq2, S2, Nn2, H2, Gg2⟩ := id A0
          have hin2 : ¬ ((1 : Int32) < 0 ∨ cl2.slots.size ≤ ((1 : Int32)).toNatClampNeg) := inb_of S2 ⟨by decide, by decide⟩
          obtain ⟨fs, hr, hrun, hended, hW, hsame⟩ := X0.leave (v := some (.int (0 : Int32))) (fun h => by rw [Bd.returns] at h; cases h)
          refine ⟨_, _, pre0 _ ?_, hrun, hended, _, _, rfl, ?_, ⟨_, rfl⟩, hW, hsame.mono (by decide) (by decide)⟩
          · show Steps p.tables e below (s₁.setTop (mkF m 0 #[.val (.ref mm), .val (.int p2), .unset] [])) _
            refine XS.aloadN X0.here hx rfl (hb hby d7_0) rfl rfl ?_
            show Steps p.tables e below (s₁.setTop (mkF m 1 #[.val (.ref mm), .val (.int p2), .unset] [(.ref mm)])) _
            refine XS.iconst X0.here hx rfl (hb hby d7_1) ?_
            show Steps p.tables e below (s₁.setTop (mkF m 2 #[.val (.ref mm), .val (.int p2), .unset] [(.int (3 : Int32)), (.ref mm)])) _
            refine X0.iaload hx (j := (3 : Int32)) (v := (.int vn)) (by rw [e0]; exact Ar1.1) (State.isArrayOf_alike hZ.alike Ar1.2.1) Ar1.2.2 hin1 (Has.at H1 hin1 rfl) (g := (mkF m 2 #[.val (.ref mm), .val (.int p2), .unset] [(.int (3 : Int32)), (.ref mm)])) rfl rfl (hb hby d7_2) _ ?_
            show Steps p.tables e below (s₁.setTop (mkF m 3 #[.val (.ref mm), .val (.int p2), .unset] [(.int vn)])) _
            refine XS.istoreN X0.here hx rfl (hb hby d7_3) rfl (l' := #[.val (.ref mm), .val (.int p2), .val (.int vn)]) rfl ?_
            show Steps p.tables e below (s₁.setTop (mkF m 4 #[.val (.ref mm), .val (.int p2), .val (.int vn)] [])) _
            refine XS.iloadN X0.here hx rfl (hb hby d7_4) rfl ?_
            show Steps p.tables e below (s₁.setTop (mkF m 5 #[.val (.ref mm), .val (.int p2), .val (.int vn)] [(.int vn)])) _
            refine XS.ifYes X0.here hx rfl (pc0 := 5) (pc' := 15) rfl (hb hby d7_5) rfl ((if0 _ _).trans (flt hc5).2.2.2) (by decide) (by decide) ?_
            show Steps p.tables e below (s₁.setTop (mkF m 15 #[.val (.ref mm), .val (.int p2), .val (.int vn)] [])) _
            refine XS.iloadN X0.here hx rfl (hb hby d7_15) rfl ?_
            show Steps p.tables e below (s₁.setTop (mkF m 16 #[.val (.ref mm), .val (.int p2), .val (.int vn)] [(.int vn)])) _
            refine XS.iconst X0.here hx rfl (hb hby d7_16) ?_
            show Steps p.tables e below (s₁.setTop (mkF m 17 #[.val (.ref mm), .val (.int p2), .val (.int vn)] [(.int (1 : Int32)), (.int vn)])) _
            refine XS.icmpNo X0.here hx rfl (hb hby d7_17) rfl (tlt hc17).2.2.2 ?_
            show Steps p.tables e below (s₁.setTop (mkF m 20 #[.val (.ref mm), .val (.int p2), .val (.int vn)] [])) _
            refine XS.aloadN X0.here hx rfl (hb hby d7_20) rfl rfl ?_
            show Steps p.tables e below (s₁.setTop (mkF m 21 #[.val (.ref mm), .val (.int p2), .val (.int vn)] [(.ref mm)])) _
            refine XS.iconst X0.here hx rfl (hb hby d7_21) ?_
            show Steps p.tables e below (s₁.setTop (mkF m 22 #[.val (.ref mm), .val (.int p2), .val (.int vn)] [(.int (1 : Int32)), (.ref mm)])) _
            refine X0.iaload hx (j := (1 : Int32)) (v := (.int vb)) (by rw [e0]; exact Ar2.1) (State.isArrayOf_alike hZ.alike Ar2.2.1) Ar2.2.2 hin2 (Has.at H2 hin2 rfl) (g := (mkF m 22 #[.val (.ref mm), .val (.int p2), .val (.int vn)] [(.int (1 : Int32)), (.ref mm)])) rfl rfl (hb hby d7_22) _ ?_
            show Steps p.tables e below (s₁.setTop (mkF m 23 #[.val (.ref mm), .val (.int p2), .val (.int vn)] [(.int vb)])) _
            refine XS.iloadN X0.here hx rfl (hb hby d7_23) rfl ?_
            show Steps p.tables e below (s₁.setTop (mkF m 24 #[.val (.ref mm), .val (.int p2), .val (.int vn)] [(.int p2), (.int vb)])) _
            refine XS.icmpNo X0.here hx rfl (hb hby d7_24) rfl (feq hc24).1 ?_
            show Steps p.tables e below (s₁.setTop (mkF m 27 #[.val (.ref mm), .val (.int p2), .val (.int vn)] [])) _
            refine XS.iloadN X0.here hx rfl (hb hby d7_27) rfl ?_
            show Steps p.tables e below (s₁.setTop (mkF m 28 #[.val (.ref mm), .val (.int p2), .val (.int vn)] [(.int vn)])) _
            refine XS.iconst X0.here hx rfl (hb hby d7_28) ?_
            show Steps p.tables e below (s₁.setTop (mkF m 29 #[.val (.ref mm), .val (.int p2), .val (.int vn)] [(.int (2 : Int32)), (.int vn)])) _
            refine XS.icmpYes X0.here hx rfl (pc0 := 29) (pc' := 43) rfl (hb hby d7_29) rfl (flt hc29).2.2.2 (by decide) (by decide) ?_
            show Steps p.tables e below (s₁.setTop (mkF m 43 #[.val (.ref mm), .val (.int p2), .val (.int vn)] [])) _
            refine XS.iconst X0.here hx rfl (hb hby d7_43) ?_
            show Steps p.tables e below (s₁.setTop (mkF m 44 #[.val (.ref mm), .val (.int p2), .val (.int vn)] [(.int (0 : Int32))])) _
            exact retN X0 hx (t := .boolean) Bd.returns (by simp) (hb hby d7_44) hr
          · show Q7 va vb vc vn p2 h0 n0 _ s₁.heap _
            rw [e0]
            exact ⟨congrArg (fun z => some (Value.int z)) (show (0 : Int32) = own_cn va vb vc vn p2 by simp only [own_cn, hc5, hc17, hc24, hc29, true_and, false_and, and_true, and_false, if_true, if_false]), N0, rfl⟩
    · by_cases hc29 : (2 : Int32) < vn
      · by_cases hc36 : vc = p2
        · obtain ⟨cl1, Ar1, qq1, S1, Nn1, H1, Gg1⟩ := id A0
          have hin1 : ¬ ((3 : Int32) < 0 ∨ cl1.slots.size ≤ ((3 : Int32)).toNatClampNeg) := inb_of S1 ⟨by decide, by decide⟩
          obtain ⟨cl2, Ar2, qq2, S2, Nn2, H2, Gg2⟩ := id A0
          have hin2 : ¬ ((2 : Int32) < 0 ∨ cl2.slots.size ≤ ((2 : Int32)).toNatClampNeg) := inb_of S2 ⟨by decide, by decide⟩
          obtain ⟨fs, hr, hrun, hended, hW, hsame⟩ := X0.leave (v := some (.int (1 : Int32))) (fun h => by rw [Bd.returns] at h; cases h)
          refine ⟨_, _, pre0 _ ?_, hrun, hended, _, _, rfl, ?_, ⟨_, rfl⟩, hW, hsame.mono (by decide) (by decide)⟩
          · show Steps p.tables e below (s₁.setTop (mkF m 0 #[.val (.ref mm), .val (.int p2), .unset] [])) _
            refine XS.aloadN X0.here hx rfl (hb hby d7_0) rfl rfl ?_
            show Steps p.tables e below (s₁.setTop (mkF m 1 #[.val (.ref mm), .val (.int p2), .unset] [(.ref mm)])) _
            refine XS.iconst X0.here hx rfl (hb hby d7_1) ?_
            show Steps p.tables e below (s₁.setTop (mkF m 2 #[.val (.ref mm), .val (.int p2), .unset] [(.int (3 : Int32)), (.ref mm)])) _
            refine X0.iaload hx (j := (3 : Int32)) (v := (.int vn)) (by rw [e0]; exact Ar1.1) (State.isArrayOf_alike hZ.alike Ar1.2.1) Ar1.2.2 hin1 (Has.at H1 hin1 rfl) (g := (mkF m 2 #[.val (.ref mm), .val (.int p2), .unset] [(.int (3 : Int32)), (.ref mm)])) rfl rfl (hb hby d7_2) _ ?_
            show Steps p.tables e below (s₁.setTop (mkF m 3 #[.val (.ref mm), .val (.int p2), .unset] [(.int vn)])) _
            refine XS.istoreN X0.here hx rfl (hb hby d7_3) rfl (l' := #[.val (.ref mm), .val (.int p2), .val (.int vn)]) rfl ?_
            show Steps p.tables e below (s₁.setTop (mkF m 4 #[.val (.ref mm), .val (.int p2), .val (.int vn)] [])) _
            refine XS.iloadN X0.here hx rfl (hb hby d7_4) rfl ?_
            show Steps p.tables e below (s₁.setTop (mkF m 5 #[.val (.ref mm), .val (.int p2), .val (.int vn)] [(.int vn)])) _
            refine XS.ifYes X0.here hx rfl (pc0 := 5) (pc' := 15) rfl (hb hby d7_5) rfl ((if0 _ _).trans (flt hc5).2.2.2) (by decide) (by decide) ?_
            show Steps p.tables e below (s₁.setTop (mkF m 15 #[.val (.ref mm), .val (.int p2), .val (.int vn)] [])) _
            refine XS.iloadN X0.here hx rfl (hb hby d7_15) rfl ?_
            show Steps p.tables e below (s₁.setTop (mkF m 16 #[.val (.ref mm), .val (.int p2), .val (.int vn)] [(.int vn)])) _
            refine XS.iconst X0.here hx rfl (hb hby d7_16) ?_
            show Steps p.tables e below (s₁.setTop (mkF m 17 #[.val (.ref mm), .val (.int p2), .val (.int vn)] [(.int (1 : Int32)), (.int vn)])) _
            refine XS.icmpYes X0.here hx rfl (pc0 := 17) (pc' := 27) rfl (hb hby d7_17) rfl (flt hc17).2.2.2 (by decide) (by decide) ?_
            show Steps p.tables e below (s₁.setTop (mkF m 27 #[.val (.ref mm), .val (.int p2), .val (.int vn)] [])) _
            refine XS.iloadN X0.here hx rfl (hb hby d7_27) rfl ?_
            show Steps p.tables e below (s₁.setTop (mkF m 28 #[.val (.ref mm), .val (.int p2), .val (.int vn)] [(.int vn)])) _
            refine XS.iconst X0.here hx rfl (hb hby d7_28) ?_
            show Steps p.tables e below (s₁.setTop (mkF m 29 #[.val (.ref mm), .val (.int p2), .val (.int vn)] [(.int (2 : Int32)), (.int vn)])) _
            refine XS.icmpNo X0.here hx rfl (hb hby d7_29) rfl (tlt hc29).2.2.2 ?_
            show Steps p.tables e below (s₁.setTop (mkF m 32 #[.val (.ref mm), .val (.int p2), .val (.int vn)] [])) _
            refine XS.aloadN X0.here hx rfl (hb hby d7_32) rfl rfl ?_
            show Steps p.tables e below (s₁.setTop (mkF m 33 #[.val (.ref mm), .val (.int p2), .val (.int vn)] [(.ref mm)])) _
            refine XS.iconst X0.here hx rfl (hb hby d7_33) ?_
            show Steps p.tables e below (s₁.setTop (mkF m 34 #[.val (.ref mm), .val (.int p2), .val (.int vn)] [(.int (2 : Int32)), (.ref mm)])) _
            refine X0.iaload hx (j := (2 : Int32)) (v := (.int vc)) (by rw [e0]; exact Ar2.1) (State.isArrayOf_alike hZ.alike Ar2.2.1) Ar2.2.2 hin2 (Has.at H2 hin2 rfl) (g := (mkF m 34 #[.val (.ref mm), .val (.int p2), .val (.int vn)] [(.int (2 : Int32)), (.ref mm)])) rfl rfl (hb hby d7_34) _ ?_
            show Steps p.tables e below (s₁.setTop (mkF m 35 #[.val (.ref mm), .val (.int p2), .val (.int vn)] [(.int vc)])) _
            refine XS.iloadN X0.here hx rfl (hb hby d7_35) rfl ?_
            show Steps p.tables e below (s₁.setTop (mkF m 36 #[.val (.ref mm), .val (.int p2), .val (.int vn)] [(.int p2), (.int vc)])) _
            refine XS.icmpNo X0.here hx rfl (hb hby d7_36) rfl (teq hc36).2 ?_
            show Steps p.tables e below (s₁.setTop (mkF m 39 #[.val (.ref mm), .val (.int p2), .val (.int vn)] [])) _
            refine XS.iconst X0.here hx rfl (hb hby d7_39) ?_
            show Steps p.tables e below (s₁.setTop (mkF m 40 #[.val (.ref mm), .val (.int p2), .val (.int vn)] [(.int (1 : Int32))])) _
            refine XS.goto X0.here hx rfl (pc0 := 40) (pc' := 44) rfl (hb hby d7_40) (by decide) (by decide) ?_
            show Steps p.tables e below (s₁.setTop (mkF m 44 #[.val (.ref mm), .val (.int p2), .val (.int vn)] [(.int (1 : Int32))])) _
            exact retN X0 hx (t := .boolean) Bd.returns (by simp) (hb hby d7_44) hr
          · show Q7 va vb vc vn p2 h0 n0 _ s₁.heap _
            rw [e0]
            exact ⟨congrArg (fun z => some (Value.int z)) (show (1 : Int32) = own_cn va vb vc vn p2 by simp only [own_cn, hc5, hc17, hc29, hc36, true_and, false_and, and_true, and_false, if_true, if_false]), N0, rfl⟩
        · obtain ⟨cl1, Ar1, qq1, S1, Nn1, H1, Gg1⟩ := id A0
          have hin1 : ¬ ((3 : Int32) < 0 ∨ cl1.slots.size ≤ ((3 : Int32)).toNatClampNeg) := inb_of S1 ⟨by decide, by decide⟩
          obtain ⟨cl2, Ar2, qq2, S2, Nn2, H2, Gg2⟩ := id A0
          have hin2 : ¬ ((2 : Int32) < 0 ∨ cl2.slots.size ≤ ((2 : Int32)).toNatClampNeg) := inb_of S2 ⟨by decide, by decide⟩
          obtain ⟨fs, hr, hrun, hended, hW, hsame⟩ := X0.leave (v := some (.int (0 : Int32))) (fun h => by rw [Bd.returns] at h; cases h)
          refine ⟨_, _, pre0 _ ?_, hrun, hended, _, _, rfl, ?_, ⟨_, rfl⟩, hW, hsame.mono (by decide) (by decide)⟩
          · show Steps p.tables e below (s₁.setTop (mkF m 0 #[.val (.ref mm), .val (.int p2), .unset] [])) _
            refine XS.aloadN X0.here hx rfl (hb hby d7_0) rfl rfl ?_
            show Steps p.tables e below (s₁.setTop (mkF m 1 #[.val (.ref mm), .val (.int p2), .unset] [(.ref mm)])) _
            refine XS.iconst X0.here hx rfl (hb hby d7_1) ?_
            show Steps p.tables e below (s₁.setTop (mkF m 2 #[.val (.ref mm), .val (.int p2), .unset] [(.int (3 : Int32)), (.ref mm)])) _
            refine X0.iaload hx (j := (3 : Int32)) (v := (.int vn)) (by rw [e0]; exact Ar1.1) (State.isArrayOf_alike hZ.alike Ar1.2.1) Ar1.2.2 hin1 (Has.at H1 hin1 rfl) (g := (mkF m 2 #[.val (.ref mm), .val (.int p2), .unset] [(.int (3 : Int32)), (.ref mm)])) rfl rfl (hb hby d7_2) _ ?_
            show Steps p.tables e below (s₁.setTop (mkF m 3 #[.val (.ref mm), .val (.int p2), .unset] [(.int vn)])) _
            refine XS.istoreN X0.here hx rfl (hb hby d7_3) rfl (l' := #[.val (.ref mm), .val (.int p2), .val (.int vn)]) rfl ?_
            show Steps p.tables e below (s₁.setTop (mkF m 4 #[.val (.ref mm), .val (.int p2), .val (.int vn)] [])) _
            refine XS.iloadN X0.here hx rfl (hb hby d7_4) rfl ?_
            show Steps p.tables e below (s₁.setTop (mkF m 5 #[.val (.ref mm), .val (.int p2), .val (.int vn)] [(.int vn)])) _
            refine XS.ifYes X0.here hx rfl (pc0 := 5) (pc' := 15) rfl (hb hby d7_5) rfl ((if0 _ _).trans (flt hc5).2.2.2) (by decide) (by decide) ?_
            show Steps p.tables e below (s₁.setTop (mkF m 15 #[.val (.ref mm), .val (.int p2), .val (.int vn)] [])) _
            refine XS.iloadN X0.here hx rfl (hb hby d7_15) rfl ?_
            show Steps p.tables e below (s₁.setTop (mkF m 16 #[.val (.ref mm), .val (.int p2), .val (.int vn)] [(.int vn)])) _
            refine XS.iconst X0.here hx rfl (hb hby d7_16) ?_
            show Steps p.tables e below (s₁.setTop (mkF m 17 #[.val (.ref mm), .val (.int p2), .val (.int vn)] [(.int (1 : Int32)), (.int vn)])) _
            refine XS.icmpYes X0.here hx rfl (pc0 := 17) (pc' := 27) rfl (hb hby d7_17) rfl (flt hc17).2.2.2 (by decide) (by decide) ?_
            show Steps p.tables e below (s₁.setTop (mkF m 27 #[.val (.ref mm), .val (.int p2), .val (.int vn)] [])) _
            refine XS.iloadN X0.here hx rfl (hb hby d7_27) rfl ?_
            show Steps p.tables e below (s₁.setTop (mkF m 28 #[.val (.ref mm), .val (.int p2), .val (.int vn)] [(.int vn)])) _
            refine XS.iconst X0.here hx rfl (hb hby d7_28) ?_
            show Steps p.tables e below (s₁.setTop (mkF m 29 #[.val (.ref mm), .val (.int p2), .val (.int vn)] [(.int (2 : Int32)), (.int vn)])) _
            refine XS.icmpNo X0.here hx rfl (hb hby d7_29) rfl (tlt hc29).2.2.2 ?_
            show Steps p.tables e below (s₁.setTop (mkF m 32 #[.val (.ref mm), .val (.int p2), .val (.int vn)] [])) _
            refine XS.aloadN X0.here hx rfl (hb hby d7_32) rfl rfl ?_
            show Steps p.tables e below (s₁.setTop (mkF m 33 #[.val (.ref mm), .val (.int p2), .val (.int vn)] [(.ref mm)])) _
            refine XS.iconst X0.here hx rfl (hb hby d7_33) ?_
            show Steps p.tables e below (s₁.setTop (mkF m 34 #[.val (.ref mm), .val (.int p2), .val (.int vn)] [(.int (2 : Int32)), (.ref mm)])) _
            refine X0.iaload hx (j := (2 : Int32)) (v := (.int vc)) (by rw [e0]; exact Ar2.1) (State.isArrayOf_alike hZ.alike Ar2.2.1) Ar2.2.2 hin2 (Has.at H2 hin2 rfl) (g := (mkF m 34 #[.val (.ref mm), .val (.int p2), .val (.int vn)] [(.int (2 : Int32)), (.ref mm)])) rfl rfl (hb hby d7_34) _ ?_
            show Steps p.tables e below (s₁.setTop (mkF m 35 #[.val (.ref mm), .val (.int p2), .val (.int vn)] [(.int vc)])) _
            refine XS.iloadN X0.here hx rfl (hb hby d7_35) rfl ?_
            show Steps p.tables e below (s₁.setTop (mkF m 36 #[.val (.ref mm), .val (.int p2), .val (.int vn)] [(.int p2), (.int vc)])) _
            refine XS.icmpYes X0.here hx rfl (pc0 := 36) (pc' := 43) rfl (hb hby d7_36) rfl (feq hc36).2 (by decide) (by decide) ?_
            show Steps p.tables e below (s₁.setTop (mkF m 43 #[.val (.ref mm), .val (.int p2), .val (.int vn)] [])) _
            refine XS.iconst X0.here hx rfl (hb hby d7_43) ?_
            show Steps p.tables e below (s₁.setTop (mkF m 44 #[.val (.ref mm), .val (.int p2), .val (.int vn)] [(.int (0 : Int32))])) _
            exact retN X0 hx (t := .boolean) Bd.returns (by simp) (hb hby d7_44) hr
          · show Q7 va vb vc vn p2 h0 n0 _ s₁.heap _
            rw [e0]
            exact ⟨congrArg (fun z => some (Value.int z)) (show (0 : Int32) = own_cn va vb vc vn p2 by simp only [own_cn, hc5, hc17, hc29, hc36, true_and, false_and, and_true, and_false, if_true, if_false]), N0, rfl⟩
      · obtain ⟨cl1, Ar1, qq1, S1, Nn1, H1, Gg1⟩ := id A0
        have hin1 : ¬ ((3 : Int32) < 0 ∨ cl1.slots.size ≤ ((3 : Int32)).toNatClampNeg) := inb_of S1 ⟨by decide, by decide⟩
        obtain ⟨fs, hr, hrun, hended, hW, hsame⟩ := X0.leave (v := some (.int (0 : Int32))) (fun h => by rw [Bd.returns] at h; cases h)
        refine ⟨_, _, pre0 _ ?_, hrun, hended, _, _, rfl, ?_, ⟨_, rfl⟩, hW, hsame.mono (by decide) (by decide)⟩
        · show Steps p.tables e below (s₁.setTop (mkF m 0 #[.val (.ref mm), .val (.int p2), .unset] [])) _
          refine XS.aloadN X0.here hx rfl (hb hby d7_0) rfl rfl ?_
          show Steps p.tables e below (s₁.setTop (mkF m 1 #[.val (.ref mm), .val (.int p2), .unset] [(.ref mm)])) _
          refine XS.iconst X0.here hx rfl (hb hby d7_1) ?_
          show Steps p.tables e below (s₁.setTop (mkF m 2 #[.val (.ref mm), .val (.int p2), .unset] [(.int (3 : Int32)), (.ref mm)])) _
          refine X0.iaload hx (j := (3 : Int32)) (v := (.int vn)) (by rw [e0]; exact Ar1.1) (State.isArrayOf_alike hZ.alike Ar1.2.1) Ar1.2.2 hin1 (Has.at H1 hin1 rfl) (g := (mkF m 2 #[.val (.ref mm), .val (.int p2), .unset] [(.int (3 : Int32)), (.ref mm)])) rfl rfl (hb hby d7_2) _ ?_
          show Steps p.tables e below (s₁.setTop (mkF m 3 #[.val (.ref mm), .val (.int p2), .unset] [(.int vn)])) _
          refine XS.istoreN X0.here hx rfl (hb hby d7_3) rfl (l' := #[.val (.ref mm), .val (.int p2), .val (.int vn)]) rfl ?_
          show Steps p.tables e below (s₁.setTop (mkF m 4 #[.val (.ref mm), .val (.int p2), .val (.int vn)] [])) _
          refine XS.iloadN X0.here hx rfl (hb hby d7_4) rfl ?_
          show Steps p.tables e below (s₁.setTop (mkF m 5 #[.val (.ref mm), .val (.int p2), .val (.int vn)] [(.int vn)])) _
          refine XS.ifYes X0.here hx rfl (pc0 := 5) (pc' := 15) rfl (hb hby d7_5) rfl ((if0 _ _).trans (flt hc5).2.2.2) (by decide) (by decide) ?_
          show Steps p.tables e below (s₁.setTop (mkF m 15 #[.val (.ref mm), .val (.int p2), .val (.int vn)] [])) _
          refine XS.iloadN X0.here hx rfl (hb hby d7_15) rfl ?_
          show Steps p.tables e below (s₁.setTop (mkF m 16 #[.val (.ref mm), .val (.int p2), .val (.int vn)] [(.int vn)])) _
          refine XS.iconst X0.here hx rfl (hb hby d7_16) ?_
          show Steps p.tables e below (s₁.setTop (mkF m 17 #[.val (.ref mm), .val (.int p2), .val (.int vn)] [(.int (1 : Int32)), (.int vn)])) _
          refine XS.icmpYes X0.here hx rfl (pc0 := 17) (pc' := 27) rfl (hb hby d7_17) rfl (flt hc17).2.2.2 (by decide) (by decide) ?_
          show Steps p.tables e below (s₁.setTop (mkF m 27 #[.val (.ref mm), .val (.int p2), .val (.int vn)] [])) _
          refine XS.iloadN X0.here hx rfl (hb hby d7_27) rfl ?_
          show Steps p.tables e below (s₁.setTop (mkF m 28 #[.val (.ref mm), .val (.int p2), .val (.int vn)] [(.int vn)])) _
          refine XS.iconst X0.here hx rfl (hb hby d7_28) ?_
          show Steps p.tables e below (s₁.setTop (mkF m 29 #[.val (.ref mm), .val (.int p2), .val (.int vn)] [(.int (2 : Int32)), (.int vn)])) _
          refine XS.icmpYes X0.here hx rfl (pc0 := 29) (pc' := 43) rfl (hb hby d7_29) rfl (flt hc29).2.2.2 (by decide) (by decide) ?_
          show Steps p.tables e below (s₁.setTop (mkF m 43 #[.val (.ref mm), .val (.int p2), .val (.int vn)] [])) _
          refine XS.iconst X0.here hx rfl (hb hby d7_43) ?_
          show Steps p.tables e below (s₁.setTop (mkF m 44 #[.val (.ref mm), .val (.int p2), .val (.int vn)] [(.int (0 : Int32))])) _
          exact retN X0 hx (t := .boolean) Bd.returns (by simp) (hb hby d7_44) hr
        · show Q7 va vb vc vn p2 h0 n0 _ s₁.heap _
          rw [e0]
          exact ⟨congrArg (fun z => some (Value.int z)) (show (0 : Int32) = own_cn va vb vc vn p2 by simp only [own_cn, hc5, hc17, hc29, true_and, false_and, and_true, and_false, if_true, if_false]), N0, rfl⟩
theorem pd_0 : parseMethodDescriptor "(Lcom/example/bulkwire/bulkwire/server/TurnQueue$Place;)V" = some ⟨[(.object "com/example/bulkwire/bulkwire/server/TurnQueue$Place")], none⟩ := by decide +kernel
theorem pd_1 : parseMethodDescriptor "([II)Z" = some ⟨[(.array .int), .int], some .boolean⟩ := by decide +kernel
theorem pd_2 : parseMethodDescriptor "()Lcom/example/bulkwire/bulkwire/server/Connection;" = some ⟨[], some (.object "com/example/bulkwire/bulkwire/server/Connection")⟩ := by decide +kernel
theorem pd_3 : parseMethodDescriptor "(Lcom/example/bulkwire/bulkwire/server/TurnQueue$Place;)Z" = some ⟨[(.object "com/example/bulkwire/bulkwire/server/TurnQueue$Place")], some .boolean⟩ := by decide +kernel
theorem pd_4 : parseMethodDescriptor "()Z" = some ⟨[], some .boolean⟩ := by decide +kernel
theorem pd_5 : parseMethodDescriptor "()V" = some ⟨[], none⟩ := by decide +kernel
theorem pd_6 : parseMethodDescriptor "(Lcom/example/bulkwire/bulkwire/server/Connection;)V" = some ⟨[(.object "com/example/bulkwire/bulkwire/server/Connection")], none⟩ := by decide +kernel
theorem pd_7 : parseMethodDescriptor "(I)I" = some ⟨[.int], some .int⟩ := by decide +kernel
theorem pd_8 : parseMethodDescriptor "(Lcom/example/bulkwire/bulkwire/server/TurnQueue;[Lcom/example/bulkwire/bulkwire/server/TurnQueue$Place;[II)V" = some ⟨[(.object "com/example/bulkwire/bulkwire/server/TurnQueue"), (.array (.object "com/example/bulkwire/bulkwire/server/TurnQueue$Place")), (.array .int), .int], none⟩ := by decide +kernel
theorem pd_9 : parseMethodDescriptor "(Lcom/example/bulkwire/bulkwire/server/TurnQueue;[Lcom/example/bulkwire/bulkwire/server/TurnQueue$Place;[I)Z" = some ⟨[(.object "com/example/bulkwire/bulkwire/server/TurnQueue"), (.array (.object "com/example/bulkwire/bulkwire/server/TurnQueue$Place")), (.array .int)], some .boolean⟩ := by decide +kernel
theorem d5_0 : decode method_4_code 0 = .ok (.aload_n 0, 1) := by decide +kernel
theorem d5_1 : decode method_4_code 1 = .ok (.aload_n 1, 1) := by decide +kernel
theorem d5_2 : decode method_4_code 2 = .ok (.iload_n 3, 1) := by decide +kernel
theorem d5_3 : decode method_4_code 3 = .ok (.aaload, 1) := by decide +kernel
theorem d5_4 : decode method_4_code 4 = .ok (.invokevirtual 30, 3) := by decide +kernel
theorem d5_7 : decode method_4_code 7 = .ok (.aload_n 2, 1) := by decide +kernel
theorem d5_8 : decode method_4_code 8 = .ok (.iload_n 3, 1) := by decide +kernel
theorem d5_9 : decode method_4_code 9 = .ok (.invokestatic 34, 3) := by decide +kernel
theorem d5_12 : decode method_4_code 12 = .ok (.ifCond .ne 17, 3) := by decide +kernel
theorem d5_15 : decode method_4_code 15 = .ok (.aload_n 2, 1) := by decide +kernel
theorem d5_16 : decode method_4_code 16 = .ok (.aload_n 2, 1) := by decide +kernel
theorem d5_17 : decode method_4_code 17 = .ok (.iconst 3, 1) := by decide +kernel
theorem d5_18 : decode method_4_code 18 = .ok (.iaload, 1) := by decide +kernel
theorem d5_19 : decode method_4_code 19 = .ok (.iload_n 3, 1) := by decide +kernel
theorem d5_20 : decode method_4_code 20 = .ok (.iastore, 1) := by decide +kernel
theorem d5_21 : decode method_4_code 21 = .ok (.aload_n 2, 1) := by decide +kernel
theorem d5_22 : decode method_4_code 22 = .ok (.iconst 3, 1) := by decide +kernel
theorem d5_23 : decode method_4_code 23 = .ok (.aload_n 2, 1) := by decide +kernel
theorem d5_24 : decode method_4_code 24 = .ok (.iconst 3, 1) := by decide +kernel
theorem d5_25 : decode method_4_code 25 = .ok (.iaload, 1) := by decide +kernel
theorem d5_26 : decode method_4_code 26 = .ok (.iconst 1, 1) := by decide +kernel
theorem d5_27 : decode method_4_code 27 = .ok (.iadd, 1) := by decide +kernel
theorem d5_28 : decode method_4_code 28 = .ok (.iastore, 1) := by decide +kernel
theorem d5_29 : decode method_4_code 29 = .ok (.return_, 1) := by decide +kernel
theorem pn_5 : plainName "com/example/bulkwire/bulkwire/server/TurnQueuePollPinLaw" = true := by first | (simp [plainName, overriddenIn]; done) | decide +kernel
theorem ef_5 (m : MethodId) (q : Addr) (ps : Addr) (mm : Addr) (p4 : Int32) : entryFrame m #[(.ref q), (.ref ps), (.ref mm), (.int p4)] 4 = mkF m 0 #[.val (.ref q), .val (.ref ps), .val (.ref mm), .val (.int p4)] [] := by first | (simp [entryFrame, mkF, argsToLocals, Value.category]; done) | rfl
def Q5 (Z : State) (q ps mm : Addr) (P : Nat → Addr) (kp km : ClassId) (l0 : List Nat) (i : Nat) (h0 : Heap) (n0 : Nat) (v : Option Value) (h : Heap) (L : List Loc) : Prop := v = none ∧ Fr n0 L ∧ h0.size ≤ h.size ∧ ∃ a b c, own_sys Z h q ps mm P kp km (own_add l0 i) a b c
set_option maxRecDepth 65536 in
set_option maxHeartbeats 40000000 in
theorem rm5 (l : Launch) (Z : State) (a0 : Array Value) (hw : ∀ d ∈ tables_1, d.before a0 Z = true) (ws : List Jvm.Cond) (q : Addr) (ps : Addr) (mm : Addr) (p4 : Int32) (h0 : Heap) (n0 : Nat) (Z0 : n0 ≤ h0.size) (P : Nat → Addr) (kp km : ClassId) (l0 : List Nat) (va vb vc : Int32) (hfx : own_fix n0 q ps mm P) (i : Nat) (hi : i < 3) (hp : p4 = Int32.ofNat i) (Y0 : own_sys Z h0 q ps mm P kp km l0 va vb vc) :
    MetFree l (⟨"com/example/bulkwire/bulkwire/server/TurnQueuePollPinLaw", "addBoth", "(Lcom/example/bulkwire/bulkwire/server/TurnQueue;[Lcom/example/bulkwire/bulkwire/server/TurnQueue$Place;[II)V"⟩ : MethodName) (head1 (Jvm.Cond.code (⟨"com/example/bulkwire/bulkwire/server/TurnQueuePollPinLaw", "addBoth", "(Lcom/example/bulkwire/bulkwire/server/TurnQueue;[Lcom/example/bulkwire/bulkwire/server/TurnQueue$Place;[II)V"⟩ : MethodName) method_4_code 4 none :: ws) ({ frames := 1, cells := 0, slots := 0, locals := 14 } : Room)) (fun a U => a = #[(.ref q), (.ref ps), (.ref mm), (.int p4)] ∧ Z.Warmed39 U.vm ∧ U.heap = h0) (fun _ _ _ _ _ => True) (fun _ U o U' => ∃ v L, o = .returned v ∧ Q5 Z q ps mm P kp km l0 i h0 n0 v U'.heap L ∧ FrameEnd U o U' L ({ frames := 1, cells := 0, slots := 0, locals := 14 } : Room).cells ({ frames := 1, cells := 0, slots := 0, locals := 14 } : Room).slots) := by
  subst hp
  refine MetFree.of_bodySF (plainFor_of_name pn_5) hisR ?_
  intro p e s m args below meth c s₁ Bd hml0 hP hK
  obtain ⟨rfl, hZ, hh⟩ := hP
  have hx := Bd.exec
  have hby := Bd.bytes
  have hml : c.maxLocals = 4 := hml0
  have hown : s.vm.findClass "com/example/bulkwire/bulkwire/server/TurnQueuePollPinLaw" = some m.cls := findClass_of_methodNamed Bd.named
  have hnm := (name_of_methodNamed Bd.named Bd.method).1
  have X0 : Stand p l e ({ frames := 1, cells := 0, slots := 0, locals := 14 } : Room) s m #[(.ref q), (.ref ps), (.ref mm), (.int (Int32.ofNat i))] below meth c s₁ [] 0 0 := Stand.of_body Bd
  have e0 : s₁.heap = h0 := by rw [← hh, Bd.state]; rfl
  have N0 := Fr.nil n0
  have pre0 : ∀ t, Steps p.tables e below (s₁.setTop (mkF m 0 #[.val (.ref q), .val (.ref ps), .val (.ref mm), .val (.int (Int32.ofNat i))] [])) t → Steps p.tables e below (s₁.setTop (entryFrame m #[(.ref q), (.ref ps), (.ref mm), (.int (Int32.ofNat i))] 4)) t := fun t k => castTop (ef_5 m q ps mm (Int32.ofNat i)) k
  obtain ⟨ho, hr0, G0, B0, V0⟩ := Y0
  by_cases hm : i ∈ l0
  · have hcn : own_cn va vb vc (Int32.ofNat l0.length) (Int32.ofNat i) = 1 := (own_cn_in ho hr0 hi).trans (own_in_yes hm)
    obtain ⟨cl1, Ar1, qq1, S1, Nn1, H1, Gg1⟩ := id B0
    have hin1 : ¬ ((Int32.ofNat i) < 0 ∨ cl1.slots.size ≤ ((Int32.ofNat i)).toNatClampNeg) := inb_of S1 (own_ix i hi).1
    obtain ⟨cq2, kq2, q2a, q2b, q2c⟩ := isOf hZ e0 G0.1
    obtain ⟨_, _, ⟨T2, L2, k2, n2⟩, -, X2, ⟨Lc2, hQ2, l2, y2, z2⟩, st2⟩ := X0.virtualBack hx (y := (⟨"com/example/bulkwire/bulkwire/server/TurnQueue", "add", "(Lcom/example/bulkwire/bulkwire/server/TurnQueue$Place;)V"⟩ : MethodName)) (z := (⟨"com/example/bulkwire/bulkwire/server/TurnQueue", "add", "(Lcom/example/bulkwire/bulkwire/server/TurnQueue$Place;)V"⟩ : MethodName)) hown (mvT hZ (hw _ (List.mem_of_getElem? (i := 29) rfl))) (mvT hZ (hw _ (List.mem_of_getElem? (i := 30) rfl))) (notFace_of_selects (args := #[]) (mvT hZ (hw _ (List.mem_of_getElem? (i := 32) rfl)))) (mvT hZ (hw _ (List.mem_of_getElem? (i := 32) rfl))) (mvT hZ (hw _ (List.mem_of_getElem? (i := 31) rfl))) (by decide) (backOf (W := 0) (rm6 l Z a0 hw [] q (P i)  h0 n0 (Nat.le_trans Z0 (Nat.le_refl h0.size)) P l0 ps mm hfx i hi rfl ho G0) hZ (hw _ (List.mem_of_getElem? (i := 33) rfl)) (hw _ (List.mem_of_getElem? (i := 2) rfl)) (by decide) (by decide)) q2a q2c (g := (mkF m 4 #[.val (.ref q), .val (.ref ps), .val (.ref mm), .val (.int (Int32.ofNat i))] [(.ref (P i)), (.ref q)])) rfl (by rw [hml]; rfl) (Steps.refl _) (argsL := [(.ref (P i))]) (rest := []) (lenOf pd_0 rfl) rfl (by show 2 * 0 + _ ≤ _; exact Nat.le_of_eq rfl) (hb hby d5_4) (fun _ _ => ⟨rfl, e0, (by decide : 0 + 0 ≤ _), (by decide : 0 + 0 ≤ _)⟩)
    dsimp only [Pt.U, Pt.locs, Pt.cells, Pt.slots] at X2 l2 y2 z2 st2 hQ2
    subst l2 y2 z2
    obtain ⟨rfl, N2q, K2, G2⟩ := hQ2
    have N2 := Fr.app N0 N2q
    have B2 := B0.keep K2 (ninS (Ne.symm (own_ne_av G0.1 (hw _ (List.mem_of_getElem? (i := 1) rfl)) B0)) (ninS (Ne.symm (own_ne_av (G0.2.2.2 0 (by decide)).1 (hw _ (List.mem_of_getElem? (i := 11) rfl)) B0)) (ninS (Ne.symm (own_ne_av (G0.2.2.2 1 (by decide)).1 (hw _ (List.mem_of_getElem? (i := 11) rfl)) B0)) (ninS (Ne.symm (own_ne_av (G0.2.2.2 2 (by decide)).1 (hw _ (List.mem_of_getElem? (i := 11) rfl)) B0)) nin0))))
    have V2 := V0.keep K2 (ninS (Ne.symm (own_ne_av G0.1 (hw _ (List.mem_of_getElem? (i := 1) rfl)) V0)) (ninS (Ne.symm (own_ne_av (G0.2.2.2 0 (by decide)).1 (hw _ (List.mem_of_getElem? (i := 11) rfl)) V0)) (ninS (Ne.symm (own_ne_av (G0.2.2.2 1 (by decide)).1 (hw _ (List.mem_of_getElem? (i := 11) rfl)) V0)) (ninS (Ne.symm (own_ne_av (G0.2.2.2 2 (by decide)).1 (hw _ (List.mem_of_getElem? (i := 11) rfl)) V0)) nin0))))
    have z2 : h0.size ≤ T2.heap.size := Nat.le_trans (Nat.le_refl h0.size) K2.1
    obtain ⟨_, _, ⟨T3, L3, k3, n3⟩, -, X3, ⟨Lc3, hQ3, l3, y3, z3⟩, st3⟩ := Jvm.LawKit.callS X2 hx (y := (⟨"com/example/bulkwire/bulkwire/server/TurnQueuePollPinLaw", "contains", "([II)Z"⟩ : MethodName)) hown (mvT hZ (hw _ (List.mem_of_getElem? (i := 40) rfl))) (mvT hZ (hw _ (List.mem_of_getElem? (i := 41) rfl))) (mvT hZ (hw _ (List.mem_of_getElem? (i := 23) rfl))) (mvT hZ (hw _ (List.mem_of_getElem? (i := 42) rfl))) (by decide) (backOf (W := 0) (rm7 l Z a0 hw [] mm (Int32.ofNat i)  T2.heap n0 (Nat.le_trans Z0 z2) km va vb vc (Int32.ofNat l0.length) V2) hZ (hw _ (List.mem_of_getElem? (i := 42) rfl)) (hw _ (List.mem_of_getElem? (i := 23) rfl)) (by decide) (by decide)) (g := (mkF m 9 #[.val (.ref q), .val (.ref ps), .val (.ref mm), .val (.int (Int32.ofNat i))] [(.int (Int32.ofNat i)), (.ref mm)])) rfl (by rw [hml]; rfl) (argsL := [(.ref mm), (.int (Int32.ofNat i))]) (rest := []) (lenOf pd_1 rfl) rfl (by show 2 * 0 + _ ≤ _; exact Nat.le_of_eq rfl) (hb hby d5_9) (fun _ _ => ⟨rfl, rfl, (by decide : 0 + 0 ≤ _), (by decide : 0 + 0 ≤ _)⟩)
    dsimp only [Pt.U, Pt.locs, Pt.cells, Pt.slots] at X3 l3 y3 z3 st3 hQ3
    subst l3 y3 z3
    obtain ⟨rfl, N3q, e3⟩ := hQ3
    have N3 := Fr.app N2 N3q
    obtain ⟨fs, hr, hrun, hended, hW, hsame⟩ := X3.leave (v := none) (fun _ => rfl)
    refine ⟨_, _, pre0 _ ?_, hrun, hended, _, _, rfl, ?_, ⟨_, rfl⟩, hW, hsame.mono (by decide) (by decide)⟩
    · show Steps p.tables e below (s₁.setTop (mkF m 0 #[.val (.ref q), .val (.ref ps), .val (.ref mm), .val (.int (Int32.ofNat i))] [])) _
      refine XS.aloadN X0.here hx rfl (hb hby d5_0) rfl rfl ?_
      show Steps p.tables e below (s₁.setTop (mkF m 1 #[.val (.ref q), .val (.ref ps), .val (.ref mm), .val (.int (Int32.ofNat i))] [(.ref q)])) _
      refine XS.aloadN X0.here hx rfl (hb hby d5_1) rfl rfl ?_
      show Steps p.tables e below (s₁.setTop (mkF m 2 #[.val (.ref q), .val (.ref ps), .val (.ref mm), .val (.int (Int32.ofNat i))] [(.ref ps), (.ref q)])) _
      refine XS.iloadN X0.here hx rfl (hb hby d5_2) rfl ?_
      show Steps p.tables e below (s₁.setTop (mkF m 3 #[.val (.ref q), .val (.ref ps), .val (.ref mm), .val (.int (Int32.ofNat i))] [(.int (Int32.ofNat i)), (.ref ps), (.ref q)])) _
      refine X0.aaload hx (j := (Int32.ofNat i)) (v := (.ref (P i))) (by rw [e0]; exact Ar1.1) (State.isArrayOf_alike hZ.alike Ar1.2.1) rfl Ar1.2.2 hin1 (Has.at H1 hin1 (own_getP P hi)) (g := (mkF m 3 #[.val (.ref q), .val (.ref ps), .val (.ref mm), .val (.int (Int32.ofNat i))] [(.int (Int32.ofNat i)), (.ref ps), (.ref q)])) rfl rfl (hb hby d5_3) _ ?_
      show Steps p.tables e below (s₁.setTop (mkF m 4 #[.val (.ref q), .val (.ref ps), .val (.ref mm), .val (.int (Int32.ofNat i))] [(.ref (P i)), (.ref q)])) _
      refine st2.trans ?_
      show Steps p.tables e below (T2.setTop (mkF m 7 #[.val (.ref q), .val (.ref ps), .val (.ref mm), .val (.int (Int32.ofNat i))] [])) _
      refine XS.aloadN X2.here hx rfl (hb hby d5_7) rfl rfl ?_
      show Steps p.tables e below (T2.setTop (mkF m 8 #[.val (.ref q), .val (.ref ps), .val (.ref mm), .val (.int (Int32.ofNat i))] [(.ref mm)])) _
      refine XS.iloadN X2.here hx rfl (hb hby d5_8) rfl ?_
      show Steps p.tables e below (T2.setTop (mkF m 9 #[.val (.ref q), .val (.ref ps), .val (.ref mm), .val (.int (Int32.ofNat i))] [(.int (Int32.ofNat i)), (.ref mm)])) _
      refine st3 _ ?_
      show Steps p.tables e below (T3.setTop (mkF m 12 #[.val (.ref q), .val (.ref ps), .val (.ref mm), .val (.int (Int32.ofNat i))] [(.int (own_cn va vb vc (Int32.ofNat l0.length) (Int32.ofNat i)))])) _
      refine XS.ifYes X3.here hx rfl (pc0 := 12) (pc' := 29) rfl (hb hby d5_12) rfl ((if0 _ _).trans (feq ((by rw [hcn]; decide))).2) (by decide) (by decide) ?_
      show Steps p.tables e below (T3.setTop (mkF m 29 #[.val (.ref q), .val (.ref ps), .val (.ref mm), .val (.int (Int32.ofNat i))] [])) _
      exact X3.returnOut hx Bd.returns (hb hby d5_29) hr
    · show Q5 Z q ps mm P kp km l0 i h0 n0 _ T3.heap _
      rw [e3]
      refine ⟨rfl, N3, z2, va, vb, vc, own_ok_add ho hi, ?_, G2, B2, ?_⟩
      · rw [own_add_yes hm]; exact hr0
      · rw [own_add_yes hm]; exact V2
  · rcases own_room ho hr0 hi hm with rfl | ⟨x, rfl⟩ | ⟨x, y, rfl⟩
    · have V0 : Arv Z h0 mm km .int 4 [.int va, .int vb, .int vc, .int (0 : Int32)] (.int 0) := V0
      have hcn : own_cn va vb vc (0 : Int32) (Int32.ofNat i) = 0 := (own_cn_in ho hr0 hi).trans (own_in_no hm)
      obtain ⟨cl1, Ar1, qq1, S1, Nn1, H1, Gg1⟩ := id B0
      have hin1 : ¬ ((Int32.ofNat i) < 0 ∨ cl1.slots.size ≤ ((Int32.ofNat i)).toNatClampNeg) := inb_of S1 (own_ix i hi).1
      obtain ⟨cq2, kq2, q2a, q2b, q2c⟩ := isOf hZ e0 G0.1
      obtain ⟨_, _, ⟨T2, L2, k2, n2⟩, -, X2, ⟨Lc2, hQ2, l2, y2, z2⟩, st2⟩ := X0.virtualBack hx (y := (⟨"com/example/bulkwire/bulkwire/server/TurnQueue", "add", "(Lcom/example/bulkwire/bulkwire/server/TurnQueue$Place;)V"⟩ : MethodName)) (z := (⟨"com/example/bulkwire/bulkwire/server/TurnQueue", "add", "(Lcom/example/bulkwire/bulkwire/server/TurnQueue$Place;)V"⟩ : MethodName)) hown (mvT hZ (hw _ (List.mem_of_getElem? (i := 29) rfl))) (mvT hZ (hw _ (List.mem_of_getElem? (i := 30) rfl))) (notFace_of_selects (args := #[]) (mvT hZ (hw _ (List.mem_of_getElem? (i := 32) rfl)))) (mvT hZ (hw _ (List.mem_of_getElem? (i := 32) rfl))) (mvT hZ (hw _ (List.mem_of_getElem? (i := 31) rfl))) (by decide) (backOf (W := 0) (rm6 l Z a0 hw [] q (P i)  h0 n0 (Nat.le_trans Z0 (Nat.le_refl h0.size)) P [] ps mm hfx i hi rfl ho G0) hZ (hw _ (List.mem_of_getElem? (i := 33) rfl)) (hw _ (List.mem_of_getElem? (i := 2) rfl)) (by decide) (by decide)) q2a q2c (g := (mkF m 4 #[.val (.ref q), .val (.ref ps), .val (.ref mm), .val (.int (Int32.ofNat i))] [(.ref (P i)), (.ref q)])) rfl (by rw [hml]; rfl) (Steps.refl _) (argsL := [(.ref (P i))]) (rest := []) (lenOf pd_0 rfl) rfl (by show 2 * 0 + _ ≤ _; exact Nat.le_of_eq rfl) (hb hby d5_4) (fun _ _ => ⟨rfl, e0, (by decide : 0 + 0 ≤ _), (by decide : 0 + 0 ≤ _)⟩)
      dsimp only [Pt.U, Pt.locs, Pt.cells, Pt.slots] at X2 l2 y2 z2 st2 hQ2
      subst l2 y2 z2
      obtain ⟨rfl, N2q, K2, G2⟩ := hQ2
      have N2 := Fr.app N0 N2q
      have B2 := B0.keep K2 (ninS (Ne.symm (own_ne_av G0.1 (hw _ (List.mem_of_getElem? (i := 1) rfl)) B0)) (ninS (Ne.symm (own_ne_av (G0.2.2.2 0 (by decide)).1 (hw _ (List.mem_of_getElem? (i := 11) rfl)) B0)) (ninS (Ne.symm (own_ne_av (G0.2.2.2 1 (by decide)).1 (hw _ (List.mem_of_getElem? (i := 11) rfl)) B0)) (ninS (Ne.symm (own_ne_av (G0.2.2.2 2 (by decide)).1 (hw _ (List.mem_of_getElem? (i := 11) rfl)) B0)) nin0))))
      have V2 := V0.keep K2 (ninS (Ne.symm (own_ne_av G0.1 (hw _ (List.mem_of_getElem? (i := 1) rfl)) V0)) (ninS (Ne.symm (own_ne_av (G0.2.2.2 0 (by decide)).1 (hw _ (List.mem_of_getElem? (i := 11) rfl)) V0)) (ninS (Ne.symm (own_ne_av (G0.2.2.2 1 (by decide)).1 (hw _ (List.mem_of_getElem? (i := 11) rfl)) V0)) (ninS (Ne.symm (own_ne_av (G0.2.2.2 2 (by decide)).1 (hw _ (List.mem_of_getElem? (i := 11) rfl)) V0)) nin0))))
      have z2 : h0.size ≤ T2.heap.size := Nat.le_trans (Nat.le_refl h0.size) K2.1
      obtain ⟨_, _, ⟨T3, L3, k3, n3⟩, -, X3, ⟨Lc3, hQ3, l3, y3, z3⟩, st3⟩ := Jvm.LawKit.callS X2 hx (y := (⟨"com/example/bulkwire/bulkwire/server/TurnQueuePollPinLaw", "contains", "([II)Z"⟩ : MethodName)) hown (mvT hZ (hw _ (List.mem_of_getElem? (i := 40) rfl))) (mvT hZ (hw _ (List.mem_of_getElem? (i := 41) rfl))) (mvT hZ (hw _ (List.mem_of_getElem? (i := 23) rfl))) (mvT hZ (hw _ (List.mem_of_getElem? (i := 42) rfl))) (by decide) (backOf (W := 0) (rm7 l Z a0 hw [] mm (Int32.ofNat i)  T2.heap n0 (Nat.le_trans Z0 z2) km va vb vc (0 : Int32) V2) hZ (hw _ (List.mem_of_getElem? (i := 42) rfl)) (hw _ (List.mem_of_getElem? (i := 23) rfl)) (by decide) (by decide)) (g := (mkF m 9 #[.val (.ref q), .val (.ref ps), .val (.ref mm), .val (.int (Int32.ofNat i))] [(.int (Int32.ofNat i)), (.ref mm)])) rfl (by rw [hml]; rfl) (argsL := [(.ref mm), (.int (Int32.ofNat i))]) (rest := []) (lenOf pd_1 rfl) rfl (by show 2 * 0 + _ ≤ _; exact Nat.le_of_eq rfl) (hb hby d5_9) (fun _ _ => ⟨rfl, rfl, (by decide : 0 + 0 ≤ _), (by decide : 0 + 0 ≤ _)⟩)
      dsimp only [Pt.U, Pt.locs, Pt.cells, Pt.slots] at X3 l3 y3 z3 st3 hQ3
      subst l3 y3 z3
      obtain ⟨rfl, N3q, e3⟩ := hQ3
      have N3 := Fr.app N2 N3q
      obtain ⟨cl4, Ar4, qq4, S4, Nn4, H4, Gg4⟩ := id V2
      have hin4 : ¬ ((3 : Int32) < 0 ∨ cl4.slots.size ≤ ((3 : Int32)).toNatClampNeg) := inb_of S4 ⟨by decide, by decide⟩
      obtain ⟨cl5, Ar5, qq5, S5, Nn5, H5, Gg5⟩ := id V2
      have hin5 : ¬ ((0 : Int32) < 0 ∨ cl5.slots.size ≤ ((0 : Int32)).toNatClampNeg) := inb_of S5 ⟨by decide, by decide⟩
      obtain ⟨T5, h5, X5, e5, W5, st5⟩ := stI X3 hx hZ e3 Ar5 (j := (0 : Int32)) hin5 (g := (mkF m 20 #[.val (.ref q), .val (.ref ps), .val (.ref mm), .val (.int (Int32.ofNat i))] [(.int (Int32.ofNat i)), (.int (0 : Int32)), (.ref mm)])) rfl rfl (hb hby d5_20)
      have V5 : Arv Z h5 mm km .int 4 [(.int (Int32.ofNat i)), (.int vb), (.int vc), (.int (0 : Int32))] (.int 0) := Arv.set Ar5 qq5 S5 Nn5 H5 Gg5 rfl W5 0 rfl (Nat.le_of_ble_eq_true rfl)
      have hq5 := own_ne_av G2.1 (hw _ (List.mem_of_getElem? (i := 1) rfl)) V2
      have G5 := G2.other W5 hq5 (fun i hi => own_ne_av (G2.2.2.2 i hi).1 (hw _ (List.mem_of_getElem? (i := 11) rfl)) V2)
      have B5 := B2.other W5 hfx.2.2.2.1
      have N5 := Fr.snoc X5 N3 hfx.2.2.1
      have z5 : h0.size ≤ h5.size := Nat.le_trans z2 (Keep.of_wr W5).1
      obtain ⟨cl6, Ar6, qq6, S6, Nn6, H6, Gg6⟩ := id V5
      have hin6 : ¬ ((3 : Int32) < 0 ∨ cl6.slots.size ≤ ((3 : Int32)).toNatClampNeg) := inb_of S6 ⟨by decide, by decide⟩
      obtain ⟨cl7, Ar7, qq7, S7, Nn7, H7, Gg7⟩ := id V5
      have hin7 : ¬ ((3 : Int32) < 0 ∨ cl7.slots.size ≤ ((3 : Int32)).toNatClampNeg) := inb_of S7 ⟨by decide, by decide⟩
      obtain ⟨T7, h7, X7, e7, W7, st7⟩ := stI X5 hx hZ e5 Ar7 (j := (3 : Int32)) hin7 (g := (mkF m 28 #[.val (.ref q), .val (.ref ps), .val (.ref mm), .val (.int (Int32.ofNat i))] [(.int ((0 : Int32) + (1 : Int32))), (.int (3 : Int32)), (.ref mm)])) rfl rfl (hb hby d5_28)
      have V7 : Arv Z h7 mm km .int 4 [(.int (Int32.ofNat i)), (.int vb), (.int vc), (.int ((0 : Int32) + (1 : Int32)))] (.int 0) := Arv.set Ar7 qq7 S7 Nn7 H7 Gg7 rfl W7 3 rfl (Nat.le_of_ble_eq_true rfl)
      have hq7 := own_ne_av G5.1 (hw _ (List.mem_of_getElem? (i := 1) rfl)) V5
      have G7 := G5.other W7 hq7 (fun i hi => own_ne_av (G5.2.2.2 i hi).1 (hw _ (List.mem_of_getElem? (i := 11) rfl)) V5)
      have B7 := B5.other W7 hfx.2.2.2.1
      have N7 := Fr.snoc X7 N5 hfx.2.2.1
      have z7 : h0.size ≤ h7.size := Nat.le_trans z5 (Keep.of_wr W7).1
      obtain ⟨fs, hr, hrun, hended, hW, hsame⟩ := X7.leave (v := none) (fun _ => rfl)
      refine ⟨_, _, pre0 _ ?_, hrun, hended, _, _, rfl, ?_, ⟨_, rfl⟩, hW, hsame.mono (by decide) (by decide)⟩
      · show Steps p.tables e below (s₁.setTop (mkF m 0 #[.val (.ref q), .val (.ref ps), .val (.ref mm), .val (.int (Int32.ofNat i))] [])) _
        refine XS.aloadN X0.here hx rfl (hb hby d5_0) rfl rfl ?_
        show Steps p.tables e below (s₁.setTop (mkF m 1 #[.val (.ref q), .val (.ref ps), .val (.ref mm), .val (.int (Int32.ofNat i))] [(.ref q)])) _
        refine XS.aloadN X0.here hx rfl (hb hby d5_1) rfl rfl ?_
        show Steps p.tables e below (s₁.setTop (mkF m 2 #[.val (.ref q), .val (.ref ps), .val (.ref mm), .val (.int (Int32.ofNat i))] [(.ref ps), (.ref q)])) _
        refine XS.iloadN X0.here hx rfl (hb hby d5_2) rfl ?_
        show Steps p.tables e below (s₁.setTop (mkF m 3 #[.val (.ref q), .val (.ref ps), .val (.ref mm), .val (.int (Int32.ofNat i))] [(.int (Int32.ofNat i)), (.ref ps), (.ref q)])) _
        refine X0.aaload hx (j := (Int32.ofNat i)) (v := (.ref (P i))) (by rw [e0]; exact Ar1.1) (State.isArrayOf_alike hZ.alike Ar1.2.1) rfl Ar1.2.2 hin1 (Has.at H1 hin1 (own_getP P hi)) (g := (mkF m 3 #[.val (.ref q), .val (.ref ps), .val (.ref mm), .val (.int (Int32.ofNat i))] [(.int (Int32.ofNat i)), (.ref ps), (.ref q)])) rfl rfl (hb hby d5_3) _ ?_
        show Steps p.tables e below (s₁.setTop (mkF m 4 #[.val (.ref q), .val (.ref ps), .val (.ref mm), .val (.int (Int32.ofNat i))] [(.ref (P i)), (.ref q)])) _
        refine st2.trans ?_
        show Steps p.tables e below (T2.setTop (mkF m 7 #[.val (.ref q), .val (.ref ps), .val (.ref mm), .val (.int (Int32.ofNat i))] [])) _
        refine XS.aloadN X2.here hx rfl (hb hby d5_7) rfl rfl ?_
        show Steps p.tables e below (T2.setTop (mkF m 8 #[.val (.ref q), .val (.ref ps), .val (.ref mm), .val (.int (Int32.ofNat i))] [(.ref mm)])) _
        refine XS.iloadN X2.here hx rfl (hb hby d5_8) rfl ?_
        show Steps p.tables e below (T2.setTop (mkF m 9 #[.val (.ref q), .val (.ref ps), .val (.ref mm), .val (.int (Int32.ofNat i))] [(.int (Int32.ofNat i)), (.ref mm)])) _
        refine st3 _ ?_
        show Steps p.tables e below (T3.setTop (mkF m 12 #[.val (.ref q), .val (.ref ps), .val (.ref mm), .val (.int (Int32.ofNat i))] [(.int (own_cn va vb vc (0 : Int32) (Int32.ofNat i)))])) _
        refine XS.ifNo X3.here hx rfl (hb hby d5_12) rfl ((if0 _ _).trans (teq (hcn)).2) ?_
        show Steps p.tables e below (T3.setTop (mkF m 15 #[.val (.ref q), .val (.ref ps), .val (.ref mm), .val (.int (Int32.ofNat i))] [])) _
        refine XS.aloadN X3.here hx rfl (hb hby d5_15) rfl rfl ?_
        show Steps p.tables e below (T3.setTop (mkF m 16 #[.val (.ref q), .val (.ref ps), .val (.ref mm), .val (.int (Int32.ofNat i))] [(.ref mm)])) _
        refine XS.aloadN X3.here hx rfl (hb hby d5_16) rfl rfl ?_
        show Steps p.tables e below (T3.setTop (mkF m 17 #[.val (.ref q), .val (.ref ps), .val (.ref mm), .val (.int (Int32.ofNat i))] [(.ref mm), (.ref mm)])) _
        refine XS.iconst X3.here hx rfl (hb hby d5_17) ?_
        show Steps p.tables e below (T3.setTop (mkF m 18 #[.val (.ref q), .val (.ref ps), .val (.ref mm), .val (.int (Int32.ofNat i))] [(.int (3 : Int32)), (.ref mm), (.ref mm)])) _
        refine X3.iaload hx (j := (3 : Int32)) (v := (.int (0 : Int32))) (by rw [e3]; exact Ar4.1) (State.isArrayOf_alike hZ.alike Ar4.2.1) Ar4.2.2 hin4 (Has.at H4 hin4 rfl) (g := (mkF m 18 #[.val (.ref q), .val (.ref ps), .val (.ref mm), .val (.int (Int32.ofNat i))] [(.int (3 : Int32)), (.ref mm), (.ref mm)])) rfl rfl (hb hby d5_18) _ ?_
        show Steps p.tables e below (T3.setTop (mkF m 19 #[.val (.ref q), .val (.ref ps), .val (.ref mm), .val (.int (Int32.ofNat i))] [(.int (0 : Int32)), (.ref mm)])) _
        refine XS.iloadN X3.here hx rfl (hb hby d5_19) rfl ?_
        show Steps p.tables e below (T3.setTop (mkF m 20 #[.val (.ref q), .val (.ref ps), .val (.ref mm), .val (.int (Int32.ofNat i))] [(.int (Int32.ofNat i)), (.int (0 : Int32)), (.ref mm)])) _
        refine st5 _ ?_
        show Steps p.tables e below (T5.setTop (mkF m 21 #[.val (.ref q), .val (.ref ps), .val (.ref mm), .val (.int (Int32.ofNat i))] [])) _
        refine XS.aloadN X5.here hx rfl (hb hby d5_21) rfl rfl ?_
        show Steps p.tables e below (T5.setTop (mkF m 22 #[.val (.ref q), .val (.ref ps), .val (.ref mm), .val (.int (Int32.ofNat i))] [(.ref mm)])) _
        refine XS.iconst X5.here hx rfl (hb hby d5_22) ?_
        show Steps p.tables e below (T5.setTop (mkF m 23 #[.val (.ref q), .val (.ref ps), .val (.ref mm), .val (.int (Int32.ofNat i))] [(.int (3 : Int32)), (.ref mm)])) _
        refine XS.aloadN X5.here hx rfl (hb hby d5_23) rfl rfl ?_
        show Steps p.tables e below (T5.setTop (mkF m 24 #[.val (.ref q), .val (.ref ps), .val (.ref mm), .val (.int (Int32.ofNat i))] [(.ref mm), (.int (3 : Int32)), (.ref mm)])) _
        refine XS.iconst X5.here hx rfl (hb hby d5_24) ?_
        show Steps p.tables e below (T5.setTop (mkF m 25 #[.val (.ref q), .val (.ref ps), .val (.ref mm), .val (.int (Int32.ofNat i))] [(.int (3 : Int32)), (.ref mm), (.int (3 : Int32)), (.ref mm)])) _
        refine X5.iaload hx (j := (3 : Int32)) (v := (.int (0 : Int32))) (by rw [e5]; exact Ar6.1) (State.isArrayOf_alike hZ.alike Ar6.2.1) Ar6.2.2 hin6 (Has.at H6 hin6 rfl) (g := (mkF m 25 #[.val (.ref q), .val (.ref ps), .val (.ref mm), .val (.int (Int32.ofNat i))] [(.int (3 : Int32)), (.ref mm), (.int (3 : Int32)), (.ref mm)])) rfl rfl (hb hby d5_25) _ ?_
        show Steps p.tables e below (T5.setTop (mkF m 26 #[.val (.ref q), .val (.ref ps), .val (.ref mm), .val (.int (Int32.ofNat i))] [(.int (0 : Int32)), (.int (3 : Int32)), (.ref mm)])) _
        refine XS.iconst X5.here hx rfl (hb hby d5_26) ?_
        show Steps p.tables e below (T5.setTop (mkF m 27 #[.val (.ref q), .val (.ref ps), .val (.ref mm), .val (.int (Int32.ofNat i))] [(.int (1 : Int32)), (.int (0 : Int32)), (.int (3 : Int32)), (.ref mm)])) _
        refine XS.iadd X5.here hx rfl (hb hby d5_27) rfl ?_
        show Steps p.tables e below (T5.setTop (mkF m 28 #[.val (.ref q), .val (.ref ps), .val (.ref mm), .val (.int (Int32.ofNat i))] [(.int ((0 : Int32) + (1 : Int32))), (.int (3 : Int32)), (.ref mm)])) _
        refine st7 _ ?_
        show Steps p.tables e below (T7.setTop (mkF m 29 #[.val (.ref q), .val (.ref ps), .val (.ref mm), .val (.int (Int32.ofNat i))] [])) _
        exact X7.returnOut hx Bd.returns (hb hby d5_29) hr
      · show Q5 Z q ps mm P kp km [] i h0 n0 _ T7.heap _
        rw [e7]
        refine ⟨rfl, N7, z7, (Int32.ofNat i), vb, vc, own_ok_add ho hi, ?_, G7, B7, ?_⟩
        · rw [own_add_no hm]; exact rfl
        · rw [own_add_no hm]; exact V7
    · have V0 : Arv Z h0 mm km .int 4 [.int va, .int vb, .int vc, .int (1 : Int32)] (.int 0) := V0
      have hcn : own_cn va vb vc (1 : Int32) (Int32.ofNat i) = 0 := (own_cn_in ho hr0 hi).trans (own_in_no hm)
      obtain ⟨cl1, Ar1, qq1, S1, Nn1, H1, Gg1⟩ := id B0
      have hin1 : ¬ ((Int32.ofNat i) < 0 ∨ cl1.slots.size ≤ ((Int32.ofNat i)).toNatClampNeg) := inb_of S1 (own_ix i hi).1
      obtain ⟨cq2, kq2, q2a, q2b, q2c⟩ := isOf hZ e0 G0.1
      obtain ⟨_, _, ⟨T2, L2, k2, n2⟩, -, X2, ⟨Lc2, hQ2, l2, y2, z2⟩, st2⟩ := X0.virtualBack hx (y := (⟨"com/example/bulkwire/bulkwire/server/TurnQueue", "add", "(Lcom/example/bulkwire/bulkwire/server/TurnQueue$Place;)V"⟩ : MethodName)) (z := (⟨"com/example/bulkwire/bulkwire/server/TurnQueue", "add", "(Lcom/example/bulkwire/bulkwire/server/TurnQueue$Place;)V"⟩ : MethodName)) hown (mvT hZ (hw _ (List.mem_of_getElem? (i := 29) rfl))) (mvT hZ (hw _ (List.mem_of_getElem? (i := 30) rfl))) (notFace_of_selects (args := #[]) (mvT hZ (hw _ (List.mem_of_getElem? (i := 32) rfl)))) (mvT hZ (hw _ (List.mem_of_getElem? (i := 32) rfl))) (mvT hZ (hw _ (List.mem_of_getElem? (i := 31) rfl))) (by decide) (backOf (W := 0) (rm6 l Z a0 hw [] q (P i)  h0 n0 (Nat.le_trans Z0 (Nat.le_refl h0.size)) P [x] ps mm hfx i hi rfl ho G0) hZ (hw _ (List.mem_of_getElem? (i := 33) rfl)) (hw _ (List.mem_of_getElem? (i := 2) rfl)) (by decide) (by decide)) q2a q2c (g := (mkF m 4 #[.val (.ref q), .val (.ref ps), .val (.ref mm), .val (.int (Int32.ofNat i))] [(.ref (P i)), (.ref q)])) rfl (by rw [hml]; rfl) (Steps.refl _) (argsL := [(.ref (P i))]) (rest := []) (lenOf pd_0 rfl) rfl (by show 2 * 0 + _ ≤ _; exact Nat.le_of_eq rfl) (hb hby d5_4) (fun _ _ => ⟨rfl, e0, (by decide : 0 + 0 ≤ _), (by decide : 0 + 0 ≤ _)⟩)
      dsimp only [Pt.U, Pt.locs, Pt.cells, Pt.slots] at X2 l2 y2 z2 st2 hQ2
      subst l2 y2 z2
      obtain ⟨rfl, N2q, K2, G2⟩ := hQ2
      have N2 := Fr.app N0 N2q
      have B2 := B0.keep K2 (ninS (Ne.symm (own_ne_av G0.1 (hw _ (List.mem_of_getElem? (i := 1) rfl)) B0)) (ninS (Ne.symm (own_ne_av (G0.2.2.2 0 (by decide)).1 (hw _ (List.mem_of_getElem? (i := 11) rfl)) B0)) (ninS (Ne.symm (own_ne_av (G0.2.2.2 1 (by decide)).1 (hw _ (List.mem_of_getElem? (i := 11) rfl)) B0)) (ninS (Ne.symm (own_ne_av (G0.2.2.2 2 (by decide)).1 (hw _ (List.mem_of_getElem? (i := 11) rfl)) B0)) nin0))))
      have V2 := V0.keep K2 (ninS (Ne.symm (own_ne_av G0.1 (hw _ (List.mem_of_getElem? (i := 1) rfl)) V0)) (ninS (Ne.symm (own_ne_av (G0.2.2.2 0 (by decide)).1 (hw _ (List.mem_of_getElem? (i := 11) rfl)) V0)) (ninS (Ne.symm (own_ne_av (G0.2.2.2 1 (by decide)).1 (hw _ (List.mem_of_getElem? (i := 11) rfl)) V0)) (ninS (Ne.symm (own_ne_av (G0.2.2.2 2 (by decide)).1 (hw _ (List.mem_of_getElem? (i := 11) rfl)) V0)) nin0))))
      have z2 : h0.size ≤ T2.heap.size := Nat.le_trans (Nat.le_refl h0.size) K2.1
      obtain ⟨_, _, ⟨T3, L3, k3, n3⟩, -, X3, ⟨Lc3, hQ3, l3, y3, z3⟩, st3⟩ := Jvm.LawKit.callS X2 hx (y := (⟨"com/example/bulkwire/bulkwire/server/TurnQueuePollPinLaw", "contains", "([II)Z"⟩ : MethodName)) hown (mvT hZ (hw _ (List.mem_of_getElem? (i := 40) rfl))) (mvT hZ (hw _ (List.mem_of_getElem? (i := 41) rfl))) (mvT hZ (hw _ (List.mem_of_getElem? (i := 23) rfl))) (mvT hZ (hw _ (List.mem_of_getElem? (i := 42) rfl))) (by decide) (backOf (W := 0) (rm7 l Z a0 hw [] mm (Int32.ofNat i)  T2.heap n0 (Nat.le_trans Z0 z2) km va vb vc (1 : Int32) V2) hZ (hw _ (List.mem_of_getElem? (i := 42) rfl)) (hw _ (List.mem_of_getElem? (i := 23) rfl)) (by decide) (by decide)) (g := (mkF m 9 #[.val (.ref q), .val (.ref ps), .val (.ref mm), .val (.int (Int32.ofNat i))] [(.int (Int32.ofNat i)), (.ref mm)])) rfl (by rw [hml]; rfl) (argsL := [(.ref mm), (.int (Int32.ofNat i))]) (rest := []) (lenOf pd_1 rfl) rfl (by show 2 * 0 + _ ≤ _; exact Nat.le_of_eq rfl) (hb hby d5_9) (fun _ _ => ⟨rfl, rfl, (by decide : 0 + 0 ≤ _), (by decide : 0 + 0 ≤ _)⟩)
      dsimp only [Pt.U, Pt.locs, Pt.cells, Pt.slots] at X3 l3 y3 z3 st3 hQ3
      subst l3 y3 z3
      obtain ⟨rfl, N3q, e3⟩ := hQ3
      have N3 := Fr.app N2 N3q
      obtain ⟨cl4, Ar4, qq4, S4, Nn4, H4, Gg4⟩ := id V2
      have hin4 : ¬ ((3 : Int32) < 0 ∨ cl4.slots.size ≤ ((3 : Int32)).toNatClampNeg) := inb_of S4 ⟨by decide, by decide⟩
      obtain ⟨cl5, Ar5, qq5, S5, Nn5, H5, Gg5⟩ := id V2
      have hin5 : ¬ ((1 : Int32) < 0 ∨ cl5.slots.size ≤ ((1 : Int32)).toNatClampNeg) := inb_of S5 ⟨by decide, by decide⟩
      obtain ⟨T5, h5, X5, e5, W5, st5⟩ := stI X3 hx hZ e3 Ar5 (j := (1 : Int32)) hin5 (g := (mkF m 20 #[.val (.ref q), .val (.ref ps), .val (.ref mm), .val (.int (Int32.ofNat i))] [(.int (Int32.ofNat i)), (.int (1 : Int32)), (.ref mm)])) rfl rfl (hb hby d5_20)
      have V5 : Arv Z h5 mm km .int 4 [(.int va), (.int (Int32.ofNat i)), (.int vc), (.int (1 : Int32))] (.int 0) := Arv.set Ar5 qq5 S5 Nn5 H5 Gg5 rfl W5 1 rfl (Nat.le_of_ble_eq_true rfl)
      have hq5 := own_ne_av G2.1 (hw _ (List.mem_of_getElem? (i := 1) rfl)) V2
      have G5 := G2.other W5 hq5 (fun i hi => own_ne_av (G2.2.2.2 i hi).1 (hw _ (List.mem_of_getElem? (i := 11) rfl)) V2)
      have B5 := B2.other W5 hfx.2.2.2.1
      have N5 := Fr.snoc X5 N3 hfx.2.2.1
      have z5 : h0.size ≤ h5.size := Nat.le_trans z2 (Keep.of_wr W5).1
      obtain ⟨cl6, Ar6, qq6, S6, Nn6, H6, Gg6⟩ := id V5
      have hin6 : ¬ ((3 : Int32) < 0 ∨ cl6.slots.size ≤ ((3 : Int32)).toNatClampNeg) := inb_of S6 ⟨by decide, by decide⟩
      obtain ⟨cl7, Ar7, qq7, S7, Nn7, H7, Gg7⟩ := id V5
      have hin7 : ¬ ((3 : Int32) < 0 ∨ cl7.slots.size ≤ ((3 : Int32)).toNatClampNeg) := inb_of S7 ⟨by decide, by decide⟩
      obtain ⟨T7, h7, X7, e7, W7, st7⟩ := stI X5 hx hZ e5 Ar7 (j := (3 : Int32)) hin7 (g := (mkF m 28 #[.val (.ref q), .val (.ref ps), .val (.ref mm), .val (.int (Int32.ofNat i))] [(.int ((1 : Int32) + (1 : Int32))), (.int (3 : Int32)), (.ref mm)])) rfl rfl (hb hby d5_28)
      have V7 : Arv Z h7 mm km .int 4 [(.int va), (.int (Int32.ofNat i)), (.int vc), (.int ((1 : Int32) + (1 : Int32)))] (.int 0) := Arv.set Ar7 qq7 S7 Nn7 H7 Gg7 rfl W7 3 rfl (Nat.le_of_ble_eq_true rfl)
      have hq7 := own_ne_av G5.1 (hw _ (List.mem_of_getElem? (i := 1) rfl)) V5
      have G7 := G5.other W7 hq7 (fun i hi => own_ne_av (G5.2.2.2 i hi).1 (hw _ (List.mem_of_getElem? (i := 11) rfl)) V5)
      have B7 := B5.other W7 hfx.2.2.2.1
      have N7 := Fr.snoc X7 N5 hfx.2.2.1
      have z7 : h0.size ≤ h7.size := Nat.le_trans z5 (Keep.of_wr W7).1
      obtain ⟨fs, hr, hrun, hended, hW, hsame⟩ := X7.leave (v := none) (fun _ => rfl)
      refine ⟨_, _, pre0 _ ?_, hrun, hended, _, _, rfl, ?_, ⟨_, rfl⟩, hW, hsame.mono (by decide) (by decide)⟩
      · show Steps p.tables e below (s₁.setTop (mkF m 0 #[.val (.ref q), .val (.ref ps), .val (.ref mm), .val (.int (Int32.ofNat i))] [])) _
        refine XS.aloadN X0.here hx rfl (hb hby d5_0) rfl rfl ?_
        show Steps p.tables e below (s₁.setTop (mkF m 1 #[.val (.ref q), .val (.ref ps), .val (.ref mm), .val (.int (Int32.ofNat i))] [(.ref q)])) _
        refine XS.aloadN X0.here hx rfl (hb hby d5_1) rfl rfl ?_
        show Steps p.tables e below (s₁.setTop (mkF m 2 #[.val (.ref q), .val (.ref ps), .val (.ref mm), .val (.int (Int32.ofNat i))] [(.ref ps), (.ref q)])) _
        refine XS.iloadN X0.here hx rfl (hb hby d5_2) rfl ?_
        show Steps p.tables e below (s₁.setTop (mkF m 3 #[.val (.ref q), .val (.ref ps), .val (.ref mm), .val (.int (Int32.ofNat i))] [(.int (Int32.ofNat i)), (.ref ps), (.ref q)])) _
        refine X0.aaload hx (j := (Int32.ofNat i)) (v := (.ref (P i))) (by rw [e0]; exact Ar1.1) (State.isArrayOf_alike hZ.alike Ar1.2.1) rfl Ar1.2.2 hin1 (Has.at H1 hin1 (own_getP P hi)) (g := (mkF m 3 #[.val (.ref q), .val (.ref ps), .val (.ref mm), .val (.int (Int32.ofNat i))] [(.int (Int32.ofNat i)), (.ref ps), (.ref q)])) rfl rfl (hb hby d5_3) _ ?_
        show Steps p.tables e below (s₁.setTop (mkF m 4 #[.val (.ref q), .val (.ref ps), .val (.ref mm), .val (.int (Int32.ofNat i))] [(.ref (P i)), (.ref q)])) _
        refine st2.trans ?_
        show Steps p.tables e below (T2.setTop (mkF m 7 #[.val (.ref q), .val (.ref ps), .val (.ref mm), .val (.int (Int32.ofNat i))] [])) _
        refine XS.aloadN X2.here hx rfl (hb hby d5_7) rfl rfl ?_
        show Steps p.tables e below (T2.setTop (mkF m 8 #[.val (.ref q), .val (.ref ps), .val (.ref mm), .val (.int (Int32.ofNat i))] [(.ref mm)])) _
        refine XS.iloadN X2.here hx rfl (hb hby d5_8) rfl ?_
        show Steps p.tables e below (T2.setTop (mkF m 9 #[.val (.ref q), .val (.ref ps), .val (.ref mm), .val (.int (Int32.ofNat i))] [(.int (Int32.ofNat i)), (.ref mm)])) _
        refine st3 _ ?_
        show Steps p.tables e below (T3.setTop (mkF m 12 #[.val (.ref q), .val (.ref ps), .val (.ref mm), .val (.int (Int32.ofNat i))] [(.int (own_cn va vb vc (1 : Int32) (Int32.ofNat i)))])) _
        refine XS.ifNo X3.here hx rfl (hb hby d5_12) rfl ((if0 _ _).trans (teq (hcn)).2) ?_
        show Steps p.tables e below (T3.setTop (mkF m 15 #[.val (.ref q), .val (.ref ps), .val (.ref mm), .val (.int (Int32.ofNat i))] [])) _
        refine XS.aloadN X3.here hx rfl (hb hby d5_15) rfl rfl ?_
        show Steps p.tables e below (T3.setTop (mkF m 16 #[.val (.ref q), .val (.ref ps), .val (.ref mm), .val (.int (Int32.ofNat i))] [(.ref mm)])) _
        refine XS.aloadN X3.here hx rfl (hb hby d5_16) rfl rfl ?_
        show Steps p.tables e below (T3.setTop (mkF m 17 #[.val (.ref q), .val (.ref ps), .val (.ref mm), .val (.int (Int32.ofNat i))] [(.ref mm), (.ref mm)])) _
        refine XS.iconst X3.here hx rfl (hb hby d5_17) ?_
        show Steps p.tables e below (T3.setTop (mkF m 18 #[.val (.ref q), .val (.ref ps), .val (.ref mm), .val (.int (Int32.ofNat i))] [(.int (3 : Int32)), (.ref mm), (.ref mm)])) _
        refine X3.iaload hx (j := (3 : Int32)) (v := (.int (1 : Int32))) (by rw [e3]; exact Ar4.1) (State.isArrayOf_alike hZ.alike Ar4.2.1) Ar4.2.2 hin4 (Has.at H4 hin4 rfl) (g := (mkF m 18 #[.val (.ref q), .val (.ref ps), .val (.ref mm), .val (.int (Int32.ofNat i))] [(.int (3 : Int32)), (.ref mm), (.ref mm)])) rfl rfl (hb hby d5_18) _ ?_
        show Steps p.tables e below (T3.setTop (mkF m 19 #[.val (.ref q), .val (.ref ps), .val (.ref mm), .val (.int (Int32.ofNat i))] [(.int (1 : Int32)), (.ref mm)])) _
        refine XS.iloadN X3.here hx rfl (hb hby d5_19) rfl ?_
        show Steps p.tables e below (T3.setTop (mkF m 20 #[.val (.ref q), .val (.ref ps), .val (.ref mm), .val (.int (Int32.ofNat i))] [(.int (Int32.ofNat i)), (.int (1 : Int32)), (.ref mm)])) _
        refine st5 _ ?_
        show Steps p.tables e below (T5.setTop (mkF m 21 #[.val (.ref q), .val (.ref ps), .val (.ref mm), .val (.int (Int32.ofNat i))] [])) _
        refine XS.aloadN X5.here hx rfl (hb hby d5_21) rfl rfl ?_
        show Steps p.tables e below (T5.setTop (mkF m 22 #[.val (.ref q), .val (.ref ps), .val (.ref mm), .val (.int (Int32.ofNat i))] [(.ref mm)])) _
        refine XS.iconst X5.here hx rfl (hb hby d5_22) ?_
        show Steps p.tables e below (T5.setTop (mkF m 23 #[.val (.ref q), .val (.ref ps), .val (.ref mm), .val (.int (Int32.ofNat i))] [(.int (3 : Int32)), (.ref mm)])) _
        refine XS.aloadN X5.here hx rfl (hb hby d5_23) rfl rfl ?_
        show Steps p.tables e below (T5.setTop (mkF m 24 #[.val (.ref q), .val (.ref ps), .val (.ref mm), .val (.int (Int32.ofNat i))] [(.ref mm), (.int (3 : Int32)), (.ref mm)])) _
        refine XS.iconst X5.here hx rfl (hb hby d5_24) ?_
        show Steps p.tables e below (T5.setTop (mkF m 25 #[.val (.ref q), .val (.ref ps), .val (.ref mm), .val (.int (Int32.ofNat i))] [(.int (3 : Int32)), (.ref mm), (.int (3 : Int32)), (.ref mm)])) _
        refine X5.iaload hx (j := (3 : Int32)) (v := (.int (1 : Int32))) (by rw [e5]; exact Ar6.1) (State.isArrayOf_alike hZ.alike Ar6.2.1) Ar6.2.2 hin6 (Has.at H6 hin6 rfl) (g := (mkF m 25 #[.val (.ref q), .val (.ref ps), .val (.ref mm), .val (.int (Int32.ofNat i))] [(.int (3 : Int32)), (.ref mm), (.int (3 : Int32)), (.ref mm)])) rfl rfl (hb hby d5_25) _ ?_
        show Steps p.tables e below (T5.setTop (mkF m 26 #[.val (.ref q), .val (.ref ps), .val (.ref mm), .val (.int (Int32.ofNat i))] [(.int (1 : Int32)), (.int (3 : Int32)), (.ref mm)])) _
        refine XS.iconst X5.here hx rfl (hb hby d5_26) ?_
        show Steps p.tables e below (T5.setTop (mkF m 27 #[.val (.ref q), .val (.ref ps), .val (.ref mm), .val (.int (Int32.ofNat i))] [(.int (1 : Int32)), (.int (1 : Int32)), (.int (3 : Int32)), (.ref mm)])) _
        refine XS.iadd X5.here hx rfl (hb hby d5_27) rfl ?_
        show Steps p.tables e below (T5.setTop (mkF m 28 #[.val (.ref q), .val (.ref ps), .val (.ref mm), .val (.int (Int32.ofNat i))] [(.int ((1 : Int32) + (1 : Int32))), (.int (3 : Int32)), (.ref mm)])) _
        refine st7 _ ?_
        show Steps p.tables e below (T7.setTop (mkF m 29 #[.val (.ref q), .val (.ref ps), .val (.ref mm), .val (.int (Int32.ofNat i))] [])) _
        exact X7.returnOut hx Bd.returns (hb hby d5_29) hr
      · show Q5 Z q ps mm P kp km [x] i h0 n0 _ T7.heap _
        rw [e7]
        refine ⟨rfl, N7, z7, va, (Int32.ofNat i), vc, own_ok_add ho hi, ?_, G7, B7, ?_⟩
        · rw [own_add_no hm]; exact ⟨hr0, rfl⟩
        · rw [own_add_no hm]; exact V7
    · have V0 : Arv Z h0 mm km .int 4 [.int va, .int vb, .int vc, .int (2 : Int32)] (.int 0) := V0
      have hcn : own_cn va vb vc (2 : Int32) (Int32.ofNat i) = 0 := (own_cn_in ho hr0 hi).trans (own_in_no hm)
      obtain ⟨cl1, Ar1, qq1, S1, Nn1, H1, Gg1⟩ := id B0
      have hin1 : ¬ ((Int32.ofNat i) < 0 ∨ cl1.slots.size ≤ ((Int32.ofNat i)).toNatClampNeg) := inb_of S1 (own_ix i hi).1
      obtain ⟨cq2, kq2, q2a, q2b, q2c⟩ := isOf hZ e0 G0.1
      obtain ⟨_, _, ⟨T2, L2, k2, n2⟩, -, X2, ⟨Lc2, hQ2, l2, y2, z2⟩, st2⟩ := X0.virtualBack hx (y := (⟨"com/example/bulkwire/bulkwire/server/TurnQueue", "add", "(Lcom/example/bulkwire/bulkwire/server/TurnQueue$Place;)V"⟩ : MethodName)) (z := (⟨"com/example/bulkwire/bulkwire/server/TurnQueue", "add", "(Lcom/example/bulkwire/bulkwire/server/TurnQueue$Place;)V"⟩ : MethodName)) hown (mvT hZ (hw _ (List.mem_of_getElem? (i := 29) rfl))) (mvT hZ (hw _ (List.mem_of_getElem? (i := 30) rfl))) (notFace_of_selects (args := #[]) (mvT hZ (hw _ (List.mem_of_getElem? (i := 32) rfl)))) (mvT hZ (hw _ (List.mem_of_getElem? (i := 32) rfl))) (mvT hZ (hw _ (List.mem_of_getElem? (i := 31) rfl))) (by decide) (backOf (W := 0) (rm6 l Z a0 hw [] q (P i)  h0 n0 (Nat.le_trans Z0 (Nat.le_refl h0.size)) P [x, y] ps mm hfx i hi rfl ho G0) hZ (hw _ (List.mem_of_getElem? (i := 33) rfl)) (hw _ (List.mem_of_getElem? (i := 2) rfl)) (by decide) (by decide)) q2a q2c (g := (mkF m 4 #[.val (.ref q), .val (.ref ps), .val (.ref mm), .val (.int (Int32.ofNat i))] [(.ref (P i)), (.ref q)])) rfl (by rw [hml]; rfl) (Steps.refl _) (argsL := [(.ref (P i))]) (rest := []) (lenOf pd_0 rfl) rfl (by show 2 * 0 + _ ≤ _; exact Nat.le_of_eq rfl) (hb hby d5_4) (fun _ _ => ⟨rfl, e0, (by decide : 0 + 0 ≤ _), (by decide : 0 + 0 ≤ _)⟩)
      dsimp only [Pt.U, Pt.locs, Pt.cells, Pt.slots] at X2 l2 y2 z2 st2 hQ2
      subst l2 y2 z2
      obtain ⟨rfl, N2q, K2, G2⟩ := hQ2
      have N2 := Fr.app N0 N2q
      have B2 := B0.keep K2 (ninS (Ne.symm (own_ne_av G0.1 (hw _ (List.mem_of_getElem? (i := 1) rfl)) B0)) (ninS (Ne.symm (own_ne_av (G0.2.2.2 0 (by decide)).1 (hw _ (List.mem_of_getElem? (i := 11) rfl)) B0)) (ninS (Ne.symm (own_ne_av (G0.2.2.2 1 (by decide)).1 (hw _ (List.mem_of_getElem? (i := 11) rfl)) B0)) (ninS (Ne.symm (own_ne_av (G0.2.2.2 2 (by decide)).1 (hw _ (List.mem_of_getElem? (i := 11) rfl)) B0)) nin0))))
      have V2 := V0.keep K2 (ninS (Ne.symm (own_ne_av G0.1 (hw _ (List.mem_of_getElem? (i := 1) rfl)) V0)) (ninS (Ne.symm (own_ne_av (G0.2.2.2 0 (by decide)).1 (hw _ (List.mem_of_getElem? (i := 11) rfl)) V0)) (ninS (Ne.symm (own_ne_av (G0.2.2.2 1 (by decide)).1 (hw _ (List.mem_of_getElem? (i := 11) rfl)) V0)) (ninS (Ne.symm (own_ne_av (G0.2.2.2 2 (by decide)).1 (hw _ (List.mem_of_getElem? (i := 11) rfl)) V0)) nin0))))
      have z2 : h0.size ≤ T2.heap.size := Nat.le_trans (Nat.le_refl h0.size) K2.1
      obtain ⟨_, _, ⟨T3, L3, k3, n3⟩, -, X3, ⟨Lc3, hQ3, l3, y3, z3⟩, st3⟩ := Jvm.LawKit.callS X2 hx (y := (⟨"com/example/bulkwire/bulkwire/server/TurnQueuePollPinLaw", "contains", "([II)Z"⟩ : MethodName)) hown (mvT hZ (hw _ (List.mem_of_getElem? (i := 40) rfl))) (mvT hZ (hw _ (List.mem_of_getElem? (i := 41) rfl))) (mvT hZ (hw _ (List.mem_of_getElem? (i := 23) rfl))) (mvT hZ (hw _ (List.mem_of_getElem? (i := 42) rfl))) (by decide) (backOf (W := 0) (rm7 l Z a0 hw [] mm (Int32.ofNat i)  T2.heap n0 (Nat.le_trans Z0 z2) km va vb vc (2 : Int32) V2) hZ (hw _ (List.mem_of_getElem? (i := 42) rfl)) (hw _ (List.mem_of_getElem? (i := 23) rfl)) (by decide) (by decide)) (g := (mkF m 9 #[.val (.ref q), .val (.ref ps), .val (.ref mm), .val (.int (Int32.ofNat i))] [(.int (Int32.ofNat i)), (.ref mm)])) rfl (by rw [hml]; rfl) (argsL := [(.ref mm), (.int (Int32.ofNat i))]) (rest := []) (lenOf pd_1 rfl) rfl (by show 2 * 0 + _ ≤ _; exact Nat.le_of_eq rfl) (hb hby d5_9) (fun _ _ => ⟨rfl, rfl, (by decide : 0 + 0 ≤ _), (by decide : 0 + 0 ≤ _)⟩)
      dsimp only [Pt.U, Pt.locs, Pt.cells, Pt.slots] at X3 l3 y3 z3 st3 hQ3
      subst l3 y3 z3
      obtain ⟨rfl, N3q, e3⟩ := hQ3
      have N3 := Fr.app N2 N3q
      obtain ⟨cl4, Ar4, qq4, S4, Nn4, H4, Gg4⟩ := id V2
      have hin4 : ¬ ((3 : Int32) < 0 ∨ cl4.slots.size ≤ ((3 : Int32)).toNatClampNeg) := inb_of S4 ⟨by decide, by decide⟩
      obtain ⟨cl5, Ar5, qq5, S5, Nn5, H5, Gg5⟩ := id V2
      have hin5 : ¬ ((2 : Int32) < 0 ∨ cl5.slots.size ≤ ((2 : Int32)).toNatClampNeg) := inb_of S5 ⟨by decide, by decide⟩
      obtain ⟨T5, h5, X5, e5, W5, st5⟩ := stI X3 hx hZ e3 Ar5 (j := (2 : Int32)) hin5 (g := (mkF m 20 #[.val (.ref q), .val (.ref ps), .val (.ref mm), .val (.int (Int32.ofNat i))] [(.int (Int32.ofNat i)), (.int (2 : Int32)), (.ref mm)])) rfl rfl (hb hby d5_20)
      have V5 : Arv Z h5 mm km .int 4 [(.int va), (.int vb), (.int (Int32.ofNat i)), (.int (2 : Int32))] (.int 0) := Arv.set Ar5 qq5 S5 Nn5 H5 Gg5 rfl W5 2 rfl (Nat.le_of_ble_eq_true rfl)
      have hq5 := own_ne_av G2.1 (hw _ (List.mem_of_getElem? (i := 1) rfl)) V2
      have G5 := G2.other W5 hq5 (fun i hi => own_ne_av (G2.2.2.2 i hi).1 (hw _ (List.mem_of_getElem? (i := 11) rfl)) V2)
      have B5 := B2.other W5 hfx.2.2.2.1
      have N5 := Fr.snoc X5 N3 hfx.2.2.1
      have z5 : h0.size ≤ h5.size := Nat.le_trans z2 (Keep.of_wr W5).1
      obtain ⟨cl6, Ar6, qq6, S6, Nn6, H6, Gg6⟩ := id V5
      have hin6 : ¬ ((3 : Int32) < 0 ∨ cl6.slots.size ≤ ((3 : Int32)).toNatClampNeg) := inb_of S6 ⟨by decide, by decide⟩
      obtain ⟨cl7, Ar7, qq7, S7, Nn7, H7, Gg7⟩ := id V5
      have hin7 : ¬ ((3 : Int32) < 0 ∨ cl7.slots.size ≤ ((3 : Int32)).toNatClampNeg) := inb_of S7 ⟨by decide, by decide⟩
      obtain ⟨T7, h7, X7, e7, W7, st7⟩ := stI X5 hx hZ e5 Ar7 (j := (3 : Int32)) hin7 (g := (mkF m 28 #[.val (.ref q), .val (.ref ps), .val (.ref mm), .val (.int (Int32.ofNat i))] [(.int ((2 : Int32) + (1 : Int32))), (.int (3 : Int32)), (.ref mm)])) rfl rfl (hb hby d5_28)
      have V7 : Arv Z h7 mm km .int 4 [(.int va), (.int vb), (.int (Int32.ofNat i)), (.int ((2 : Int32) + (1 : Int32)))] (.int 0) := Arv.set Ar7 qq7 S7 Nn7 H7 Gg7 rfl W7 3 rfl (Nat.le_of_ble_eq_true rfl)
      have hq7 := own_ne_av G5.1 (hw _ (List.mem_of_getElem? (i := 1) rfl)) V5
      have G7 := G5.other W7 hq7 (fun i hi => own_ne_av (G5.2.2.2 i hi).1 (hw _ (List.mem_of_getElem? (i := 11) rfl)) V5)
      have B7 := B5.other W7 hfx.2.2.2.1
      have N7 := Fr.snoc X7 N5 hfx.2.2.1
      have z7 : h0.size ≤ h7.size := Nat.le_trans z5 (Keep.of_wr W7).1
      obtain ⟨fs, hr, hrun, hended, hW, hsame⟩ := X7.leave (v := none) (fun _ => rfl)
      refine ⟨_, _, pre0 _ ?_, hrun, hended, _, _, rfl, ?_, ⟨_, rfl⟩, hW, hsame.mono (by decide) (by decide)⟩
      · show Steps p.tables e below (s₁.setTop (mkF m 0 #[.val (.ref q), .val (.ref ps), .val (.ref mm), .val (.int (Int32.ofNat i))] [])) _
        refine XS.aloadN X0.here hx rfl (hb hby d5_0) rfl rfl ?_
        show Steps p.tables e below (s₁.setTop (mkF m 1 #[.val (.ref q), .val (.ref ps), .val (.ref mm), .val (.int (Int32.ofNat i))] [(.ref q)])) _
        refine XS.aloadN X0.here hx rfl (hb hby d5_1) rfl rfl ?_
        show Steps p.tables e below (s₁.setTop (mkF m 2 #[.val (.ref q), .val (.ref ps), .val (.ref mm), .val (.int (Int32.ofNat i))] [(.ref ps), (.ref q)])) _
        refine XS.iloadN X0.here hx rfl (hb hby d5_2) rfl ?_
        show Steps p.tables e below (s₁.setTop (mkF m 3 #[.val (.ref q), .val (.ref ps), .val (.ref mm), .val (.int (Int32.ofNat i))] [(.int (Int32.ofNat i)), (.ref ps), (.ref q)])) _
        refine X0.aaload hx (j := (Int32.ofNat i)) (v := (.ref (P i))) (by rw [e0]; exact Ar1.1) (State.isArrayOf_alike hZ.alike Ar1.2.1) rfl Ar1.2.2 hin1 (Has.at H1 hin1 (own_getP P hi)) (g := (mkF m 3 #[.val (.ref q), .val (.ref ps), .val (.ref mm), .val (.int (Int32.ofNat i))] [(.int (Int32.ofNat i)), (.ref ps), (.ref q)])) rfl rfl (hb hby d5_3) _ ?_
        show Steps p.tables e below (s₁.setTop (mkF m 4 #[.val (.ref q), .val (.ref ps), .val (.ref mm), .val (.int (Int32.ofNat i))] [(.ref (P i)), (.ref q)])) _
        refine st2.trans ?_
        show Steps p.tables e below (T2.setTop (mkF m 7 #[.val (.ref q), .val (.ref ps), .val (.ref mm), .val (.int (Int32.ofNat i))] [])) _
        refine XS.aloadN X2.here hx rfl (hb hby d5_7) rfl rfl ?_
        show Steps p.tables e below (T2.setTop (mkF m 8 #[.val (.ref q), .val (.ref ps), .val (.ref mm), .val (.int (Int32.ofNat i))] [(.ref mm)])) _
        refine XS.iloadN X2.here hx rfl (hb hby d5_8) rfl ?_
        show Steps p.tables e below (T2.setTop (mkF m 9 #[.val (.ref q), .val (.ref ps), .val (.ref mm), .val (.int (Int32.ofNat i))] [(.int (Int32.ofNat i)), (.ref mm)])) _
        refine st3 _ ?_
        show Steps p.tables e below (T3.setTop (mkF m 12 #[.val (.ref q), .val (.ref ps), .val (.ref mm), .val (.int (Int32.ofNat i))] [(.int (own_cn va vb vc (2 : Int32) (Int32.ofNat i)))])) _
        refine XS.ifNo X3.here hx rfl (hb hby d5_12) rfl ((if0 _ _).trans (teq (hcn)).2) ?_
        show Steps p.tables e below (T3.setTop (mkF m 15 #[.val (.ref q), .val (.ref ps), .val (.ref mm), .val (.int (Int32.ofNat i))] [])) _
        refine XS.aloadN X3.here hx rfl (hb hby d5_15) rfl rfl ?_
        show Steps p.tables e below (T3.setTop (mkF m 16 #[.val (.ref q), .val (.ref ps), .val (.ref mm), .val (.int (Int32.ofNat i))] [(.ref mm)])) _
        refine XS.aloadN X3.here hx rfl (hb hby d5_16) rfl rfl ?_
        show Steps p.tables e below (T3.setTop (mkF m 17 #[.val (.ref q), .val (.ref ps), .val (.ref mm), .val (.int (Int32.ofNat i))] [(.ref mm), (.ref mm)])) _
        refine XS.iconst X3.here hx rfl (hb hby d5_17) ?_
        show Steps p.tables e below (T3.setTop (mkF m 18 #[.val (.ref q), .val (.ref ps), .val (.ref mm), .val (.int (Int32.ofNat i))] [(.int (3 : Int32)), (.ref mm), (.ref mm)])) _
        refine X3.iaload hx (j := (3 : Int32)) (v := (.int (2 : Int32))) (by rw [e3]; exact Ar4.1) (State.isArrayOf_alike hZ.alike Ar4.2.1) Ar4.2.2 hin4 (Has.at H4 hin4 rfl) (g := (mkF m 18 #[.val (.ref q), .val (.ref ps), .val (.ref mm), .val (.int (Int32.ofNat i))] [(.int (3 : Int32)), (.ref mm), (.ref mm)])) rfl rfl (hb hby d5_18) _ ?_
        show Steps p.tables e below (T3.setTop (mkF m 19 #[.val (.ref q), .val (.ref ps), .val (.ref mm), .val (.int (Int32.ofNat i))] [(.int (2 : Int32)), (.ref mm)])) _
        refine XS.iloadN X3.here hx rfl (hb hby d5_19) rfl ?_
        show Steps p.tables e below (T3.setTop (mkF m 20 #[.val (.ref q), .val (.ref ps), .val (.ref mm), .val (.int (Int32.ofNat i))] [(.int (Int32.ofNat i)), (.int (2 : Int32)), (.ref mm)])) _
        refine st5 _ ?_
        show Steps p.tables e below (T5.setTop (mkF m 21 #[.val (.ref q), .val (.ref ps), .val (.ref mm), .val (.int (Int32.ofNat i))] [])) _
        refine XS.aloadN X5.here hx rfl (hb hby d5_21) rfl rfl ?_
        show Steps p.tables e below (T5.setTop (mkF m 22 #[.val (.ref q), .val (.ref ps), .val (.ref mm), .val (.int (Int32.ofNat i))] [(.ref mm)])) _
        refine XS.iconst X5.here hx rfl (hb hby d5_22) ?_
        show Steps p.tables e below (T5.setTop (mkF m 23 #[.val (.ref q), .val (.ref ps), .val (.ref mm), .val (.int (Int32.ofNat i))] [(.int (3 : Int32)), (.ref mm)])) _
        refine XS.aloadN X5.here hx rfl (hb hby d5_23) rfl rfl ?_
        show Steps p.tables e below (T5.setTop (mkF m 24 #[.val (.ref q), .val (.ref ps), .val (.ref mm), .val (.int (Int32.ofNat i))] [(.ref mm), (.int (3 : Int32)), (.ref mm)])) _
        refine XS.iconst X5.here hx rfl (hb hby d5_24) ?_
        show Steps p.tables e below (T5.setTop (mkF m 25 #[.val (.ref q), .val (.ref ps), .val (.ref mm), .val (.int (Int32.ofNat i))] [(.int (3 : Int32)), (.ref mm), (.int (3 : Int32)), (.ref mm)])) _
        refine X5.iaload hx (j := (3 : Int32)) (v := (.int (2 : Int32))) (by rw [e5]; exact Ar6.1) (State.isArrayOf_alike hZ.alike Ar6.2.1) Ar6.2.2 hin6 (Has.at H6 hin6 rfl) (g := (mkF m 25 #[.val (.ref q), .val (.ref ps), .val (.ref mm), .val (.int (Int32.ofNat i))] [(.int (3 : Int32)), (.ref mm), (.int (3 : Int32)), (.ref mm)])) rfl rfl (hb hby d5_25) _ ?_
        show Steps p.tables e below (T5.setTop (mkF m 26 #[.val (.ref q), .val (.ref ps), .val (.ref mm), .val (.int (Int32.ofNat i))] [(.int (2 : Int32)), (.int (3 : Int32)), (.ref mm)])) _
        refine XS.iconst X5.here hx rfl (hb hby d5_26) ?_
        show Steps p.tables e below (T5.setTop (mkF m 27 #[.val (.ref q), .val (.ref ps), .val (.ref mm), .val (.int (Int32.ofNat i))] [(.int (1 : Int32)), (.int (2 : Int32)), (.int (3 : Int32)), (.ref mm)])) _
        refine XS.iadd X5.here hx rfl (hb hby d5_27) rfl ?_
        show Steps p.tables e below (T5.setTop (mkF m 28 #[.val (.ref q), .val (.ref ps), .val (.ref mm), .val (.int (Int32.ofNat i))] [(.int ((2 : Int32) + (1 : Int32))), (.int (3 : Int32)), (.ref mm)])) _
        refine st7 _ ?_
        show Steps p.tables e below (T7.setTop (mkF m 29 #[.val (.ref q), .val (.ref ps), .val (.ref mm), .val (.int (Int32.ofNat i))] [])) _
        exact X7.returnOut hx Bd.returns (hb hby d5_29) hr
      · show Q5 Z q ps mm P kp km [x, y] i h0 n0 _ T7.heap _
        rw [e7]
        refine ⟨rfl, N7, z7, va, vb, (Int32.ofNat i), own_ok_add ho hi, ?_, G7, B7, ?_⟩
        · rw [own_add_no hm]; exact ⟨hr0.1, hr0.2, rfl⟩
        · rw [own_add_no hm]; exact V7
theorem d8_0 : decode method_6_code 0 = .ok (.aload_n 0, 1) := by decide +kernel
theorem d8_1 : decode method_6_code 1 = .ok (.invokevirtual 38, 3) := by decide +kernel
theorem d8_4 : decode method_6_code 4 = .ok (.ifnonnull 7, 3) := by decide +kernel
theorem d8_7 : decode method_6_code 7 = .ok (.iconst 1, 1) := by decide +kernel
theorem d8_8 : decode method_6_code 8 = .ok (.goto 4, 3) := by decide +kernel
theorem d8_11 : decode method_6_code 11 = .ok (.iconst 0, 1) := by decide +kernel
theorem d8_12 : decode method_6_code 12 = .ok (.istore_n 3, 1) := by decide +kernel
theorem d8_13 : decode method_6_code 13 = .ok (.aload_n 2, 1) := by decide +kernel
theorem d8_14 : decode method_6_code 14 = .ok (.iconst 3, 1) := by decide +kernel
theorem d8_15 : decode method_6_code 15 = .ok (.iaload, 1) := by decide +kernel
theorem d8_16 : decode method_6_code 16 = .ok (.ifCond .le 23, 3) := by decide +kernel
theorem d8_19 : decode method_6_code 19 = .ok (.aload_n 2, 1) := by decide +kernel
theorem d8_20 : decode method_6_code 20 = .ok (.iconst 0, 1) := by decide +kernel
theorem d8_21 : decode method_6_code 21 = .ok (.aload_n 2, 1) := by decide +kernel
theorem d8_22 : decode method_6_code 22 = .ok (.iconst 1, 1) := by decide +kernel
theorem d8_23 : decode method_6_code 23 = .ok (.iaload, 1) := by decide +kernel
theorem d8_24 : decode method_6_code 24 = .ok (.iastore, 1) := by decide +kernel
theorem d8_25 : decode method_6_code 25 = .ok (.aload_n 2, 1) := by decide +kernel
theorem d8_26 : decode method_6_code 26 = .ok (.iconst 1, 1) := by decide +kernel
theorem d8_27 : decode method_6_code 27 = .ok (.aload_n 2, 1) := by decide +kernel
theorem d8_28 : decode method_6_code 28 = .ok (.iconst 2, 1) := by decide +kernel
theorem d8_29 : decode method_6_code 29 = .ok (.iaload, 1) := by decide +kernel
theorem d8_30 : decode method_6_code 30 = .ok (.iastore, 1) := by decide +kernel
theorem d8_31 : decode method_6_code 31 = .ok (.aload_n 2, 1) := by decide +kernel
theorem d8_32 : decode method_6_code 32 = .ok (.iconst 3, 1) := by decide +kernel
theorem d8_33 : decode method_6_code 33 = .ok (.aload_n 2, 1) := by decide +kernel
theorem d8_34 : decode method_6_code 34 = .ok (.iconst 3, 1) := by decide +kernel
theorem d8_35 : decode method_6_code 35 = .ok (.iaload, 1) := by decide +kernel
theorem d8_36 : decode method_6_code 36 = .ok (.iconst 1, 1) := by decide +kernel
theorem d8_37 : decode method_6_code 37 = .ok (.isub, 1) := by decide +kernel
theorem d8_38 : decode method_6_code 38 = .ok (.iastore, 1) := by decide +kernel
theorem d8_39 : decode method_6_code 39 = .ok (.aload_n 2, 1) := by decide +kernel
theorem d8_40 : decode method_6_code 40 = .ok (.iconst 0, 1) := by decide +kernel
theorem d8_41 : decode method_6_code 41 = .ok (.invokestatic 34, 3) := by decide +kernel
theorem d8_44 : decode method_6_code 44 = .ok (.ifCond .eq 7, 3) := by decide +kernel
theorem d8_47 : decode method_6_code 47 = .ok (.iconst 1, 1) := by decide +kernel
theorem d8_48 : decode method_6_code 48 = .ok (.goto 4, 3) := by decide +kernel
theorem d8_51 : decode method_6_code 51 = .ok (.iconst 0, 1) := by decide +kernel
theorem d8_52 : decode method_6_code 52 = .ok (.aload_n 2, 1) := by decide +kernel
theorem d8_53 : decode method_6_code 53 = .ok (.iconst 1, 1) := by decide +kernel
theorem d8_54 : decode method_6_code 54 = .ok (.invokestatic 34, 3) := by decide +kernel
theorem d8_57 : decode method_6_code 57 = .ok (.ifCond .eq 7, 3) := by decide +kernel
theorem d8_60 : decode method_6_code 60 = .ok (.iconst 2, 1) := by decide +kernel
theorem d8_61 : decode method_6_code 61 = .ok (.goto 4, 3) := by decide +kernel
theorem d8_64 : decode method_6_code 64 = .ok (.iconst 0, 1) := by decide +kernel
theorem d8_65 : decode method_6_code 65 = .ok (.ior, 1) := by decide +kernel
theorem d8_66 : decode method_6_code 66 = .ok (.aload_n 2, 1) := by decide +kernel
theorem d8_67 : decode method_6_code 67 = .ok (.iconst 2, 1) := by decide +kernel
theorem d8_68 : decode method_6_code 68 = .ok (.invokestatic 34, 3) := by decide +kernel
theorem d8_71 : decode method_6_code 71 = .ok (.ifCond .eq 7, 3) := by decide +kernel
theorem d8_74 : decode method_6_code 74 = .ok (.iconst 4, 1) := by decide +kernel
theorem d8_75 : decode method_6_code 75 = .ok (.goto 4, 3) := by decide +kernel
theorem d8_78 : decode method_6_code 78 = .ok (.iconst 0, 1) := by decide +kernel
theorem d8_79 : decode method_6_code 79 = .ok (.ior, 1) := by decide +kernel
theorem d8_80 : decode method_6_code 80 = .ok (.aload_n 2, 1) := by decide +kernel
theorem d8_81 : decode method_6_code 81 = .ok (.iconst 3, 1) := by decide +kernel
theorem d8_82 : decode method_6_code 82 = .ok (.iaload, 1) := by decide +kernel
theorem d8_83 : decode method_6_code 83 = .ok (.ifCond .ne 8, 3) := by decide +kernel
theorem d8_86 : decode method_6_code 86 = .ok (.bipush 8, 2) := by decide +kernel
theorem d8_88 : decode method_6_code 88 = .ok (.goto 4, 3) := by decide +kernel
theorem d8_91 : decode method_6_code 91 = .ok (.iconst 0, 1) := by decide +kernel
theorem d8_92 : decode method_6_code 92 = .ok (.ior, 1) := by decide +kernel
theorem d8_93 : decode method_6_code 93 = .ok (.istore 4, 2) := by decide +kernel
theorem d8_95 : decode method_6_code 95 = .ok (.aload_n 0, 1) := by decide +kernel
theorem d8_96 : decode method_6_code 96 = .ok (.aload_n 1, 1) := by decide +kernel
theorem d8_97 : decode method_6_code 97 = .ok (.iconst 0, 1) := by decide +kernel
theorem d8_98 : decode method_6_code 98 = .ok (.aaload, 1) := by decide +kernel
theorem d8_99 : decode method_6_code 99 = .ok (.invokevirtual 42, 3) := by decide +kernel
theorem d8_102 : decode method_6_code 102 = .ok (.ifCond .eq 7, 3) := by decide +kernel
theorem d8_105 : decode method_6_code 105 = .ok (.iconst 1, 1) := by decide +kernel
theorem d8_106 : decode method_6_code 106 = .ok (.goto 4, 3) := by decide +kernel
theorem d8_109 : decode method_6_code 109 = .ok (.iconst 0, 1) := by decide +kernel
theorem d8_110 : decode method_6_code 110 = .ok (.aload_n 0, 1) := by decide +kernel
theorem d8_111 : decode method_6_code 111 = .ok (.aload_n 1, 1) := by decide +kernel
theorem d8_112 : decode method_6_code 112 = .ok (.iconst 1, 1) := by decide +kernel
theorem d8_113 : decode method_6_code 113 = .ok (.aaload, 1) := by decide +kernel
theorem d8_114 : decode method_6_code 114 = .ok (.invokevirtual 42, 3) := by decide +kernel
theorem d8_117 : decode method_6_code 117 = .ok (.ifCond .eq 7, 3) := by decide +kernel
theorem d8_120 : decode method_6_code 120 = .ok (.iconst 2, 1) := by decide +kernel
theorem d8_121 : decode method_6_code 121 = .ok (.goto 4, 3) := by decide +kernel
theorem d8_124 : decode method_6_code 124 = .ok (.iconst 0, 1) := by decide +kernel
theorem d8_125 : decode method_6_code 125 = .ok (.ior, 1) := by decide +kernel
theorem d8_126 : decode method_6_code 126 = .ok (.aload_n 0, 1) := by decide +kernel
theorem d8_127 : decode method_6_code 127 = .ok (.aload_n 1, 1) := by decide +kernel
theorem d8_128 : decode method_6_code 128 = .ok (.iconst 2, 1) := by decide +kernel
theorem d8_129 : decode method_6_code 129 = .ok (.aaload, 1) := by decide +kernel
theorem d8_130 : decode method_6_code 130 = .ok (.invokevirtual 42, 3) := by decide +kernel
theorem d8_133 : decode method_6_code 133 = .ok (.ifCond .eq 7, 3) := by decide +kernel
theorem d8_136 : decode method_6_code 136 = .ok (.iconst 4, 1) := by decide +kernel
theorem d8_137 : decode method_6_code 137 = .ok (.goto 4, 3) := by decide +kernel
theorem d8_140 : decode method_6_code 140 = .ok (.iconst 0, 1) := by decide +kernel
theorem d8_141 : decode method_6_code 141 = .ok (.ior, 1) := by decide +kernel
theorem d8_142 : decode method_6_code 142 = .ok (.aload_n 0, 1) := by decide +kernel
theorem d8_143 : decode method_6_code 143 = .ok (.invokevirtual 46, 3) := by decide +kernel
theorem d8_146 : decode method_6_code 146 = .ok (.ifCond .eq 8, 3) := by decide +kernel
theorem d8_149 : decode method_6_code 149 = .ok (.bipush 8, 2) := by decide +kernel
theorem d8_151 : decode method_6_code 151 = .ok (.goto 4, 3) := by decide +kernel
theorem d8_154 : decode method_6_code 154 = .ok (.iconst 0, 1) := by decide +kernel
theorem d8_155 : decode method_6_code 155 = .ok (.ior, 1) := by decide +kernel
theorem d8_156 : decode method_6_code 156 = .ok (.istore 5, 2) := by decide +kernel
theorem d8_158 : decode method_6_code 158 = .ok (.iload_n 3, 1) := by decide +kernel
theorem d8_159 : decode method_6_code 159 = .ok (.ifCond .eq 14, 3) := by decide +kernel
theorem d8_162 : decode method_6_code 162 = .ok (.iload 4, 2) := by decide +kernel
theorem d8_164 : decode method_6_code 164 = .ok (.iload 5, 2) := by decide +kernel
theorem d8_166 : decode method_6_code 166 = .ok (.if_icmp .ne 7, 3) := by decide +kernel
theorem d8_169 : decode method_6_code 169 = .ok (.iconst 1, 1) := by decide +kernel
theorem d8_170 : decode method_6_code 170 = .ok (.goto 4, 3) := by decide +kernel
theorem d8_173 : decode method_6_code 173 = .ok (.iconst 0, 1) := by decide +kernel
theorem d8_174 : decode method_6_code 174 = .ok (.ireturn, 1) := by decide +kernel
theorem pn_8 : plainName "com/example/bulkwire/bulkwire/server/TurnQueuePollPinLaw" = true := by first | (simp [plainName, overriddenIn]; done) | decide +kernel
theorem ef_8 (m : MethodId) (q : Addr) (ps : Addr) (mm : Addr) : entryFrame m #[(.ref q), (.ref ps), (.ref mm)] 6 = mkF m 0 #[.val (.ref q), .val (.ref ps), .val (.ref mm), .unset, .unset, .unset] [] := by first | (simp [entryFrame, mkF, argsToLocals, Value.category]; done) | rfl
theorem sel_8_44 {p : Program} {l : Launch} {e : Env} {R : Room} {s : State} {m : MethodId} {args : Array Value} {below : List Frame} {meth : Method} {c : Code} {T0 : State} {locs : List Loc} {cells slots : Nat} (X0 : Stand p l e R s m args below meth c T0 locs cells slots) (hx : p.tables.exec = Jvm.exec) (hby : c.code = method_6_code) (Ls : Array Slot) (b0 : Int32) (rest : List Value) :
    ∀ target, Steps p.tables e below (T0.setTop (mkF m 52 Ls (.int (own_sel b0 (1 : Int32)) :: rest))) target → Steps p.tables e below (T0.setTop (mkF m 44 Ls (.int b0 :: rest))) target := by
  intro target kt
  by_cases hc : b0 = (0 : Int32)
  · rw [show own_sel b0 (1 : Int32) = (0 : Int32) by unfold own_sel; rw [if_pos hc]] at kt
    refine XS.ifYes X0.here hx rfl (pc0 := 44) (pc' := 51) rfl (hb hby d8_44) rfl ((if0 _ _).trans (teq hc).1) (by decide) (by decide) ?_
    show Steps p.tables e below (T0.setTop (mkF m 51 Ls rest)) _
    refine XS.iconst X0.here hx rfl (hb hby d8_51) ?_
    exact kt
  · rw [show own_sel b0 (1 : Int32) = (1 : Int32) by unfold own_sel; rw [if_neg hc]] at kt
    refine XS.ifNo X0.here hx rfl (hb hby d8_44) rfl ((if0 _ _).trans (feq hc).1) ?_
    show Steps p.tables e below (T0.setTop (mkF m 47 Ls rest)) _
    refine XS.iconst X0.here hx rfl (hb hby d8_47) ?_
    show Steps p.tables e below (T0.setTop (mkF m 48 Ls (.int (1 : Int32) :: rest))) _
    refine XS.goto X0.here hx rfl (pc0 := 48) (pc' := 52) rfl (hb hby d8_48) (by decide) (by decide) ?_
    exact kt
theorem sel_8_57 {p : Program} {l : Launch} {e : Env} {R : Room} {s : State} {m : MethodId} {args : Array Value} {below : List Frame} {meth : Method} {c : Code} {T0 : State} {locs : List Loc} {cells slots : Nat} (X0 : Stand p l e R s m args below meth c T0 locs cells slots) (hx : p.tables.exec = Jvm.exec) (hby : c.code = method_6_code) (Ls : Array Slot) (b0 : Int32) (rest : List Value) :
    ∀ target, Steps p.tables e below (T0.setTop (mkF m 65 Ls (.int (own_sel b0 (2 : Int32)) :: rest))) target → Steps p.tables e below (T0.setTop (mkF m 57 Ls (.int b0 :: rest))) target := by
  intro target kt
  by_cases hc : b0 = (0 : Int32)
  · rw [show own_sel b0 (2 : Int32) = (0 : Int32) by unfold own_sel; rw [if_pos hc]] at kt
    refine XS.ifYes X0.here hx rfl (pc0 := 57) (pc' := 64) rfl (hb hby d8_57) rfl ((if0 _ _).trans (teq hc).1) (by decide) (by decide) ?_
    show Steps p.tables e below (T0.setTop (mkF m 64 Ls rest)) _
    refine XS.iconst X0.here hx rfl (hb hby d8_64) ?_
    exact kt
  · rw [show own_sel b0 (2 : Int32) = (2 : Int32) by unfold own_sel; rw [if_neg hc]] at kt
    refine XS.ifNo X0.here hx rfl (hb hby d8_57) rfl ((if0 _ _).trans (feq hc).1) ?_
    show Steps p.tables e below (T0.setTop (mkF m 60 Ls rest)) _
    refine XS.iconst X0.here hx rfl (hb hby d8_60) ?_
    show Steps p.tables e below (T0.setTop (mkF m 61 Ls (.int (2 : Int32) :: rest))) _
    refine XS.goto X0.here hx rfl (pc0 := 61) (pc' := 65) rfl (hb hby d8_61) (by decide) (by decide) ?_
    exact kt
theorem sel_8_71 {p : Program} {l : Launch} {e : Env} {R : Room} {s : State} {m : MethodId} {args : Array Value} {below : List Frame} {meth : Method} {c : Code} {T0 : State} {locs : List Loc} {cells slots : Nat} (X0 : Stand p l e R s m args below meth c T0 locs cells slots) (hx : p.tables.exec = Jvm.exec) (hby : c.code = method_6_code) (Ls : Array Slot) (b0 : Int32) (rest : List Value) :
    ∀ target, Steps p.tables e below (T0.setTop (mkF m 79 Ls (.int (own_sel b0 (4 : Int32)) :: rest))) target → Steps p.tables e below (T0.setTop (mkF m 71 Ls (.int b0 :: rest))) target := by
  intro target kt
  by_cases hc : b0 = (0 : Int32)
  · rw [show own_sel b0 (4 : Int32) = (0 : Int32) by unfold own_sel; rw [if_pos hc]] at kt
    refine XS.ifYes X0.here hx rfl (pc0 := 71) (pc' := 78) rfl (hb hby d8_71) rfl ((if0 _ _).trans (teq hc).1) (by decide) (by decide) ?_
    show Steps p.tables e below (T0.setTop (mkF m 78 Ls rest)) _
    refine XS.iconst X0.here hx rfl (hb hby d8_78) ?_
    exact kt
  · rw [show own_sel b0 (4 : Int32) = (4 : Int32) by unfold own_sel; rw [if_neg hc]] at kt
    refine XS.ifNo X0.here hx rfl (hb hby d8_71) rfl ((if0 _ _).trans (feq hc).1) ?_
    show Steps p.tables e below (T0.setTop (mkF m 74 Ls rest)) _
    refine XS.iconst X0.here hx rfl (hb hby d8_74) ?_
    show Steps p.tables e below (T0.setTop (mkF m 75 Ls (.int (4 : Int32) :: rest))) _
    refine XS.goto X0.here hx rfl (pc0 := 75) (pc' := 79) rfl (hb hby d8_75) (by decide) (by decide) ?_
    exact kt
theorem sel_8_83 {p : Program} {l : Launch} {e : Env} {R : Room} {s : State} {m : MethodId} {args : Array Value} {below : List Frame} {meth : Method} {c : Code} {T0 : State} {locs : List Loc} {cells slots : Nat} (X0 : Stand p l e R s m args below meth c T0 locs cells slots) (hx : p.tables.exec = Jvm.exec) (hby : c.code = method_6_code) (Ls : Array Slot) (b0 : Int32) (rest : List Value) :
    ∀ target, Steps p.tables e below (T0.setTop (mkF m 92 Ls (.int (own_selN b0 (8 : Int32)) :: rest))) target → Steps p.tables e below (T0.setTop (mkF m 83 Ls (.int b0 :: rest))) target := by
  intro target kt
  by_cases hc : b0 = (0 : Int32)
  · rw [show own_selN b0 (8 : Int32) = (8 : Int32) by unfold own_selN; rw [if_pos hc]] at kt
    refine XS.ifNo X0.here hx rfl (hb hby d8_83) rfl ((if0 _ _).trans (teq hc).2) ?_
    show Steps p.tables e below (T0.setTop (mkF m 86 Ls rest)) _
    refine XS.bipush X0.here hx rfl (hb hby d8_86) ?_
    show Steps p.tables e below (T0.setTop (mkF m 88 Ls (.int (8 : Int32) :: rest))) _
    refine XS.goto X0.here hx rfl (pc0 := 88) (pc' := 92) rfl (hb hby d8_88) (by decide) (by decide) ?_
    exact kt
  · rw [show own_selN b0 (8 : Int32) = (0 : Int32) by unfold own_selN; rw [if_neg hc]] at kt
    refine XS.ifYes X0.here hx rfl (pc0 := 83) (pc' := 91) rfl (hb hby d8_83) rfl ((if0 _ _).trans (feq hc).2) (by decide) (by decide) ?_
    show Steps p.tables e below (T0.setTop (mkF m 91 Ls rest)) _
    refine XS.iconst X0.here hx rfl (hb hby d8_91) ?_
    exact kt
theorem sel_8_102 {p : Program} {l : Launch} {e : Env} {R : Room} {s : State} {m : MethodId} {args : Array Value} {below : List Frame} {meth : Method} {c : Code} {T0 : State} {locs : List Loc} {cells slots : Nat} (X0 : Stand p l e R s m args below meth c T0 locs cells slots) (hx : p.tables.exec = Jvm.exec) (hby : c.code = method_6_code) (Ls : Array Slot) (b0 : Int32) (rest : List Value) :
    ∀ target, Steps p.tables e below (T0.setTop (mkF m 110 Ls (.int (own_sel b0 (1 : Int32)) :: rest))) target → Steps p.tables e below (T0.setTop (mkF m 102 Ls (.int b0 :: rest))) target := by
  intro target kt
  by_cases hc : b0 = (0 : Int32)
  · rw [show own_sel b0 (1 : Int32) = (0 : Int32) by unfold own_sel; rw [if_pos hc]] at kt
    refine XS.ifYes X0.here hx rfl (pc0 := 102) (pc' := 109) rfl (hb hby d8_102) rfl ((if0 _ _).trans (teq hc).1) (by decide) (by decide) ?_
    show Steps p.tables e below (T0.setTop (mkF m 109 Ls rest)) _
    refine XS.iconst X0.here hx rfl (hb hby d8_109) ?_
    exact kt
  · rw [show own_sel b0 (1 : Int32) = (1 : Int32) by unfold own_sel; rw [if_neg hc]] at kt
    refine XS.ifNo X0.here hx rfl (hb hby d8_102) rfl ((if0 _ _).trans (feq hc).1) ?_
    show Steps p.tables e below (T0.setTop (mkF m 105 Ls rest)) _
    refine XS.iconst X0.here hx rfl (hb hby d8_105) ?_
    show Steps p.tables e below (T0.setTop (mkF m 106 Ls (.int (1 : Int32) :: rest))) _
    refine XS.goto X0.here hx rfl (pc0 := 106) (pc' := 110) rfl (hb hby d8_106) (by decide) (by decide) ?_
    exact kt
theorem sel_8_117 {p : Program} {l : Launch} {e : Env} {R : Room} {s : State} {m : MethodId} {args : Array Value} {below : List Frame} {meth : Method} {c : Code} {T0 : State} {locs : List Loc} {cells slots : Nat} (X0 : Stand p l e R s m args below meth c T0 locs cells slots) (hx : p.tables.exec = Jvm.exec) (hby : c.code = method_6_code) (Ls : Array Slot) (b0 : Int32) (rest : List Value) :
    ∀ target, Steps p.tables e below (T0.setTop (mkF m 125 Ls (.int (own_sel b0 (2 : Int32)) :: rest))) target → Steps p.tables e below (T0.setTop (mkF m 117 Ls (.int b0 :: rest))) target := by
  intro target kt
  by_cases hc : b0 = (0 : Int32)
  · rw [show own_sel b0 (2 : Int32) = (0 : Int32) by unfold own_sel; rw [if_pos hc]] at kt
    refine XS.ifYes X0.here hx rfl (pc0 := 117) (pc' := 124) rfl (hb hby d8_117) rfl ((if0 _ _).trans (teq hc).1) (by decide) (by decide) ?_
    show Steps p.tables e below (T0.setTop (mkF m 124 Ls rest)) _
    refine XS.iconst X0.here hx rfl (hb hby d8_124) ?_
    exact kt
  · rw [show own_sel b0 (2 : Int32) = (2 : Int32) by unfold own_sel; rw [if_neg hc]] at kt
    refine XS.ifNo X0.here hx rfl (hb hby d8_117) rfl ((if0 _ _).trans (feq hc).1) ?_
    show Steps p.tables e below (T0.setTop (mkF m 120 Ls rest)) _
    refine XS.iconst X0.here hx rfl (hb hby d8_120) ?_
    show Steps p.tables e below (T0.setTop (mkF m 121 Ls (.int (2 : Int32) :: rest))) _
    refine XS.goto X0.here hx rfl (pc0 := 121) (pc' := 125) rfl (hb hby d8_121) (by decide) (by decide) ?_
    exact kt
theorem sel_8_133 {p : Program} {l : Launch} {e : Env} {R : Room} {s : State} {m : MethodId} {args : Array Value} {below : List Frame} {meth : Method} {c : Code} {T0 : State} {locs : List Loc} {cells slots : Nat} (X0 : Stand p l e R s m args below meth c T0 locs cells slots) (hx : p.tables.exec = Jvm.exec) (hby : c.code = method_6_code) (Ls : Array Slot) (b0 : Int32) (rest : List Value) :
    ∀ target, Steps p.tables e below (T0.setTop (mkF m 141 Ls (.int (own_sel b0 (4 : Int32)) :: rest))) target → Steps p.tables e below (T0.setTop (mkF m 133 Ls (.int b0 :: rest))) target := by
  intro target kt
  by_cases hc : b0 = (0 : Int32)
  · rw [show own_sel b0 (4 : Int32) = (0 : Int32) by unfold own_sel; rw [if_pos hc]] at kt
    refine XS.ifYes X0.here hx rfl (pc0 := 133) (pc' := 140) rfl (hb hby d8_133) rfl ((if0 _ _).trans (teq hc).1) (by decide) (by decide) ?_
    show Steps p.tables e below (T0.setTop (mkF m 140 Ls rest)) _
    refine XS.iconst X0.here hx rfl (hb hby d8_140) ?_
    exact kt
  · rw [show own_sel b0 (4 : Int32) = (4 : Int32) by unfold own_sel; rw [if_neg hc]] at kt
    refine XS.ifNo X0.here hx rfl (hb hby d8_133) rfl ((if0 _ _).trans (feq hc).1) ?_
    show Steps p.tables e below (T0.setTop (mkF m 136 Ls rest)) _
    refine XS.iconst X0.here hx rfl (hb hby d8_136) ?_
    show Steps p.tables e below (T0.setTop (mkF m 137 Ls (.int (4 : Int32) :: rest))) _
    refine XS.goto X0.here hx rfl (pc0 := 137) (pc' := 141) rfl (hb hby d8_137) (by decide) (by decide) ?_
    exact kt
theorem sel_8_146 {p : Program} {l : Launch} {e : Env} {R : Room} {s : State} {m : MethodId} {args : Array Value} {below : List Frame} {meth : Method} {c : Code} {T0 : State} {locs : List Loc} {cells slots : Nat} (X0 : Stand p l e R s m args below meth c T0 locs cells slots) (hx : p.tables.exec = Jvm.exec) (hby : c.code = method_6_code) (Ls : Array Slot) (b0 : Int32) (rest : List Value) :
    ∀ target, Steps p.tables e below (T0.setTop (mkF m 155 Ls (.int (own_sel b0 (8 : Int32)) :: rest))) target → Steps p.tables e below (T0.setTop (mkF m 146 Ls (.int b0 :: rest))) target := by
  intro target kt
  by_cases hc : b0 = (0 : Int32)
  · rw [show own_sel b0 (8 : Int32) = (0 : Int32) by unfold own_sel; rw [if_pos hc]] at kt
    refine XS.ifYes X0.here hx rfl (pc0 := 146) (pc' := 154) rfl (hb hby d8_146) rfl ((if0 _ _).trans (teq hc).1) (by decide) (by decide) ?_
    show Steps p.tables e below (T0.setTop (mkF m 154 Ls rest)) _
    refine XS.iconst X0.here hx rfl (hb hby d8_154) ?_
    exact kt
  · rw [show own_sel b0 (8 : Int32) = (8 : Int32) by unfold own_sel; rw [if_neg hc]] at kt
    refine XS.ifNo X0.here hx rfl (hb hby d8_146) rfl ((if0 _ _).trans (feq hc).1) ?_
    show Steps p.tables e below (T0.setTop (mkF m 149 Ls rest)) _
    refine XS.bipush X0.here hx rfl (hb hby d8_149) ?_
    show Steps p.tables e below (T0.setTop (mkF m 151 Ls (.int (8 : Int32) :: rest))) _
    refine XS.goto X0.here hx rfl (pc0 := 151) (pc' := 155) rfl (hb hby d8_151) (by decide) (by decide) ?_
    exact kt
def Q8 (Z : State) (q ps mm : Addr) (P : Nat → Addr) (kp km : ClassId) (l0 : List Nat) (h0 : Heap) (n0 : Nat) (v : Option Value) (h : Heap) (L : List Loc) : Prop := v = some (.int (1 : Int32)) ∧ Fr n0 L ∧ h0.size ≤ h.size ∧ ∃ a b c, own_sys Z h q ps mm P kp km l0.tail a b c
set_option maxRecDepth 65536 in
set_option maxHeartbeats 40000000 in
theorem rm8 (l : Launch) (Z : State) (a0 : Array Value) (hw : ∀ d ∈ tables_1, d.before a0 Z = true) (ws : List Jvm.Cond) (q : Addr) (ps : Addr) (mm : Addr) (h0 : Heap) (n0 : Nat) (Z0 : n0 ≤ h0.size) (P : Nat → Addr) (kp km : ClassId) (l0 : List Nat) (va vb vc : Int32) (hfx : own_fix n0 q ps mm P) (Y0 : own_sys Z h0 q ps mm P kp km l0 va vb vc) :
    MetFree l (⟨"com/example/bulkwire/bulkwire/server/TurnQueuePollPinLaw", "pollMatches", "(Lcom/example/bulkwire/bulkwire/server/TurnQueue;[Lcom/example/bulkwire/bulkwire/server/TurnQueue$Place;[I)Z"⟩ : MethodName) (head1 (Jvm.Cond.code (⟨"com/example/bulkwire/bulkwire/server/TurnQueuePollPinLaw", "pollMatches", "(Lcom/example/bulkwire/bulkwire/server/TurnQueue;[Lcom/example/bulkwire/bulkwire/server/TurnQueue$Place;[I)Z"⟩ : MethodName) method_6_code 6 (some .boolean) :: ws) ({ frames := 1, cells := 0, slots := 0, locals := 24 } : Room)) (fun a U => a = #[(.ref q), (.ref ps), (.ref mm)] ∧ Z.Warmed39 U.vm ∧ U.heap = h0) (fun _ _ _ _ _ => True) (fun _ U o U' => ∃ v L, o = .returned v ∧ Q8 Z q ps mm P kp km l0 h0 n0 v U'.heap L ∧ FrameEnd U o U' L ({ frames := 1, cells := 0, slots := 0, locals := 24 } : Room).cells ({ frames := 1, cells := 0, slots := 0, locals := 24 } : Room).slots) := by
  refine MetFree.of_bodySF (plainFor_of_name pn_8) hisR ?_
  intro p e s m args below meth c s₁ Bd hml0 hP hK
  obtain ⟨rfl, hZ, hh⟩ := hP
  have hx := Bd.exec
  have hby := Bd.bytes
  have hml : c.maxLocals = 6 := hml0
  have hown : s.vm.findClass "com/example/bulkwire/bulkwire/server/TurnQueuePollPinLaw" = some m.cls := findClass_of_methodNamed Bd.named
  have hnm := (name_of_methodNamed Bd.named Bd.method).1
  have X0 : Stand p l e ({ frames := 1, cells := 0, slots := 0, locals := 24 } : Room) s m #[(.ref q), (.ref ps), (.ref mm)] below meth c s₁ [] 0 0 := Stand.of_body Bd
  have e0 : s₁.heap = h0 := by rw [← hh, Bd.state]; rfl
  have N0 := Fr.nil n0
  have pre0 : ∀ t, Steps p.tables e below (s₁.setTop (mkF m 0 #[.val (.ref q), .val (.ref ps), .val (.ref mm), .unset, .unset, .unset] [])) t → Steps p.tables e below (s₁.setTop (entryFrame m #[(.ref q), (.ref ps), (.ref mm)] 6)) t := fun t k => castTop (ef_8 m q ps mm) k
  obtain ⟨ho, hr0, G0, B0, V0⟩ := Y0
  rcases l0 with _ | ⟨x, t⟩
  · have V0 : Arv Z h0 mm km .int 4 [.int va, .int vb, .int vc, .int (0 : Int32)] (.int 0) := V0
    obtain ⟨cq1, kq1, q1a, q1b, q1c⟩ := isOf hZ e0 G0.1
    obtain ⟨_, _, ⟨T1, L1, k1, n1⟩, -, X1, ⟨Lc1, hQ1, l1, y1, z1⟩, st1⟩ := X0.virtualBack hx (y := (⟨"com/example/bulkwire/bulkwire/server/TurnQueue", "poll", "()Lcom/example/bulkwire/bulkwire/server/Connection;"⟩ : MethodName)) (z := (⟨"com/example/bulkwire/bulkwire/server/TurnQueue", "poll", "()Lcom/example/bulkwire/bulkwire/server/Connection;"⟩ : MethodName)) hown (mvT hZ (hw _ (List.mem_of_getElem? (i := 46) rfl))) (mvT hZ (hw _ (List.mem_of_getElem? (i := 47) rfl))) (notFace_of_selects (args := #[]) (mvT hZ (hw _ (List.mem_of_getElem? (i := 49) rfl)))) (mvT hZ (hw _ (List.mem_of_getElem? (i := 49) rfl))) (mvT hZ (hw _ (List.mem_of_getElem? (i := 48) rfl))) (by decide) (backOf (W := 0) (rm9 l Z a0 hw [] q  h0 n0 (Nat.le_trans Z0 (Nat.le_refl h0.size)) P [] ps mm hfx ho G0) hZ (hw _ (List.mem_of_getElem? (i := 50) rfl)) (hw _ (List.mem_of_getElem? (i := 2) rfl)) (by decide) (by decide)) q1a q1c (g := (mkF m 1 #[.val (.ref q), .val (.ref ps), .val (.ref mm), .unset, .unset, .unset] [(.ref q)])) rfl (by rw [hml]; rfl) (Steps.refl _) (argsL := []) (rest := []) (lenOf pd_2 rfl) rfl (by show 2 * 0 + _ ≤ _; exact Nat.le_of_eq rfl) (hb hby d8_1) (fun _ _ => ⟨rfl, e0, (by decide : 0 + 0 ≤ _), (by decide : 0 + 0 ≤ _)⟩)
    dsimp only [Pt.U, Pt.locs, Pt.cells, Pt.slots] at X1 l1 y1 z1 st1 hQ1
    subst l1 y1 z1
    obtain ⟨rfl, N1q, K1, G1⟩ := hQ1
    have N1 := Fr.app N0 N1q
    have B1 := B0.keep K1 (ninS (Ne.symm (own_ne_av G0.1 (hw _ (List.mem_of_getElem? (i := 1) rfl)) B0)) (ninS (Ne.symm (own_ne_av (G0.2.2.2 0 (by decide)).1 (hw _ (List.mem_of_getElem? (i := 11) rfl)) B0)) (ninS (Ne.symm (own_ne_av (G0.2.2.2 1 (by decide)).1 (hw _ (List.mem_of_getElem? (i := 11) rfl)) B0)) (ninS (Ne.symm (own_ne_av (G0.2.2.2 2 (by decide)).1 (hw _ (List.mem_of_getElem? (i := 11) rfl)) B0)) nin0))))
    have V1 := V0.keep K1 (ninS (Ne.symm (own_ne_av G0.1 (hw _ (List.mem_of_getElem? (i := 1) rfl)) V0)) (ninS (Ne.symm (own_ne_av (G0.2.2.2 0 (by decide)).1 (hw _ (List.mem_of_getElem? (i := 11) rfl)) V0)) (ninS (Ne.symm (own_ne_av (G0.2.2.2 1 (by decide)).1 (hw _ (List.mem_of_getElem? (i := 11) rfl)) V0)) (ninS (Ne.symm (own_ne_av (G0.2.2.2 2 (by decide)).1 (hw _ (List.mem_of_getElem? (i := 11) rfl)) V0)) nin0))))
    have z1 : h0.size ≤ T1.heap.size := Nat.le_trans (Nat.le_refl h0.size) K1.1
    obtain ⟨cl2, Ar2, qq2, S2, Nn2, H2, Gg2⟩ := id V1
    have hin2 : ¬ ((3 : Int32) < 0 ∨ cl2.slots.size ≤ ((3 : Int32)).toNatClampNeg) := inb_of S2 ⟨by decide, by decide⟩
    have Vt : Arv Z T1.heap mm km .int 4 [(.int va), (.int vb), (.int vc), .int (Int32.ofNat ([] : List Nat).length)] (.int 0) := V1
    obtain ⟨_, _, ⟨T3, L3, k3, n3⟩, -, X3, ⟨Lc3, hQ3, l3, y3, z3⟩, st3⟩ := Jvm.LawKit.callS X1 hx (y := (⟨"com/example/bulkwire/bulkwire/server/TurnQueuePollPinLaw", "contains", "([II)Z"⟩ : MethodName)) hown (mvT hZ (hw _ (List.mem_of_getElem? (i := 40) rfl))) (mvT hZ (hw _ (List.mem_of_getElem? (i := 41) rfl))) (mvT hZ (hw _ (List.mem_of_getElem? (i := 23) rfl))) (mvT hZ (hw _ (List.mem_of_getElem? (i := 42) rfl))) (by decide) (backOf (W := 0) (rm7 l Z a0 hw [] mm (0 : Int32)  T1.heap n0 (Nat.le_trans Z0 z1) km va vb vc (Int32.ofNat ([] : List Nat).length) Vt) hZ (hw _ (List.mem_of_getElem? (i := 42) rfl)) (hw _ (List.mem_of_getElem? (i := 23) rfl)) (by decide) (by decide)) (g := (mkF m 41 #[.val (.ref q), .val (.ref ps), .val (.ref mm), .val (.int (1 : Int32)), .unset, .unset] [(.int (0 : Int32)), (.ref mm)])) rfl (by rw [hml]; rfl) (argsL := [(.ref mm), (.int (0 : Int32))]) (rest := []) (lenOf pd_1 rfl) rfl (by show 2 * 0 + _ ≤ _; exact Nat.le_of_eq rfl) (hb hby d8_41) (fun _ _ => ⟨rfl, rfl, (by decide : 0 + 0 ≤ _), (by decide : 0 + 0 ≤ _)⟩)
    dsimp only [Pt.U, Pt.locs, Pt.cells, Pt.slots] at X3 l3 y3 z3 st3 hQ3
    subst l3 y3 z3
    obtain ⟨rfl, N3q, e3⟩ := hQ3
    have N3 := Fr.app N1 N3q
    obtain ⟨_, _, ⟨T4, L4, k4, n4⟩, -, X4, ⟨Lc4, hQ4, l4, y4, z4⟩, st4⟩ := Jvm.LawKit.callS X3 hx (y := (⟨"com/example/bulkwire/bulkwire/server/TurnQueuePollPinLaw", "contains", "([II)Z"⟩ : MethodName)) hown (mvT hZ (hw _ (List.mem_of_getElem? (i := 40) rfl))) (mvT hZ (hw _ (List.mem_of_getElem? (i := 41) rfl))) (mvT hZ (hw _ (List.mem_of_getElem? (i := 23) rfl))) (mvT hZ (hw _ (List.mem_of_getElem? (i := 42) rfl))) (by decide) (backOf (W := 1) (rm7 l Z a0 hw [] mm (1 : Int32)  T1.heap n0 (Nat.le_trans Z0 z1) km va vb vc (Int32.ofNat ([] : List Nat).length) Vt) hZ (hw _ (List.mem_of_getElem? (i := 42) rfl)) (hw _ (List.mem_of_getElem? (i := 23) rfl)) (by decide) (by decide)) (g := (mkF m 54 #[.val (.ref q), .val (.ref ps), .val (.ref mm), .val (.int (1 : Int32)), .unset, .unset] [(.int (1 : Int32)), (.ref mm), (.int (own_sel (own_cn va vb vc (Int32.ofNat ([] : List Nat).length) (0 : Int32)) (1 : Int32)))])) rfl (by rw [hml]; rfl) (argsL := [(.ref mm), (.int (1 : Int32))]) (rest := [(.int (own_sel (own_cn va vb vc (Int32.ofNat ([] : List Nat).length) (0 : Int32)) (1 : Int32)))]) (lenOf pd_1 rfl) rfl (by show 2 * 0 + _ ≤ _; exact Nat.le_of_eq rfl) (hb hby d8_54) (fun _ _ => ⟨rfl, e3, (by decide : 0 + 0 ≤ _), (by decide : 0 + 0 ≤ _)⟩)
    dsimp only [Pt.U, Pt.locs, Pt.cells, Pt.slots] at X4 l4 y4 z4 st4 hQ4
    subst l4 y4 z4
    obtain ⟨rfl, N4q, e4⟩ := hQ4
    have N4 := Fr.app N3 N4q
    obtain ⟨_, _, ⟨T5, L5, k5, n5⟩, -, X5, ⟨Lc5, hQ5, l5, y5, z5⟩, st5⟩ := Jvm.LawKit.callS X4 hx (y := (⟨"com/example/bulkwire/bulkwire/server/TurnQueuePollPinLaw", "contains", "([II)Z"⟩ : MethodName)) hown (mvT hZ (hw _ (List.mem_of_getElem? (i := 40) rfl))) (mvT hZ (hw _ (List.mem_of_getElem? (i := 41) rfl))) (mvT hZ (hw _ (List.mem_of_getElem? (i := 23) rfl))) (mvT hZ (hw _ (List.mem_of_getElem? (i := 42) rfl))) (by decide) (backOf (W := 1) (rm7 l Z a0 hw [] mm (2 : Int32)  T1.heap n0 (Nat.le_trans Z0 z1) km va vb vc (Int32.ofNat ([] : List Nat).length) Vt) hZ (hw _ (List.mem_of_getElem? (i := 42) rfl)) (hw _ (List.mem_of_getElem? (i := 23) rfl)) (by decide) (by decide)) (g := (mkF m 68 #[.val (.ref q), .val (.ref ps), .val (.ref mm), .val (.int (1 : Int32)), .unset, .unset] [(.int (2 : Int32)), (.ref mm), (.int ((own_sel (own_cn va vb vc (Int32.ofNat ([] : List Nat).length) (0 : Int32)) (1 : Int32)) ||| (own_sel (own_cn va vb vc (Int32.ofNat ([] : List Nat).length) (1 : Int32)) (2 : Int32))))])) rfl (by rw [hml]; rfl) (argsL := [(.ref mm), (.int (2 : Int32))]) (rest := [(.int ((own_sel (own_cn va vb vc (Int32.ofNat ([] : List Nat).length) (0 : Int32)) (1 : Int32)) ||| (own_sel (own_cn va vb vc (Int32.ofNat ([] : List Nat).length) (1 : Int32)) (2 : Int32))))]) (lenOf pd_1 rfl) rfl (by show 2 * 0 + _ ≤ _; exact Nat.le_of_eq rfl) (hb hby d8_68) (fun _ _ => ⟨rfl, e4, (by decide : 0 + 0 ≤ _), (by decide : 0 + 0 ≤ _)⟩)
    dsimp only [Pt.U, Pt.locs, Pt.cells, Pt.slots] at X5 l5 y5 z5 st5 hQ5
    subst l5 y5 z5
    obtain ⟨rfl, N5q, e5⟩ := hQ5
    have N5 := Fr.app N4 N5q
    obtain ⟨cl6, Ar6, qq6, S6, Nn6, H6, Gg6⟩ := id Vt
    have hin6 : ¬ ((3 : Int32) < 0 ∨ cl6.slots.size ≤ ((3 : Int32)).toNatClampNeg) := inb_of S6 ⟨by decide, by decide⟩
    obtain ⟨cl7, Ar7, qq7, S7, Nn7, H7, Gg7⟩ := id B1
    have hin7 : ¬ ((0 : Int32) < 0 ∨ cl7.slots.size ≤ ((0 : Int32)).toNatClampNeg) := inb_of S7 ⟨by decide, by decide⟩
    obtain ⟨cq8, kq8, q8a, q8b, q8c⟩ := isOf hZ e5 G1.1
    obtain ⟨_, _, ⟨T8, L8, k8, n8⟩, -, X8, ⟨Lc8, hQ8, l8, y8, z8⟩, st8⟩ := X5.virtualBack hx (y := (⟨"com/example/bulkwire/bulkwire/server/TurnQueue", "holds", "(Lcom/example/bulkwire/bulkwire/server/TurnQueue$Place;)Z"⟩ : MethodName)) (z := (⟨"com/example/bulkwire/bulkwire/server/TurnQueue", "holds", "(Lcom/example/bulkwire/bulkwire/server/TurnQueue$Place;)Z"⟩ : MethodName)) hown (mvT hZ (hw _ (List.mem_of_getElem? (i := 54) rfl))) (mvT hZ (hw _ (List.mem_of_getElem? (i := 55) rfl))) (notFace_of_selects (args := #[]) (mvT hZ (hw _ (List.mem_of_getElem? (i := 57) rfl)))) (mvT hZ (hw _ (List.mem_of_getElem? (i := 57) rfl))) (mvT hZ (hw _ (List.mem_of_getElem? (i := 56) rfl))) (by decide) (backOf (W := 0) (rm10 l Z a0 hw [] q (P 0)  T1.heap n0 (Nat.le_trans Z0 z1) P [] 0 (by decide) rfl G1) hZ (hw _ (List.mem_of_getElem? (i := 58) rfl)) (hw _ (List.mem_of_getElem? (i := 2) rfl)) (by decide) (by decide)) q8a q8c (g := (mkF m 99 #[.val (.ref q), .val (.ref ps), .val (.ref mm), .val (.int (1 : Int32)), .val (.int ((((own_sel (own_cn va vb vc (Int32.ofNat ([] : List Nat).length) (0 : Int32)) (1 : Int32)) ||| (own_sel (own_cn va vb vc (Int32.ofNat ([] : List Nat).length) (1 : Int32)) (2 : Int32))) ||| (own_sel (own_cn va vb vc (Int32.ofNat ([] : List Nat).length) (2 : Int32)) (4 : Int32))) ||| (own_selN (Int32.ofNat ([] : List Nat).length) (8 : Int32)))), .unset] [(.ref (P 0)), (.ref q)])) rfl (by rw [hml]; rfl) (Steps.refl _) (argsL := [(.ref (P 0))]) (rest := []) (lenOf pd_3 rfl) rfl (by show 2 * 0 + _ ≤ _; exact Nat.le_of_eq rfl) (hb hby d8_99) (fun _ _ => ⟨rfl, e5, (by decide : 0 + 0 ≤ _), (by decide : 0 + 0 ≤ _)⟩)
    dsimp only [Pt.U, Pt.locs, Pt.cells, Pt.slots] at X8 l8 y8 z8 st8 hQ8
    subst l8 y8 z8
    obtain ⟨rfl, N8q, e8⟩ := hQ8
    have N8 := Fr.app N5 N8q
    obtain ⟨cl9, Ar9, qq9, S9, Nn9, H9, Gg9⟩ := id B1
    have hin9 : ¬ ((1 : Int32) < 0 ∨ cl9.slots.size ≤ ((1 : Int32)).toNatClampNeg) := inb_of S9 ⟨by decide, by decide⟩
    obtain ⟨cq10, kq10, q10a, q10b, q10c⟩ := isOf hZ e8 G1.1
    obtain ⟨_, _, ⟨T10, L10, k10, n10⟩, -, X10, ⟨Lc10, hQ10, l10, y10, z10⟩, st10⟩ := X8.virtualBack hx (y := (⟨"com/example/bulkwire/bulkwire/server/TurnQueue", "holds", "(Lcom/example/bulkwire/bulkwire/server/TurnQueue$Place;)Z"⟩ : MethodName)) (z := (⟨"com/example/bulkwire/bulkwire/server/TurnQueue", "holds", "(Lcom/example/bulkwire/bulkwire/server/TurnQueue$Place;)Z"⟩ : MethodName)) hown (mvT hZ (hw _ (List.mem_of_getElem? (i := 54) rfl))) (mvT hZ (hw _ (List.mem_of_getElem? (i := 55) rfl))) (notFace_of_selects (args := #[]) (mvT hZ (hw _ (List.mem_of_getElem? (i := 57) rfl)))) (mvT hZ (hw _ (List.mem_of_getElem? (i := 57) rfl))) (mvT hZ (hw _ (List.mem_of_getElem? (i := 56) rfl))) (by decide) (backOf (W := 1) (rm10 l Z a0 hw [] q (P 1)  T1.heap n0 (Nat.le_trans Z0 z1) P [] 1 (by decide) rfl G1) hZ (hw _ (List.mem_of_getElem? (i := 58) rfl)) (hw _ (List.mem_of_getElem? (i := 2) rfl)) (by decide) (by decide)) q10a q10c (g := (mkF m 114 #[.val (.ref q), .val (.ref ps), .val (.ref mm), .val (.int (1 : Int32)), .val (.int ((((own_sel (own_cn va vb vc (Int32.ofNat ([] : List Nat).length) (0 : Int32)) (1 : Int32)) ||| (own_sel (own_cn va vb vc (Int32.ofNat ([] : List Nat).length) (1 : Int32)) (2 : Int32))) ||| (own_sel (own_cn va vb vc (Int32.ofNat ([] : List Nat).length) (2 : Int32)) (4 : Int32))) ||| (own_selN (Int32.ofNat ([] : List Nat).length) (8 : Int32)))), .unset] [(.ref (P 1)), (.ref q), (.int (own_sel (own_in [] 0) (1 : Int32)))])) rfl (by rw [hml]; rfl) (Steps.refl _) (argsL := [(.ref (P 1))]) (rest := [(.int (own_sel (own_in [] 0) (1 : Int32)))]) (lenOf pd_3 rfl) rfl (by show 2 * 0 + _ ≤ _; exact Nat.le_of_eq rfl) (hb hby d8_114) (fun _ _ => ⟨rfl, e8, (by decide : 0 + 0 ≤ _), (by decide : 0 + 0 ≤ _)⟩)
    dsimp only [Pt.U, Pt.locs, Pt.cells, Pt.slots] at X10 l10 y10 z10 st10 hQ10
    subst l10 y10 z10
    obtain ⟨rfl, N10q, e10⟩ := hQ10
    have N10 := Fr.app N8 N10q
    obtain ⟨cl11, Ar11, qq11, S11, Nn11, H11, Gg11⟩ := id B1
    have hin11 : ¬ ((2 : Int32) < 0 ∨ cl11.slots.size ≤ ((2 : Int32)).toNatClampNeg) := inb_of S11 ⟨by decide, by decide⟩
    obtain ⟨cq12, kq12, q12a, q12b, q12c⟩ := isOf hZ e10 G1.1
    obtain ⟨_, _, ⟨T12, L12, k12, n12⟩, -, X12, ⟨Lc12, hQ12, l12, y12, z12⟩, st12⟩ := X10.virtualBack hx (y := (⟨"com/example/bulkwire/bulkwire/server/TurnQueue", "holds", "(Lcom/example/bulkwire/bulkwire/server/TurnQueue$Place;)Z"⟩ : MethodName)) (z := (⟨"com/example/bulkwire/bulkwire/server/TurnQueue", "holds", "(Lcom/example/bulkwire/bulkwire/server/TurnQueue$Place;)Z"⟩ : MethodName)) hown (mvT hZ (hw _ (List.mem_of_getElem? (i := 54) rfl))) (mvT hZ (hw _ (List.mem_of_getElem? (i := 55) rfl))) (notFace_of_selects (args := #[]) (mvT hZ (hw _ (List.mem_of_getElem? (i := 57) rfl)))) (mvT hZ (hw _ (List.mem_of_getElem? (i := 57) rfl))) (mvT hZ (hw _ (List.mem_of_getElem? (i := 56) rfl))) (by decide) (backOf (W := 1) (rm10 l Z a0 hw [] q (P 2)  T1.heap n0 (Nat.le_trans Z0 z1) P [] 2 (by decide) rfl G1) hZ (hw _ (List.mem_of_getElem? (i := 58) rfl)) (hw _ (List.mem_of_getElem? (i := 2) rfl)) (by decide) (by decide)) q12a q12c (g := (mkF m 130 #[.val (.ref q), .val (.ref ps), .val (.ref mm), .val (.int (1 : Int32)), .val (.int ((((own_sel (own_cn va vb vc (Int32.ofNat ([] : List Nat).length) (0 : Int32)) (1 : Int32)) ||| (own_sel (own_cn va vb vc (Int32.ofNat ([] : List Nat).length) (1 : Int32)) (2 : Int32))) ||| (own_sel (own_cn va vb vc (Int32.ofNat ([] : List Nat).length) (2 : Int32)) (4 : Int32))) ||| (own_selN (Int32.ofNat ([] : List Nat).length) (8 : Int32)))), .unset] [(.ref (P 2)), (.ref q), (.int ((own_sel (own_in [] 0) (1 : Int32)) ||| (own_sel (own_in [] 1) (2 : Int32))))])) rfl (by rw [hml]; rfl) (Steps.refl _) (argsL := [(.ref (P 2))]) (rest := [(.int ((own_sel (own_in [] 0) (1 : Int32)) ||| (own_sel (own_in [] 1) (2 : Int32))))]) (lenOf pd_3 rfl) rfl (by show 2 * 0 + _ ≤ _; exact Nat.le_of_eq rfl) (hb hby d8_130) (fun _ _ => ⟨rfl, e10, (by decide : 0 + 0 ≤ _), (by decide : 0 + 0 ≤ _)⟩)
    dsimp only [Pt.U, Pt.locs, Pt.cells, Pt.slots] at X12 l12 y12 z12 st12 hQ12
    subst l12 y12 z12
    obtain ⟨rfl, N12q, e12⟩ := hQ12
    have N12 := Fr.app N10 N12q
    obtain ⟨cq13, kq13, q13a, q13b, q13c⟩ := isOf hZ e12 G1.1
    obtain ⟨_, _, ⟨T13, L13, k13, n13⟩, -, X13, ⟨Lc13, hQ13, l13, y13, z13⟩, st13⟩ := X12.virtualBack hx (y := (⟨"com/example/bulkwire/bulkwire/server/TurnQueue", "isEmpty", "()Z"⟩ : MethodName)) (z := (⟨"com/example/bulkwire/bulkwire/server/TurnQueue", "isEmpty", "()Z"⟩ : MethodName)) hown (mvT hZ (hw _ (List.mem_of_getElem? (i := 59) rfl))) (mvT hZ (hw _ (List.mem_of_getElem? (i := 60) rfl))) (notFace_of_selects (args := #[]) (mvT hZ (hw _ (List.mem_of_getElem? (i := 62) rfl)))) (mvT hZ (hw _ (List.mem_of_getElem? (i := 62) rfl))) (mvT hZ (hw _ (List.mem_of_getElem? (i := 61) rfl))) (by decide) (backOf (W := 1) (rm11 l Z a0 hw [] q  T1.heap n0 (Nat.le_trans Z0 z1) P [] G1) hZ (hw _ (List.mem_of_getElem? (i := 63) rfl)) (hw _ (List.mem_of_getElem? (i := 2) rfl)) (by decide) (by decide)) q13a q13c (g := (mkF m 143 #[.val (.ref q), .val (.ref ps), .val (.ref mm), .val (.int (1 : Int32)), .val (.int ((((own_sel (own_cn va vb vc (Int32.ofNat ([] : List Nat).length) (0 : Int32)) (1 : Int32)) ||| (own_sel (own_cn va vb vc (Int32.ofNat ([] : List Nat).length) (1 : Int32)) (2 : Int32))) ||| (own_sel (own_cn va vb vc (Int32.ofNat ([] : List Nat).length) (2 : Int32)) (4 : Int32))) ||| (own_selN (Int32.ofNat ([] : List Nat).length) (8 : Int32)))), .unset] [(.ref q), (.int (((own_sel (own_in [] 0) (1 : Int32)) ||| (own_sel (own_in [] 1) (2 : Int32))) ||| (own_sel (own_in [] 2) (4 : Int32))))])) rfl (by rw [hml]; rfl) (Steps.refl _) (argsL := []) (rest := [(.int (((own_sel (own_in [] 0) (1 : Int32)) ||| (own_sel (own_in [] 1) (2 : Int32))) ||| (own_sel (own_in [] 2) (4 : Int32))))]) (lenOf pd_4 rfl) rfl (by show 2 * 0 + _ ≤ _; exact Nat.le_of_eq rfl) (hb hby d8_143) (fun _ _ => ⟨rfl, e12, (by decide : 0 + 0 ≤ _), (by decide : 0 + 0 ≤ _)⟩)
    dsimp only [Pt.U, Pt.locs, Pt.cells, Pt.slots] at X13 l13 y13 z13 st13 hQ13
    subst l13 y13 z13
    obtain ⟨rfl, N13q, e13⟩ := hQ13
    have N13 := Fr.app N12 N13q
    obtain ⟨fs, hr, hrun, hended, hW, hsame⟩ := X13.leave (v := some (.int (1 : Int32))) (fun h => by rw [Bd.returns] at h; cases h)
    refine ⟨_, _, pre0 _ ?_, hrun, hended, _, _, rfl, ?_, ⟨_, rfl⟩, hW, hsame.mono (by decide) (by decide)⟩
    · show Steps p.tables e below (s₁.setTop (mkF m 0 #[.val (.ref q), .val (.ref ps), .val (.ref mm), .unset, .unset, .unset] [])) _
      refine XS.aloadN X0.here hx rfl (hb hby d8_0) rfl rfl ?_
      show Steps p.tables e below (s₁.setTop (mkF m 1 #[.val (.ref q), .val (.ref ps), .val (.ref mm), .unset, .unset, .unset] [(.ref q)])) _
      refine st1.trans ?_
      show Steps p.tables e below (T1.setTop (mkF m 4 #[.val (.ref q), .val (.ref ps), .val (.ref mm), .unset, .unset, .unset] [.null])) _
      refine XS.ifnonnullNo X1.here hx rfl (hb hby d8_4) rfl ?_
      show Steps p.tables e below (T1.setTop (mkF m 7 #[.val (.ref q), .val (.ref ps), .val (.ref mm), .unset, .unset, .unset] [])) _
      refine XS.iconst X1.here hx rfl (hb hby d8_7) ?_
      show Steps p.tables e below (T1.setTop (mkF m 8 #[.val (.ref q), .val (.ref ps), .val (.ref mm), .unset, .unset, .unset] [(.int (1 : Int32))])) _
      refine XS.goto X1.here hx rfl (pc0 := 8) (pc' := 12) rfl (hb hby d8_8) (by decide) (by decide) ?_
      show Steps p.tables e below (T1.setTop (mkF m 12 #[.val (.ref q), .val (.ref ps), .val (.ref mm), .unset, .unset, .unset] [(.int (1 : Int32))])) _
      refine XS.istoreN X1.here hx rfl (hb hby d8_12) rfl (l' := #[.val (.ref q), .val (.ref ps), .val (.ref mm), .val (.int (1 : Int32)), .unset, .unset]) rfl ?_
      show Steps p.tables e below (T1.setTop (mkF m 13 #[.val (.ref q), .val (.ref ps), .val (.ref mm), .val (.int (1 : Int32)), .unset, .unset] [])) _
      refine XS.aloadN X1.here hx rfl (hb hby d8_13) rfl rfl ?_
      show Steps p.tables e below (T1.setTop (mkF m 14 #[.val (.ref q), .val (.ref ps), .val (.ref mm), .val (.int (1 : Int32)), .unset, .unset] [(.ref mm)])) _
      refine XS.iconst X1.here hx rfl (hb hby d8_14) ?_
      show Steps p.tables e below (T1.setTop (mkF m 15 #[.val (.ref q), .val (.ref ps), .val (.ref mm), .val (.int (1 : Int32)), .unset, .unset] [(.int (3 : Int32)), (.ref mm)])) _
      refine X1.iaload hx (j := (3 : Int32)) (v := (.int (0 : Int32))) Ar2.1 (State.isArrayOf_alike hZ.alike Ar2.2.1) Ar2.2.2 hin2 (Has.at H2 hin2 rfl) (g := (mkF m 15 #[.val (.ref q), .val (.ref ps), .val (.ref mm), .val (.int (1 : Int32)), .unset, .unset] [(.int (3 : Int32)), (.ref mm)])) rfl rfl (hb hby d8_15) _ ?_
      show Steps p.tables e below (T1.setTop (mkF m 16 #[.val (.ref q), .val (.ref ps), .val (.ref mm), .val (.int (1 : Int32)), .unset, .unset] [(.int (0 : Int32))])) _
      refine XS.ifYes X1.here hx rfl (pc0 := 16) (pc' := 39) rfl (hb hby d8_16) rfl ((if0 _ _).trans (flt (by decide : ¬ ((0 : Int32) < (0 : Int32)))).2.2.2) (by decide) (by decide) ?_
      show Steps p.tables e below (T1.setTop (mkF m 39 #[.val (.ref q), .val (.ref ps), .val (.ref mm), .val (.int (1 : Int32)), .unset, .unset] [])) _
      refine XS.aloadN X1.here hx rfl (hb hby d8_39) rfl rfl ?_
      show Steps p.tables e below (T1.setTop (mkF m 40 #[.val (.ref q), .val (.ref ps), .val (.ref mm), .val (.int (1 : Int32)), .unset, .unset] [(.ref mm)])) _
      refine XS.iconst X1.here hx rfl (hb hby d8_40) ?_
      show Steps p.tables e below (T1.setTop (mkF m 41 #[.val (.ref q), .val (.ref ps), .val (.ref mm), .val (.int (1 : Int32)), .unset, .unset] [(.int (0 : Int32)), (.ref mm)])) _
      refine st3 _ ?_
      show Steps p.tables e below (T3.setTop (mkF m 44 #[.val (.ref q), .val (.ref ps), .val (.ref mm), .val (.int (1 : Int32)), .unset, .unset] [(.int (own_cn va vb vc (Int32.ofNat ([] : List Nat).length) (0 : Int32)))])) _
      refine sel_8_44 X3 hx hby _ _ _ _ ?_
      show Steps p.tables e below (T3.setTop (mkF m 52 #[.val (.ref q), .val (.ref ps), .val (.ref mm), .val (.int (1 : Int32)), .unset, .unset] [(.int (own_sel (own_cn va vb vc (Int32.ofNat ([] : List Nat).length) (0 : Int32)) (1 : Int32)))])) _
      refine XS.aloadN X3.here hx rfl (hb hby d8_52) rfl rfl ?_
      show Steps p.tables e below (T3.setTop (mkF m 53 #[.val (.ref q), .val (.ref ps), .val (.ref mm), .val (.int (1 : Int32)), .unset, .unset] [(.ref mm), (.int (own_sel (own_cn va vb vc (Int32.ofNat ([] : List Nat).length) (0 : Int32)) (1 : Int32)))])) _
      refine XS.iconst X3.here hx rfl (hb hby d8_53) ?_
      show Steps p.tables e below (T3.setTop (mkF m 54 #[.val (.ref q), .val (.ref ps), .val (.ref mm), .val (.int (1 : Int32)), .unset, .unset] [(.int (1 : Int32)), (.ref mm), (.int (own_sel (own_cn va vb vc (Int32.ofNat ([] : List Nat).length) (0 : Int32)) (1 : Int32)))])) _
      refine st4 _ ?_
      show Steps p.tables e below (T4.setTop (mkF m 57 #[.val (.ref q), .val (.ref ps), .val (.ref mm), .val (.int (1 : Int32)), .unset, .unset] [(.int (own_cn va vb vc (Int32.ofNat ([] : List Nat).length) (1 : Int32))), (.int (own_sel (own_cn va vb vc (Int32.ofNat ([] : List Nat).length) (0 : Int32)) (1 : Int32)))])) _
      refine sel_8_57 X4 hx hby _ _ _ _ ?_
      show Steps p.tables e below (T4.setTop (mkF m 65 #[.val (.ref q), .val (.ref ps), .val (.ref mm), .val (.int (1 : Int32)), .unset, .unset] [(.int (own_sel (own_cn va vb vc (Int32.ofNat ([] : List Nat).length) (1 : Int32)) (2 : Int32))), (.int (own_sel (own_cn va vb vc (Int32.ofNat ([] : List Nat).length) (0 : Int32)) (1 : Int32)))])) _
      refine XS.ior X4.here hx rfl (hb hby d8_65) rfl ?_
      show Steps p.tables e below (T4.setTop (mkF m 66 #[.val (.ref q), .val (.ref ps), .val (.ref mm), .val (.int (1 : Int32)), .unset, .unset] [(.int ((own_sel (own_cn va vb vc (Int32.ofNat ([] : List Nat).length) (0 : Int32)) (1 : Int32)) ||| (own_sel (own_cn va vb vc (Int32.ofNat ([] : List Nat).length) (1 : Int32)) (2 : Int32))))])) _
      refine XS.aloadN X4.here hx rfl (hb hby d8_66) rfl rfl ?_
      show Steps p.tables e below (T4.setTop (mkF m 67 #[.val (.ref q), .val (.ref ps), .val (.ref mm), .val (.int (1 : Int32)), .unset, .unset] [(.ref mm), (.int ((own_sel (own_cn va vb vc (Int32.ofNat ([] : List Nat).length) (0 : Int32)) (1 : Int32)) ||| (own_sel (own_cn va vb vc (Int32.ofNat ([] : List Nat).length) (1 : Int32)) (2 : Int32))))])) _
      refine XS.iconst X4.here hx rfl (hb hby d8_67) ?_
      show Steps p.tables e below (T4.setTop (mkF m 68 #[.val (.ref q), .val (.ref ps), .val (.ref mm), .val (.int (1 : Int32)), .unset, .unset] [(.int (2 : Int32)), (.ref mm), (.int ((own_sel (own_cn va vb vc (Int32.ofNat ([] : List Nat).length) (0 : Int32)) (1 : Int32)) ||| (own_sel (own_cn va vb vc (Int32.ofNat ([] : List Nat).length) (1 : Int32)) (2 : Int32))))])) _
      refine st5 _ ?_
      show Steps p.tables e below (T5.setTop (mkF m 71 #[.val (.ref q), .val (.ref ps), .val (.ref mm), .val (.int (1 : Int32)), .unset, .unset] [(.int (own_cn va vb vc (Int32.ofNat ([] : List Nat).length) (2 : Int32))), (.int ((own_sel (own_cn va vb vc (Int32.ofNat ([] : List Nat).length) (0 : Int32)) (1 : Int32)) ||| (own_sel (own_cn va vb vc (Int32.ofNat ([] : List Nat).length) (1 : Int32)) (2 : Int32))))])) _
      refine sel_8_71 X5 hx hby _ _ _ _ ?_
      show Steps p.tables e below (T5.setTop (mkF m 79 #[.val (.ref q), .val (.ref ps), .val (.ref mm), .val (.int (1 : Int32)), .unset, .unset] [(.int (own_sel (own_cn va vb vc (Int32.ofNat ([] : List Nat).length) (2 : Int32)) (4 : Int32))), (.int ((own_sel (own_cn va vb vc (Int32.ofNat ([] : List Nat).length) (0 : Int32)) (1 : Int32)) ||| (own_sel (own_cn va vb vc (Int32.ofNat ([] : List Nat).length) (1 : Int32)) (2 : Int32))))])) _
      refine XS.ior X5.here hx rfl (hb hby d8_79) rfl ?_
      show Steps p.tables e below (T5.setTop (mkF m 80 #[.val (.ref q), .val (.ref ps), .val (.ref mm), .val (.int (1 : Int32)), .unset, .unset] [(.int (((own_sel (own_cn va vb vc (Int32.ofNat ([] : List Nat).length) (0 : Int32)) (1 : Int32)) ||| (own_sel (own_cn va vb vc (Int32.ofNat ([] : List Nat).length) (1 : Int32)) (2 : Int32))) ||| (own_sel (own_cn va vb vc (Int32.ofNat ([] : List Nat).length) (2 : Int32)) (4 : Int32))))])) _
      refine XS.aloadN X5.here hx rfl (hb hby d8_80) rfl rfl ?_
      show Steps p.tables e below (T5.setTop (mkF m 81 #[.val (.ref q), .val (.ref ps), .val (.ref mm), .val (.int (1 : Int32)), .unset, .unset] [(.ref mm), (.int (((own_sel (own_cn va vb vc (Int32.ofNat ([] : List Nat).length) (0 : Int32)) (1 : Int32)) ||| (own_sel (own_cn va vb vc (Int32.ofNat ([] : List Nat).length) (1 : Int32)) (2 : Int32))) ||| (own_sel (own_cn va vb vc (Int32.ofNat ([] : List Nat).length) (2 : Int32)) (4 : Int32))))])) _
      refine XS.iconst X5.here hx rfl (hb hby d8_81) ?_
      show Steps p.tables e below (T5.setTop (mkF m 82 #[.val (.ref q), .val (.ref ps), .val (.ref mm), .val (.int (1 : Int32)), .unset, .unset] [(.int (3 : Int32)), (.ref mm), (.int (((own_sel (own_cn va vb vc (Int32.ofNat ([] : List Nat).length) (0 : Int32)) (1 : Int32)) ||| (own_sel (own_cn va vb vc (Int32.ofNat ([] : List Nat).length) (1 : Int32)) (2 : Int32))) ||| (own_sel (own_cn va vb vc (Int32.ofNat ([] : List Nat).length) (2 : Int32)) (4 : Int32))))])) _
      refine X5.iaload hx (j := (3 : Int32)) (v := (.int (Int32.ofNat ([] : List Nat).length))) (by rw [e5]; exact Ar6.1) (State.isArrayOf_alike hZ.alike Ar6.2.1) Ar6.2.2 hin6 (Has.at H6 hin6 rfl) (g := (mkF m 82 #[.val (.ref q), .val (.ref ps), .val (.ref mm), .val (.int (1 : Int32)), .unset, .unset] [(.int (3 : Int32)), (.ref mm), (.int (((own_sel (own_cn va vb vc (Int32.ofNat ([] : List Nat).length) (0 : Int32)) (1 : Int32)) ||| (own_sel (own_cn va vb vc (Int32.ofNat ([] : List Nat).length) (1 : Int32)) (2 : Int32))) ||| (own_sel (own_cn va vb vc (Int32.ofNat ([] : List Nat).length) (2 : Int32)) (4 : Int32))))])) rfl rfl (hb hby d8_82) _ ?_
      show Steps p.tables e below (T5.setTop (mkF m 83 #[.val (.ref q), .val (.ref ps), .val (.ref mm), .val (.int (1 : Int32)), .unset, .unset] [(.int (Int32.ofNat ([] : List Nat).length)), (.int (((own_sel (own_cn va vb vc (Int32.ofNat ([] : List Nat).length) (0 : Int32)) (1 : Int32)) ||| (own_sel (own_cn va vb vc (Int32.ofNat ([] : List Nat).length) (1 : Int32)) (2 : Int32))) ||| (own_sel (own_cn va vb vc (Int32.ofNat ([] : List Nat).length) (2 : Int32)) (4 : Int32))))])) _
      refine sel_8_83 X5 hx hby _ _ _ _ ?_
      show Steps p.tables e below (T5.setTop (mkF m 92 #[.val (.ref q), .val (.ref ps), .val (.ref mm), .val (.int (1 : Int32)), .unset, .unset] [(.int (own_selN (Int32.ofNat ([] : List Nat).length) (8 : Int32))), (.int (((own_sel (own_cn va vb vc (Int32.ofNat ([] : List Nat).length) (0 : Int32)) (1 : Int32)) ||| (own_sel (own_cn va vb vc (Int32.ofNat ([] : List Nat).length) (1 : Int32)) (2 : Int32))) ||| (own_sel (own_cn va vb vc (Int32.ofNat ([] : List Nat).length) (2 : Int32)) (4 : Int32))))])) _
      refine XS.ior X5.here hx rfl (hb hby d8_92) rfl ?_
      show Steps p.tables e below (T5.setTop (mkF m 93 #[.val (.ref q), .val (.ref ps), .val (.ref mm), .val (.int (1 : Int32)), .unset, .unset] [(.int ((((own_sel (own_cn va vb vc (Int32.ofNat ([] : List Nat).length) (0 : Int32)) (1 : Int32)) ||| (own_sel (own_cn va vb vc (Int32.ofNat ([] : List Nat).length) (1 : Int32)) (2 : Int32))) ||| (own_sel (own_cn va vb vc (Int32.ofNat ([] : List Nat).length) (2 : Int32)) (4 : Int32))) ||| (own_selN (Int32.ofNat ([] : List Nat).length) (8 : Int32))))])) _
      refine XS.istore X5.here hx rfl (hb hby d8_93) rfl (l' := #[.val (.ref q), .val (.ref ps), .val (.ref mm), .val (.int (1 : Int32)), .val (.int ((((own_sel (own_cn va vb vc (Int32.ofNat ([] : List Nat).length) (0 : Int32)) (1 : Int32)) ||| (own_sel (own_cn va vb vc (Int32.ofNat ([] : List Nat).length) (1 : Int32)) (2 : Int32))) ||| (own_sel (own_cn va vb vc (Int32.ofNat ([] : List Nat).length) (2 : Int32)) (4 : Int32))) ||| (own_selN (Int32.ofNat ([] : List Nat).length) (8 : Int32)))), .unset]) rfl ?_
      show Steps p.tables e below (T5.setTop (mkF m 95 #[.val (.ref q), .val (.ref ps), .val (.ref mm), .val (.int (1 : Int32)), .val (.int ((((own_sel (own_cn va vb vc (Int32.ofNat ([] : List Nat).length) (0 : Int32)) (1 : Int32)) ||| (own_sel (own_cn va vb vc (Int32.ofNat ([] : List Nat).length) (1 : Int32)) (2 : Int32))) ||| (own_sel (own_cn va vb vc (Int32.ofNat ([] : List Nat).length) (2 : Int32)) (4 : Int32))) ||| (own_selN (Int32.ofNat ([] : List Nat).length) (8 : Int32)))), .unset] [])) _
      refine XS.aloadN X5.here hx rfl (hb hby d8_95) rfl rfl ?_
      show Steps p.tables e below (T5.setTop (mkF m 96 #[.val (.ref q), .val (.ref ps), .val (.ref mm), .val (.int (1 : Int32)), .val (.int ((((own_sel (own_cn va vb vc (Int32.ofNat ([] : List Nat).length) (0 : Int32)) (1 : Int32)) ||| (own_sel (own_cn va vb vc (Int32.ofNat ([] : List Nat).length) (1 : Int32)) (2 : Int32))) ||| (own_sel (own_cn va vb vc (Int32.ofNat ([] : List Nat).length) (2 : Int32)) (4 : Int32))) ||| (own_selN (Int32.ofNat ([] : List Nat).length) (8 : Int32)))), .unset] [(.ref q)])) _
      refine XS.aloadN X5.here hx rfl (hb hby d8_96) rfl rfl ?_
      show Steps p.tables e below (T5.setTop (mkF m 97 #[.val (.ref q), .val (.ref ps), .val (.ref mm), .val (.int (1 : Int32)), .val (.int ((((own_sel (own_cn va vb vc (Int32.ofNat ([] : List Nat).length) (0 : Int32)) (1 : Int32)) ||| (own_sel (own_cn va vb vc (Int32.ofNat ([] : List Nat).length) (1 : Int32)) (2 : Int32))) ||| (own_sel (own_cn va vb vc (Int32.ofNat ([] : List Nat).length) (2 : Int32)) (4 : Int32))) ||| (own_selN (Int32.ofNat ([] : List Nat).length) (8 : Int32)))), .unset] [(.ref ps), (.ref q)])) _
      refine XS.iconst X5.here hx rfl (hb hby d8_97) ?_
      show Steps p.tables e below (T5.setTop (mkF m 98 #[.val (.ref q), .val (.ref ps), .val (.ref mm), .val (.int (1 : Int32)), .val (.int ((((own_sel (own_cn va vb vc (Int32.ofNat ([] : List Nat).length) (0 : Int32)) (1 : Int32)) ||| (own_sel (own_cn va vb vc (Int32.ofNat ([] : List Nat).length) (1 : Int32)) (2 : Int32))) ||| (own_sel (own_cn va vb vc (Int32.ofNat ([] : List Nat).length) (2 : Int32)) (4 : Int32))) ||| (own_selN (Int32.ofNat ([] : List Nat).length) (8 : Int32)))), .unset] [(.int (0 : Int32)), (.ref ps), (.ref q)])) _
      refine X5.aaload hx (j := (0 : Int32)) (v := (.ref (P 0))) (by rw [e5]; exact Ar7.1) (State.isArrayOf_alike hZ.alike Ar7.2.1) rfl Ar7.2.2 hin7 (Has.at H7 hin7 rfl) (g := (mkF m 98 #[.val (.ref q), .val (.ref ps), .val (.ref mm), .val (.int (1 : Int32)), .val (.int ((((own_sel (own_cn va vb vc (Int32.ofNat ([] : List Nat).length) (0 : Int32)) (1 : Int32)) ||| (own_sel (own_cn va vb vc (Int32.ofNat ([] : List Nat).length) (1 : Int32)) (2 : Int32))) ||| (own_sel (own_cn va vb vc (Int32.ofNat ([] : List Nat).length) (2 : Int32)) (4 : Int32))) ||| (own_selN (Int32.ofNat ([] : List Nat).length) (8 : Int32)))), .unset] [(.int (0 : Int32)), (.ref ps), (.ref q)])) rfl rfl (hb hby d8_98) _ ?_
      show Steps p.tables e below (T5.setTop (mkF m 99 #[.val (.ref q), .val (.ref ps), .val (.ref mm), .val (.int (1 : Int32)), .val (.int ((((own_sel (own_cn va vb vc (Int32.ofNat ([] : List Nat).length) (0 : Int32)) (1 : Int32)) ||| (own_sel (own_cn va vb vc (Int32.ofNat ([] : List Nat).length) (1 : Int32)) (2 : Int32))) ||| (own_sel (own_cn va vb vc (Int32.ofNat ([] : List Nat).length) (2 : Int32)) (4 : Int32))) ||| (own_selN (Int32.ofNat ([] : List Nat).length) (8 : Int32)))), .unset] [(.ref (P 0)), (.ref q)])) _
      refine st8.trans ?_
      show Steps p.tables e below (T8.setTop (mkF m 102 #[.val (.ref q), .val (.ref ps), .val (.ref mm), .val (.int (1 : Int32)), .val (.int ((((own_sel (own_cn va vb vc (Int32.ofNat ([] : List Nat).length) (0 : Int32)) (1 : Int32)) ||| (own_sel (own_cn va vb vc (Int32.ofNat ([] : List Nat).length) (1 : Int32)) (2 : Int32))) ||| (own_sel (own_cn va vb vc (Int32.ofNat ([] : List Nat).length) (2 : Int32)) (4 : Int32))) ||| (own_selN (Int32.ofNat ([] : List Nat).length) (8 : Int32)))), .unset] [(.int (own_in [] 0))])) _
      refine sel_8_102 X8 hx hby _ _ _ _ ?_
      show Steps p.tables e below (T8.setTop (mkF m 110 #[.val (.ref q), .val (.ref ps), .val (.ref mm), .val (.int (1 : Int32)), .val (.int ((((own_sel (own_cn va vb vc (Int32.ofNat ([] : List Nat).length) (0 : Int32)) (1 : Int32)) ||| (own_sel (own_cn va vb vc (Int32.ofNat ([] : List Nat).length) (1 : Int32)) (2 : Int32))) ||| (own_sel (own_cn va vb vc (Int32.ofNat ([] : List Nat).length) (2 : Int32)) (4 : Int32))) ||| (own_selN (Int32.ofNat ([] : List Nat).length) (8 : Int32)))), .unset] [(.int (own_sel (own_in [] 0) (1 : Int32)))])) _
      refine XS.aloadN X8.here hx rfl (hb hby d8_110) rfl rfl ?_
      show Steps p.tables e below (T8.setTop (mkF m 111 #[.val (.ref q), .val (.ref ps), .val (.ref mm), .val (.int (1 : Int32)), .val (.int ((((own_sel (own_cn va vb vc (Int32.ofNat ([] : List Nat).length) (0 : Int32)) (1 : Int32)) ||| (own_sel (own_cn va vb vc (Int32.ofNat ([] : List Nat).length) (1 : Int32)) (2 : Int32))) ||| (own_sel (own_cn va vb vc (Int32.ofNat ([] : List Nat).length) (2 : Int32)) (4 : Int32))) ||| (own_selN (Int32.ofNat ([] : List Nat).length) (8 : Int32)))), .unset] [(.ref q), (.int (own_sel (own_in [] 0) (1 : Int32)))])) _
      refine XS.aloadN X8.here hx rfl (hb hby d8_111) rfl rfl ?_
      show Steps p.tables e below (T8.setTop (mkF m 112 #[.val (.ref q), .val (.ref ps), .val (.ref mm), .val (.int (1 : Int32)), .val (.int ((((own_sel (own_cn va vb vc (Int32.ofNat ([] : List Nat).length) (0 : Int32)) (1 : Int32)) ||| (own_sel (own_cn va vb vc (Int32.ofNat ([] : List Nat).length) (1 : Int32)) (2 : Int32))) ||| (own_sel (own_cn va vb vc (Int32.ofNat ([] : List Nat).length) (2 : Int32)) (4 : Int32))) ||| (own_selN (Int32.ofNat ([] : List Nat).length) (8 : Int32)))), .unset] [(.ref ps), (.ref q), (.int (own_sel (own_in [] 0) (1 : Int32)))])) _
      refine XS.iconst X8.here hx rfl (hb hby d8_112) ?_
      show Steps p.tables e below (T8.setTop (mkF m 113 #[.val (.ref q), .val (.ref ps), .val (.ref mm), .val (.int (1 : Int32)), .val (.int ((((own_sel (own_cn va vb vc (Int32.ofNat ([] : List Nat).length) (0 : Int32)) (1 : Int32)) ||| (own_sel (own_cn va vb vc (Int32.ofNat ([] : List Nat).length) (1 : Int32)) (2 : Int32))) ||| (own_sel (own_cn va vb vc (Int32.ofNat ([] : List Nat).length) (2 : Int32)) (4 : Int32))) ||| (own_selN (Int32.ofNat ([] : List Nat).length) (8 : Int32)))), .unset] [(.int (1 : Int32)), (.ref ps), (.ref q), (.int (own_sel (own_in [] 0) (1 : Int32)))])) _
      refine X8.aaload hx (j := (1 : Int32)) (v := (.ref (P 1))) (by rw [e8]; exact Ar9.1) (State.isArrayOf_alike hZ.alike Ar9.2.1) rfl Ar9.2.2 hin9 (Has.at H9 hin9 rfl) (g := (mkF m 113 #[.val (.ref q), .val (.ref ps), .val (.ref mm), .val (.int (1 : Int32)), .val (.int ((((own_sel (own_cn va vb vc (Int32.ofNat ([] : List Nat).length) (0 : Int32)) (1 : Int32)) ||| (own_sel (own_cn va vb vc (Int32.ofNat ([] : List Nat).length) (1 : Int32)) (2 : Int32))) ||| (own_sel (own_cn va vb vc (Int32.ofNat ([] : List Nat).length) (2 : Int32)) (4 : Int32))) ||| (own_selN (Int32.ofNat ([] : List Nat).length) (8 : Int32)))), .unset] [(.int (1 : Int32)), (.ref ps), (.ref q), (.int (own_sel (own_in [] 0) (1 : Int32)))])) rfl rfl (hb hby d8_113) _ ?_
      show Steps p.tables e below (T8.setTop (mkF m 114 #[.val (.ref q), .val (.ref ps), .val (.ref mm), .val (.int (1 : Int32)), .val (.int ((((own_sel (own_cn va vb vc (Int32.ofNat ([] : List Nat).length) (0 : Int32)) (1 : Int32)) ||| (own_sel (own_cn va vb vc (Int32.ofNat ([] : List Nat).length) (1 : Int32)) (2 : Int32))) ||| (own_sel (own_cn va vb vc (Int32.ofNat ([] : List Nat).length) (2 : Int32)) (4 : Int32))) ||| (own_selN (Int32.ofNat ([] : List Nat).length) (8 : Int32)))), .unset] [(.ref (P 1)), (.ref q), (.int (own_sel (own_in [] 0) (1 : Int32)))])) _
      refine st10.trans ?_
      show Steps p.tables e below (T10.setTop (mkF m 117 #[.val (.ref q), .val (.ref ps), .val (.ref mm), .val (.int (1 : Int32)), .val (.int ((((own_sel (own_cn va vb vc (Int32.ofNat ([] : List Nat).length) (0 : Int32)) (1 : Int32)) ||| (own_sel (own_cn va vb vc (Int32.ofNat ([] : List Nat).length) (1 : Int32)) (2 : Int32))) ||| (own_sel (own_cn va vb vc (Int32.ofNat ([] : List Nat).length) (2 : Int32)) (4 : Int32))) ||| (own_selN (Int32.ofNat ([] : List Nat).length) (8 : Int32)))), .unset] [(.int (own_in [] 1)), (.int (own_sel (own_in [] 0) (1 : Int32)))])) _
      refine sel_8_117 X10 hx hby _ _ _ _ ?_
      show Steps p.tables e below (T10.setTop (mkF m 125 #[.val (.ref q), .val (.ref ps), .val (.ref mm), .val (.int (1 : Int32)), .val (.int ((((own_sel (own_cn va vb vc (Int32.ofNat ([] : List Nat).length) (0 : Int32)) (1 : Int32)) ||| (own_sel (own_cn va vb vc (Int32.ofNat ([] : List Nat).length) (1 : Int32)) (2 : Int32))) ||| (own_sel (own_cn va vb vc (Int32.ofNat ([] : List Nat).length) (2 : Int32)) (4 : Int32))) ||| (own_selN (Int32.ofNat ([] : List Nat).length) (8 : Int32)))), .unset] [(.int (own_sel (own_in [] 1) (2 : Int32))), (.int (own_sel (own_in [] 0) (1 : Int32)))])) _
      refine XS.ior X10.here hx rfl (hb hby d8_125) rfl ?_
      show Steps p.tables e below (T10.setTop (mkF m 126 #[.val (.ref q), .val (.ref ps), .val (.ref mm), .val (.int (1 : Int32)), .val (.int ((((own_sel (own_cn va vb vc (Int32.ofNat ([] : List Nat).length) (0 : Int32)) (1 : Int32)) ||| (own_sel (own_cn va vb vc (Int32.ofNat ([] : List Nat).length) (1 : Int32)) (2 : Int32))) ||| (own_sel (own_cn va vb vc (Int32.ofNat ([] : List Nat).length) (2 : Int32)) (4 : Int32))) ||| (own_selN (Int32.ofNat ([] : List Nat).length) (8 : Int32)))), .unset] [(.int ((own_sel (own_in [] 0) (1 : Int32)) ||| (own_sel (own_in [] 1) (2 : Int32))))])) _
      refine XS.aloadN X10.here hx rfl (hb hby d8_126) rfl rfl ?_
      show Steps p.tables e below (T10.setTop (mkF m 127 #[.val (.ref q), .val (.ref ps), .val (.ref mm), .val (.int (1 : Int32)), .val (.int ((((own_sel (own_cn va vb vc (Int32.ofNat ([] : List Nat).length) (0 : Int32)) (1 : Int32)) ||| (own_sel (own_cn va vb vc (Int32.ofNat ([] : List Nat).length) (1 : Int32)) (2 : Int32))) ||| (own_sel (own_cn va vb vc (Int32.ofNat ([] : List Nat).length) (2 : Int32)) (4 : Int32))) ||| (own_selN (Int32.ofNat ([] : List Nat).length) (8 : Int32)))), .unset] [(.ref q), (.int ((own_sel (own_in [] 0) (1 : Int32)) ||| (own_sel (own_in [] 1) (2 : Int32))))])) _
      refine XS.aloadN X10.here hx rfl (hb hby d8_127) rfl rfl ?_
      show Steps p.tables e below (T10.setTop (mkF m 128 #[.val (.ref q), .val (.ref ps), .val (.ref mm), .val (.int (1 : Int32)), .val (.int ((((own_sel (own_cn va vb vc (Int32.ofNat ([] : List Nat).length) (0 : Int32)) (1 : Int32)) ||| (own_sel (own_cn va vb vc (Int32.ofNat ([] : List Nat).length) (1 : Int32)) (2 : Int32))) ||| (own_sel (own_cn va vb vc (Int32.ofNat ([] : List Nat).length) (2 : Int32)) (4 : Int32))) ||| (own_selN (Int32.ofNat ([] : List Nat).length) (8 : Int32)))), .unset] [(.ref ps), (.ref q), (.int ((own_sel (own_in [] 0) (1 : Int32)) ||| (own_sel (own_in [] 1) (2 : Int32))))])) _
      refine XS.iconst X10.here hx rfl (hb hby d8_128) ?_
      show Steps p.tables e below (T10.setTop (mkF m 129 #[.val (.ref q), .val (.ref ps), .val (.ref mm), .val (.int (1 : Int32)), .val (.int ((((own_sel (own_cn va vb vc (Int32.ofNat ([] : List Nat).length) (0 : Int32)) (1 : Int32)) ||| (own_sel (own_cn va vb vc (Int32.ofNat ([] : List Nat).length) (1 : Int32)) (2 : Int32))) ||| (own_sel (own_cn va vb vc (Int32.ofNat ([] : List Nat).length) (2 : Int32)) (4 : Int32))) ||| (own_selN (Int32.ofNat ([] : List Nat).length) (8 : Int32)))), .unset] [(.int (2 : Int32)), (.ref ps), (.ref q), (.int ((own_sel (own_in [] 0) (1 : Int32)) ||| (own_sel (own_in [] 1) (2 : Int32))))])) _
      refine X10.aaload hx (j := (2 : Int32)) (v := (.ref (P 2))) (by rw [e10]; exact Ar11.1) (State.isArrayOf_alike hZ.alike Ar11.2.1) rfl Ar11.2.2 hin11 (Has.at H11 hin11 rfl) (g := (mkF m 129 #[.val (.ref q), .val (.ref ps), .val (.ref mm), .val (.int (1 : Int32)), .val (.int ((((own_sel (own_cn va vb vc (Int32.ofNat ([] : List Nat).length) (0 : Int32)) (1 : Int32)) ||| (own_sel (own_cn va vb vc (Int32.ofNat ([] : List Nat).length) (1 : Int32)) (2 : Int32))) ||| (own_sel (own_cn va vb vc (Int32.ofNat ([] : List Nat).length) (2 : Int32)) (4 : Int32))) ||| (own_selN (Int32.ofNat ([] : List Nat).length) (8 : Int32)))), .unset] [(.int (2 : Int32)), (.ref ps), (.ref q), (.int ((own_sel (own_in [] 0) (1 : Int32)) ||| (own_sel (own_in [] 1) (2 : Int32))))])) rfl rfl (hb hby d8_129) _ ?_
      show Steps p.tables e below (T10.setTop (mkF m 130 #[.val (.ref q), .val (.ref ps), .val (.ref mm), .val (.int (1 : Int32)), .val (.int ((((own_sel (own_cn va vb vc (Int32.ofNat ([] : List Nat).length) (0 : Int32)) (1 : Int32)) ||| (own_sel (own_cn va vb vc (Int32.ofNat ([] : List Nat).length) (1 : Int32)) (2 : Int32))) ||| (own_sel (own_cn va vb vc (Int32.ofNat ([] : List Nat).length) (2 : Int32)) (4 : Int32))) ||| (own_selN (Int32.ofNat ([] : List Nat).length) (8 : Int32)))), .unset] [(.ref (P 2)), (.ref q), (.int ((own_sel (own_in [] 0) (1 : Int32)) ||| (own_sel (own_in [] 1) (2 : Int32))))])) _
      refine st12.trans ?_
      show Steps p.tables e below (T12.setTop (mkF m 133 #[.val (.ref q), .val (.ref ps), .val (.ref mm), .val (.int (1 : Int32)), .val (.int ((((own_sel (own_cn va vb vc (Int32.ofNat ([] : List Nat).length) (0 : Int32)) (1 : Int32)) ||| (own_sel (own_cn va vb vc (Int32.ofNat ([] : List Nat).length) (1 : Int32)) (2 : Int32))) ||| (own_sel (own_cn va vb vc (Int32.ofNat ([] : List Nat).length) (2 : Int32)) (4 : Int32))) ||| (own_selN (Int32.ofNat ([] : List Nat).length) (8 : Int32)))), .unset] [(.int (own_in [] 2)), (.int ((own_sel (own_in [] 0) (1 : Int32)) ||| (own_sel (own_in [] 1) (2 : Int32))))])) _
      refine sel_8_133 X12 hx hby _ _ _ _ ?_
      show Steps p.tables e below (T12.setTop (mkF m 141 #[.val (.ref q), .val (.ref ps), .val (.ref mm), .val (.int (1 : Int32)), .val (.int ((((own_sel (own_cn va vb vc (Int32.ofNat ([] : List Nat).length) (0 : Int32)) (1 : Int32)) ||| (own_sel (own_cn va vb vc (Int32.ofNat ([] : List Nat).length) (1 : Int32)) (2 : Int32))) ||| (own_sel (own_cn va vb vc (Int32.ofNat ([] : List Nat).length) (2 : Int32)) (4 : Int32))) ||| (own_selN (Int32.ofNat ([] : List Nat).length) (8 : Int32)))), .unset] [(.int (own_sel (own_in [] 2) (4 : Int32))), (.int ((own_sel (own_in [] 0) (1 : Int32)) ||| (own_sel (own_in [] 1) (2 : Int32))))])) _
      refine XS.ior X12.here hx rfl (hb hby d8_141) rfl ?_
      show Steps p.tables e below (T12.setTop (mkF m 142 #[.val (.ref q), .val (.ref ps), .val (.ref mm), .val (.int (1 : Int32)), .val (.int ((((own_sel (own_cn va vb vc (Int32.ofNat ([] : List Nat).length) (0 : Int32)) (1 : Int32)) ||| (own_sel (own_cn va vb vc (Int32.ofNat ([] : List Nat).length) (1 : Int32)) (2 : Int32))) ||| (own_sel (own_cn va vb vc (Int32.ofNat ([] : List Nat).length) (2 : Int32)) (4 : Int32))) ||| (own_selN (Int32.ofNat ([] : List Nat).length) (8 : Int32)))), .unset] [(.int (((own_sel (own_in [] 0) (1 : Int32)) ||| (own_sel (own_in [] 1) (2 : Int32))) ||| (own_sel (own_in [] 2) (4 : Int32))))])) _
      refine XS.aloadN X12.here hx rfl (hb hby d8_142) rfl rfl ?_
      show Steps p.tables e below (T12.setTop (mkF m 143 #[.val (.ref q), .val (.ref ps), .val (.ref mm), .val (.int (1 : Int32)), .val (.int ((((own_sel (own_cn va vb vc (Int32.ofNat ([] : List Nat).length) (0 : Int32)) (1 : Int32)) ||| (own_sel (own_cn va vb vc (Int32.ofNat ([] : List Nat).length) (1 : Int32)) (2 : Int32))) ||| (own_sel (own_cn va vb vc (Int32.ofNat ([] : List Nat).length) (2 : Int32)) (4 : Int32))) ||| (own_selN (Int32.ofNat ([] : List Nat).length) (8 : Int32)))), .unset] [(.ref q), (.int (((own_sel (own_in [] 0) (1 : Int32)) ||| (own_sel (own_in [] 1) (2 : Int32))) ||| (own_sel (own_in [] 2) (4 : Int32))))])) _
      refine st13.trans ?_
      show Steps p.tables e below (T13.setTop (mkF m 146 #[.val (.ref q), .val (.ref ps), .val (.ref mm), .val (.int (1 : Int32)), .val (.int ((((own_sel (own_cn va vb vc (Int32.ofNat ([] : List Nat).length) (0 : Int32)) (1 : Int32)) ||| (own_sel (own_cn va vb vc (Int32.ofNat ([] : List Nat).length) (1 : Int32)) (2 : Int32))) ||| (own_sel (own_cn va vb vc (Int32.ofNat ([] : List Nat).length) (2 : Int32)) (4 : Int32))) ||| (own_selN (Int32.ofNat ([] : List Nat).length) (8 : Int32)))), .unset] [(.int (own_em [])), (.int (((own_sel (own_in [] 0) (1 : Int32)) ||| (own_sel (own_in [] 1) (2 : Int32))) ||| (own_sel (own_in [] 2) (4 : Int32))))])) _
      refine sel_8_146 X13 hx hby _ _ _ _ ?_
      show Steps p.tables e below (T13.setTop (mkF m 155 #[.val (.ref q), .val (.ref ps), .val (.ref mm), .val (.int (1 : Int32)), .val (.int ((((own_sel (own_cn va vb vc (Int32.ofNat ([] : List Nat).length) (0 : Int32)) (1 : Int32)) ||| (own_sel (own_cn va vb vc (Int32.ofNat ([] : List Nat).length) (1 : Int32)) (2 : Int32))) ||| (own_sel (own_cn va vb vc (Int32.ofNat ([] : List Nat).length) (2 : Int32)) (4 : Int32))) ||| (own_selN (Int32.ofNat ([] : List Nat).length) (8 : Int32)))), .unset] [(.int (own_sel (own_em []) (8 : Int32))), (.int (((own_sel (own_in [] 0) (1 : Int32)) ||| (own_sel (own_in [] 1) (2 : Int32))) ||| (own_sel (own_in [] 2) (4 : Int32))))])) _
      refine XS.ior X13.here hx rfl (hb hby d8_155) rfl ?_
      show Steps p.tables e below (T13.setTop (mkF m 156 #[.val (.ref q), .val (.ref ps), .val (.ref mm), .val (.int (1 : Int32)), .val (.int ((((own_sel (own_cn va vb vc (Int32.ofNat ([] : List Nat).length) (0 : Int32)) (1 : Int32)) ||| (own_sel (own_cn va vb vc (Int32.ofNat ([] : List Nat).length) (1 : Int32)) (2 : Int32))) ||| (own_sel (own_cn va vb vc (Int32.ofNat ([] : List Nat).length) (2 : Int32)) (4 : Int32))) ||| (own_selN (Int32.ofNat ([] : List Nat).length) (8 : Int32)))), .unset] [(.int ((((own_sel (own_in [] 0) (1 : Int32)) ||| (own_sel (own_in [] 1) (2 : Int32))) ||| (own_sel (own_in [] 2) (4 : Int32))) ||| (own_sel (own_em []) (8 : Int32))))])) _
      refine XS.istore X13.here hx rfl (hb hby d8_156) rfl (l' := #[.val (.ref q), .val (.ref ps), .val (.ref mm), .val (.int (1 : Int32)), .val (.int ((((own_sel (own_cn va vb vc (Int32.ofNat ([] : List Nat).length) (0 : Int32)) (1 : Int32)) ||| (own_sel (own_cn va vb vc (Int32.ofNat ([] : List Nat).length) (1 : Int32)) (2 : Int32))) ||| (own_sel (own_cn va vb vc (Int32.ofNat ([] : List Nat).length) (2 : Int32)) (4 : Int32))) ||| (own_selN (Int32.ofNat ([] : List Nat).length) (8 : Int32)))), .val (.int ((((own_sel (own_in [] 0) (1 : Int32)) ||| (own_sel (own_in [] 1) (2 : Int32))) ||| (own_sel (own_in [] 2) (4 : Int32))) ||| (own_sel (own_em []) (8 : Int32))))]) rfl ?_
      show Steps p.tables e below (T13.setTop (mkF m 158 #[.val (.ref q), .val (.ref ps), .val (.ref mm), .val (.int (1 : Int32)), .val (.int ((((own_sel (own_cn va vb vc (Int32.ofNat ([] : List Nat).length) (0 : Int32)) (1 : Int32)) ||| (own_sel (own_cn va vb vc (Int32.ofNat ([] : List Nat).length) (1 : Int32)) (2 : Int32))) ||| (own_sel (own_cn va vb vc (Int32.ofNat ([] : List Nat).length) (2 : Int32)) (4 : Int32))) ||| (own_selN (Int32.ofNat ([] : List Nat).length) (8 : Int32)))), .val (.int ((((own_sel (own_in [] 0) (1 : Int32)) ||| (own_sel (own_in [] 1) (2 : Int32))) ||| (own_sel (own_in [] 2) (4 : Int32))) ||| (own_sel (own_em []) (8 : Int32))))] [])) _
      refine XS.iloadN X13.here hx rfl (hb hby d8_158) rfl ?_
      show Steps p.tables e below (T13.setTop (mkF m 159 #[.val (.ref q), .val (.ref ps), .val (.ref mm), .val (.int (1 : Int32)), .val (.int ((((own_sel (own_cn va vb vc (Int32.ofNat ([] : List Nat).length) (0 : Int32)) (1 : Int32)) ||| (own_sel (own_cn va vb vc (Int32.ofNat ([] : List Nat).length) (1 : Int32)) (2 : Int32))) ||| (own_sel (own_cn va vb vc (Int32.ofNat ([] : List Nat).length) (2 : Int32)) (4 : Int32))) ||| (own_selN (Int32.ofNat ([] : List Nat).length) (8 : Int32)))), .val (.int ((((own_sel (own_in [] 0) (1 : Int32)) ||| (own_sel (own_in [] 1) (2 : Int32))) ||| (own_sel (own_in [] 2) (4 : Int32))) ||| (own_sel (own_em []) (8 : Int32))))] [(.int (1 : Int32))])) _
      refine XS.ifNo X13.here hx rfl (hb hby d8_159) rfl ((if0 _ _).trans (feq (by decide : ¬ ((1 : Int32) = (0 : Int32)))).1) ?_
      show Steps p.tables e below (T13.setTop (mkF m 162 #[.val (.ref q), .val (.ref ps), .val (.ref mm), .val (.int (1 : Int32)), .val (.int ((((own_sel (own_cn va vb vc (Int32.ofNat ([] : List Nat).length) (0 : Int32)) (1 : Int32)) ||| (own_sel (own_cn va vb vc (Int32.ofNat ([] : List Nat).length) (1 : Int32)) (2 : Int32))) ||| (own_sel (own_cn va vb vc (Int32.ofNat ([] : List Nat).length) (2 : Int32)) (4 : Int32))) ||| (own_selN (Int32.ofNat ([] : List Nat).length) (8 : Int32)))), .val (.int ((((own_sel (own_in [] 0) (1 : Int32)) ||| (own_sel (own_in [] 1) (2 : Int32))) ||| (own_sel (own_in [] 2) (4 : Int32))) ||| (own_sel (own_em []) (8 : Int32))))] [])) _
      refine XS.iload X13.here hx rfl (hb hby d8_162) rfl ?_
      show Steps p.tables e below (T13.setTop (mkF m 164 #[.val (.ref q), .val (.ref ps), .val (.ref mm), .val (.int (1 : Int32)), .val (.int ((((own_sel (own_cn va vb vc (Int32.ofNat ([] : List Nat).length) (0 : Int32)) (1 : Int32)) ||| (own_sel (own_cn va vb vc (Int32.ofNat ([] : List Nat).length) (1 : Int32)) (2 : Int32))) ||| (own_sel (own_cn va vb vc (Int32.ofNat ([] : List Nat).length) (2 : Int32)) (4 : Int32))) ||| (own_selN (Int32.ofNat ([] : List Nat).length) (8 : Int32)))), .val (.int ((((own_sel (own_in [] 0) (1 : Int32)) ||| (own_sel (own_in [] 1) (2 : Int32))) ||| (own_sel (own_in [] 2) (4 : Int32))) ||| (own_sel (own_em []) (8 : Int32))))] [(.int ((((own_sel (own_cn va vb vc (Int32.ofNat ([] : List Nat).length) (0 : Int32)) (1 : Int32)) ||| (own_sel (own_cn va vb vc (Int32.ofNat ([] : List Nat).length) (1 : Int32)) (2 : Int32))) ||| (own_sel (own_cn va vb vc (Int32.ofNat ([] : List Nat).length) (2 : Int32)) (4 : Int32))) ||| (own_selN (Int32.ofNat ([] : List Nat).length) (8 : Int32))))])) _
      refine XS.iload X13.here hx rfl (hb hby d8_164) rfl ?_
      show Steps p.tables e below (T13.setTop (mkF m 166 #[.val (.ref q), .val (.ref ps), .val (.ref mm), .val (.int (1 : Int32)), .val (.int ((((own_sel (own_cn va vb vc (Int32.ofNat ([] : List Nat).length) (0 : Int32)) (1 : Int32)) ||| (own_sel (own_cn va vb vc (Int32.ofNat ([] : List Nat).length) (1 : Int32)) (2 : Int32))) ||| (own_sel (own_cn va vb vc (Int32.ofNat ([] : List Nat).length) (2 : Int32)) (4 : Int32))) ||| (own_selN (Int32.ofNat ([] : List Nat).length) (8 : Int32)))), .val (.int ((((own_sel (own_in [] 0) (1 : Int32)) ||| (own_sel (own_in [] 1) (2 : Int32))) ||| (own_sel (own_in [] 2) (4 : Int32))) ||| (own_sel (own_em []) (8 : Int32))))] [(.int ((((own_sel (own_in [] 0) (1 : Int32)) ||| (own_sel (own_in [] 1) (2 : Int32))) ||| (own_sel (own_in [] 2) (4 : Int32))) ||| (own_sel (own_em []) (8 : Int32)))), (.int ((((own_sel (own_cn va vb vc (Int32.ofNat ([] : List Nat).length) (0 : Int32)) (1 : Int32)) ||| (own_sel (own_cn va vb vc (Int32.ofNat ([] : List Nat).length) (1 : Int32)) (2 : Int32))) ||| (own_sel (own_cn va vb vc (Int32.ofNat ([] : List Nat).length) (2 : Int32)) (4 : Int32))) ||| (own_selN (Int32.ofNat ([] : List Nat).length) (8 : Int32))))])) _
      refine XS.icmpNo X13.here hx rfl (hb hby d8_166) rfl (teq (own_match ho hr0)).2 ?_
      show Steps p.tables e below (T13.setTop (mkF m 169 #[.val (.ref q), .val (.ref ps), .val (.ref mm), .val (.int (1 : Int32)), .val (.int ((((own_sel (own_cn va vb vc (Int32.ofNat ([] : List Nat).length) (0 : Int32)) (1 : Int32)) ||| (own_sel (own_cn va vb vc (Int32.ofNat ([] : List Nat).length) (1 : Int32)) (2 : Int32))) ||| (own_sel (own_cn va vb vc (Int32.ofNat ([] : List Nat).length) (2 : Int32)) (4 : Int32))) ||| (own_selN (Int32.ofNat ([] : List Nat).length) (8 : Int32)))), .val (.int ((((own_sel (own_in [] 0) (1 : Int32)) ||| (own_sel (own_in [] 1) (2 : Int32))) ||| (own_sel (own_in [] 2) (4 : Int32))) ||| (own_sel (own_em []) (8 : Int32))))] [])) _
      refine XS.iconst X13.here hx rfl (hb hby d8_169) ?_
      show Steps p.tables e below (T13.setTop (mkF m 170 #[.val (.ref q), .val (.ref ps), .val (.ref mm), .val (.int (1 : Int32)), .val (.int ((((own_sel (own_cn va vb vc (Int32.ofNat ([] : List Nat).length) (0 : Int32)) (1 : Int32)) ||| (own_sel (own_cn va vb vc (Int32.ofNat ([] : List Nat).length) (1 : Int32)) (2 : Int32))) ||| (own_sel (own_cn va vb vc (Int32.ofNat ([] : List Nat).length) (2 : Int32)) (4 : Int32))) ||| (own_selN (Int32.ofNat ([] : List Nat).length) (8 : Int32)))), .val (.int ((((own_sel (own_in [] 0) (1 : Int32)) ||| (own_sel (own_in [] 1) (2 : Int32))) ||| (own_sel (own_in [] 2) (4 : Int32))) ||| (own_sel (own_em []) (8 : Int32))))] [(.int (1 : Int32))])) _
      refine XS.goto X13.here hx rfl (pc0 := 170) (pc' := 174) rfl (hb hby d8_170) (by decide) (by decide) ?_
      show Steps p.tables e below (T13.setTop (mkF m 174 #[.val (.ref q), .val (.ref ps), .val (.ref mm), .val (.int (1 : Int32)), .val (.int ((((own_sel (own_cn va vb vc (Int32.ofNat ([] : List Nat).length) (0 : Int32)) (1 : Int32)) ||| (own_sel (own_cn va vb vc (Int32.ofNat ([] : List Nat).length) (1 : Int32)) (2 : Int32))) ||| (own_sel (own_cn va vb vc (Int32.ofNat ([] : List Nat).length) (2 : Int32)) (4 : Int32))) ||| (own_selN (Int32.ofNat ([] : List Nat).length) (8 : Int32)))), .val (.int ((((own_sel (own_in [] 0) (1 : Int32)) ||| (own_sel (own_in [] 1) (2 : Int32))) ||| (own_sel (own_in [] 2) (4 : Int32))) ||| (own_sel (own_em []) (8 : Int32))))] [(.int (1 : Int32))])) _
      exact retN X13 hx (t := .boolean) Bd.returns (by simp) (hb hby d8_174) hr
    · show Q8 Z q ps mm P kp km [] h0 n0 _ T13.heap _
      rw [e13]
      exact ⟨rfl, N13, z1, va, vb, vc, ho, hr0, G1, B1, Vt⟩
  · have V0 : Arv Z h0 mm km .int 4 [.int va, .int vb, .int vc, .int (Int32.ofNat (t.length + 1))] (.int 0) := V0
    have hpos : (0 : Int32) < Int32.ofNat (t.length + 1) := by
      have h3 := own_mr_len hr0
      have key : ∀ n, n + 1 ≤ 3 → (0 : Int32) < Int32.ofNat (n + 1) := by intro n hn; match n, hn with | 0, _ => decide | 1, _ => decide | 2, _ => decide
      exact key _ h3
    obtain ⟨cq1, kq1, q1a, q1b, q1c⟩ := isOf hZ e0 G0.1
    obtain ⟨_, _, ⟨T1, L1, k1, n1⟩, -, X1, ⟨Lc1, hQ1, l1, y1, z1⟩, st1⟩ := X0.virtualBack hx (y := (⟨"com/example/bulkwire/bulkwire/server/TurnQueue", "poll", "()Lcom/example/bulkwire/bulkwire/server/Connection;"⟩ : MethodName)) (z := (⟨"com/example/bulkwire/bulkwire/server/TurnQueue", "poll", "()Lcom/example/bulkwire/bulkwire/server/Connection;"⟩ : MethodName)) hown (mvT hZ (hw _ (List.mem_of_getElem? (i := 46) rfl))) (mvT hZ (hw _ (List.mem_of_getElem? (i := 47) rfl))) (notFace_of_selects (args := #[]) (mvT hZ (hw _ (List.mem_of_getElem? (i := 49) rfl)))) (mvT hZ (hw _ (List.mem_of_getElem? (i := 49) rfl))) (mvT hZ (hw _ (List.mem_of_getElem? (i := 48) rfl))) (by decide) (backOf (W := 0) (rm9 l Z a0 hw [] q  h0 n0 (Nat.le_trans Z0 (Nat.le_refl h0.size)) P (x :: t) ps mm hfx ho G0) hZ (hw _ (List.mem_of_getElem? (i := 50) rfl)) (hw _ (List.mem_of_getElem? (i := 2) rfl)) (by decide) (by decide)) q1a q1c (g := (mkF m 1 #[.val (.ref q), .val (.ref ps), .val (.ref mm), .unset, .unset, .unset] [(.ref q)])) rfl (by rw [hml]; rfl) (Steps.refl _) (argsL := []) (rest := []) (lenOf pd_2 rfl) rfl (by show 2 * 0 + _ ≤ _; exact Nat.le_of_eq rfl) (hb hby d8_1) (fun _ _ => ⟨rfl, e0, (by decide : 0 + 0 ≤ _), (by decide : 0 + 0 ≤ _)⟩)
    dsimp only [Pt.U, Pt.locs, Pt.cells, Pt.slots] at X1 l1 y1 z1 st1 hQ1
    subst l1 y1 z1
    obtain ⟨rfl, N1q, K1, G1⟩ := hQ1
    have N1 := Fr.app N0 N1q
    have B1 := B0.keep K1 (ninS (Ne.symm (own_ne_av G0.1 (hw _ (List.mem_of_getElem? (i := 1) rfl)) B0)) (ninS (Ne.symm (own_ne_av (G0.2.2.2 0 (by decide)).1 (hw _ (List.mem_of_getElem? (i := 11) rfl)) B0)) (ninS (Ne.symm (own_ne_av (G0.2.2.2 1 (by decide)).1 (hw _ (List.mem_of_getElem? (i := 11) rfl)) B0)) (ninS (Ne.symm (own_ne_av (G0.2.2.2 2 (by decide)).1 (hw _ (List.mem_of_getElem? (i := 11) rfl)) B0)) nin0))))
    have V1 := V0.keep K1 (ninS (Ne.symm (own_ne_av G0.1 (hw _ (List.mem_of_getElem? (i := 1) rfl)) V0)) (ninS (Ne.symm (own_ne_av (G0.2.2.2 0 (by decide)).1 (hw _ (List.mem_of_getElem? (i := 11) rfl)) V0)) (ninS (Ne.symm (own_ne_av (G0.2.2.2 1 (by decide)).1 (hw _ (List.mem_of_getElem? (i := 11) rfl)) V0)) (ninS (Ne.symm (own_ne_av (G0.2.2.2 2 (by decide)).1 (hw _ (List.mem_of_getElem? (i := 11) rfl)) V0)) nin0))))
    have z1 : h0.size ≤ T1.heap.size := Nat.le_trans (Nat.le_refl h0.size) K1.1
    obtain ⟨cl2, Ar2, qq2, S2, Nn2, H2, Gg2⟩ := id V1
    have hin2 : ¬ ((3 : Int32) < 0 ∨ cl2.slots.size ≤ ((3 : Int32)).toNatClampNeg) := inb_of S2 ⟨by decide, by decide⟩
    obtain ⟨cl3, Ar3, qq3, S3, Nn3, H3, Gg3⟩ := id V1
    have hin3 : ¬ ((1 : Int32) < 0 ∨ cl3.slots.size ≤ ((1 : Int32)).toNatClampNeg) := inb_of S3 ⟨by decide, by decide⟩
    obtain ⟨cl4, Ar4, qq4, S4, Nn4, H4, Gg4⟩ := id V1
    have hin4 : ¬ ((0 : Int32) < 0 ∨ cl4.slots.size ≤ ((0 : Int32)).toNatClampNeg) := inb_of S4 ⟨by decide, by decide⟩
    obtain ⟨T4, h4, X4, e4, W4, st4⟩ := stI X1 hx hZ rfl Ar4 (j := (0 : Int32)) hin4 (g := (mkF m 24 #[.val (.ref q), .val (.ref ps), .val (.ref mm), .val (.int (1 : Int32)), .unset, .unset] [(.int vb), (.int (0 : Int32)), (.ref mm)])) rfl rfl (hb hby d8_24)
    have V4 : Arv Z h4 mm km .int 4 [(.int vb), (.int vb), (.int vc), (.int (Int32.ofNat (t.length + 1)))] (.int 0) := Arv.set Ar4 qq4 S4 Nn4 H4 Gg4 rfl W4 0 rfl (Nat.le_of_ble_eq_true rfl)
    have hq4 := own_ne_av G1.1 (hw _ (List.mem_of_getElem? (i := 1) rfl)) V1
    have G4 := G1.other W4 hq4 (fun i hi => own_ne_av (G1.2.2.2 i hi).1 (hw _ (List.mem_of_getElem? (i := 11) rfl)) V1)
    have B4 := B1.other W4 hfx.2.2.2.1
    have N4 := Fr.snoc X4 N1 hfx.2.2.1
    have z4 : h0.size ≤ h4.size := Nat.le_trans z1 (Keep.of_wr W4).1
    obtain ⟨cl5, Ar5, qq5, S5, Nn5, H5, Gg5⟩ := id V4
    have hin5 : ¬ ((2 : Int32) < 0 ∨ cl5.slots.size ≤ ((2 : Int32)).toNatClampNeg) := inb_of S5 ⟨by decide, by decide⟩
    obtain ⟨cl6, Ar6, qq6, S6, Nn6, H6, Gg6⟩ := id V4
    have hin6 : ¬ ((1 : Int32) < 0 ∨ cl6.slots.size ≤ ((1 : Int32)).toNatClampNeg) := inb_of S6 ⟨by decide, by decide⟩
    obtain ⟨T6, h6, X6, e6, W6, st6⟩ := stI X4 hx hZ e4 Ar6 (j := (1 : Int32)) hin6 (g := (mkF m 30 #[.val (.ref q), .val (.ref ps), .val (.ref mm), .val (.int (1 : Int32)), .unset, .unset] [(.int vc), (.int (1 : Int32)), (.ref mm)])) rfl rfl (hb hby d8_30)
    have V6 : Arv Z h6 mm km .int 4 [(.int vb), (.int vc), (.int vc), (.int (Int32.ofNat (t.length + 1)))] (.int 0) := Arv.set Ar6 qq6 S6 Nn6 H6 Gg6 rfl W6 1 rfl (Nat.le_of_ble_eq_true rfl)
    have hq6 := own_ne_av G4.1 (hw _ (List.mem_of_getElem? (i := 1) rfl)) V4
    have G6 := G4.other W6 hq6 (fun i hi => own_ne_av (G4.2.2.2 i hi).1 (hw _ (List.mem_of_getElem? (i := 11) rfl)) V4)
    have B6 := B4.other W6 hfx.2.2.2.1
    have N6 := Fr.snoc X6 N4 hfx.2.2.1
    have z6 : h0.size ≤ h6.size := Nat.le_trans z4 (Keep.of_wr W6).1
    obtain ⟨cl7, Ar7, qq7, S7, Nn7, H7, Gg7⟩ := id V6
    have hin7 : ¬ ((3 : Int32) < 0 ∨ cl7.slots.size ≤ ((3 : Int32)).toNatClampNeg) := inb_of S7 ⟨by decide, by decide⟩
    obtain ⟨cl8, Ar8, qq8, S8, Nn8, H8, Gg8⟩ := id V6
    have hin8 : ¬ ((3 : Int32) < 0 ∨ cl8.slots.size ≤ ((3 : Int32)).toNatClampNeg) := inb_of S8 ⟨by decide, by decide⟩
    obtain ⟨T8, h8, X8, e8, W8, st8⟩ := stI X6 hx hZ e6 Ar8 (j := (3 : Int32)) hin8 (g := (mkF m 38 #[.val (.ref q), .val (.ref ps), .val (.ref mm), .val (.int (1 : Int32)), .unset, .unset] [(.int ((Int32.ofNat (t.length + 1)) - (1 : Int32))), (.int (3 : Int32)), (.ref mm)])) rfl rfl (hb hby d8_38)
    have V8 : Arv Z h8 mm km .int 4 [(.int vb), (.int vc), (.int vc), (.int ((Int32.ofNat (t.length + 1)) - (1 : Int32)))] (.int 0) := Arv.set Ar8 qq8 S8 Nn8 H8 Gg8 rfl W8 3 rfl (Nat.le_of_ble_eq_true rfl)
    have hq8 := own_ne_av G6.1 (hw _ (List.mem_of_getElem? (i := 1) rfl)) V6
    have G8 := G6.other W8 hq8 (fun i hi => own_ne_av (G6.2.2.2 i hi).1 (hw _ (List.mem_of_getElem? (i := 11) rfl)) V6)
    have B8 := B6.other W8 hfx.2.2.2.1
    have N8 := Fr.snoc X8 N6 hfx.2.2.1
    have z8 : h0.size ≤ h8.size := Nat.le_trans z6 (Keep.of_wr W8).1
    have Vt : Arv Z h8 mm km .int 4 [(.int vb), (.int vc), (.int vc), .int (Int32.ofNat t.length)] (.int 0) := dec_ofNat t.length ▸ V8
    obtain ⟨_, _, ⟨T9, L9, k9, n9⟩, -, X9, ⟨Lc9, hQ9, l9, y9, z9⟩, st9⟩ := Jvm.LawKit.callS X8 hx (y := (⟨"com/example/bulkwire/bulkwire/server/TurnQueuePollPinLaw", "contains", "([II)Z"⟩ : MethodName)) hown (mvT hZ (hw _ (List.mem_of_getElem? (i := 40) rfl))) (mvT hZ (hw _ (List.mem_of_getElem? (i := 41) rfl))) (mvT hZ (hw _ (List.mem_of_getElem? (i := 23) rfl))) (mvT hZ (hw _ (List.mem_of_getElem? (i := 42) rfl))) (by decide) (backOf (W := 0) (rm7 l Z a0 hw [] mm (0 : Int32)  h8 n0 (Nat.le_trans Z0 z8) km vb vc vc (Int32.ofNat t.length) Vt) hZ (hw _ (List.mem_of_getElem? (i := 42) rfl)) (hw _ (List.mem_of_getElem? (i := 23) rfl)) (by decide) (by decide)) (g := (mkF m 41 #[.val (.ref q), .val (.ref ps), .val (.ref mm), .val (.int (1 : Int32)), .unset, .unset] [(.int (0 : Int32)), (.ref mm)])) rfl (by rw [hml]; rfl) (argsL := [(.ref mm), (.int (0 : Int32))]) (rest := []) (lenOf pd_1 rfl) rfl (by show 2 * 0 + _ ≤ _; exact Nat.le_of_eq rfl) (hb hby d8_41) (fun _ _ => ⟨rfl, e8, (by decide : 0 + 0 ≤ _), (by decide : 0 + 0 ≤ _)⟩)
    dsimp only [Pt.U, Pt.locs, Pt.cells, Pt.slots] at X9 l9 y9 z9 st9 hQ9
    subst l9 y9 z9
    obtain ⟨rfl, N9q, e9⟩ := hQ9
    have N9 := Fr.app N8 N9q
    obtain ⟨_, _, ⟨T10, L10, k10, n10⟩, -, X10, ⟨Lc10, hQ10, l10, y10, z10⟩, st10⟩ := Jvm.LawKit.callS X9 hx (y := (⟨"com/example/bulkwire/bulkwire/server/TurnQueuePollPinLaw", "contains", "([II)Z"⟩ : MethodName)) hown (mvT hZ (hw _ (List.mem_of_getElem? (i := 40) rfl))) (mvT hZ (hw _ (List.mem_of_getElem? (i := 41) rfl))) (mvT hZ (hw _ (List.mem_of_getElem? (i := 23) rfl))) (mvT hZ (hw _ (List.mem_of_getElem? (i := 42) rfl))) (by decide) (backOf (W := 1) (rm7 l Z a0 hw [] mm (1 : Int32)  h8 n0 (Nat.le_trans Z0 z8) km vb vc vc (Int32.ofNat t.length) Vt) hZ (hw _ (List.mem_of_getElem? (i := 42) rfl)) (hw _ (List.mem_of_getElem? (i := 23) rfl)) (by decide) (by decide)) (g := (mkF m 54 #[.val (.ref q), .val (.ref ps), .val (.ref mm), .val (.int (1 : Int32)), .unset, .unset] [(.int (1 : Int32)), (.ref mm), (.int (own_sel (own_cn vb vc vc (Int32.ofNat t.length) (0 : Int32)) (1 : Int32)))])) rfl (by rw [hml]; rfl) (argsL := [(.ref mm), (.int (1 : Int32))]) (rest := [(.int (own_sel (own_cn vb vc vc (Int32.ofNat t.length) (0 : Int32)) (1 : Int32)))]) (lenOf pd_1 rfl) rfl (by show 2 * 0 + _ ≤ _; exact Nat.le_of_eq rfl) (hb hby d8_54) (fun _ _ => ⟨rfl, e9, (by decide : 0 + 0 ≤ _), (by decide : 0 + 0 ≤ _)⟩)
    dsimp only [Pt.U, Pt.locs, Pt.cells, Pt.slots] at X10 l10 y10 z10 st10 hQ10
    subst l10 y10 z10
    obtain ⟨rfl, N10q, e10⟩ := hQ10
    have N10 := Fr.app N9 N10q
    obtain ⟨_, _, ⟨T11, L11, k11, n11⟩, -, X11, ⟨Lc11, hQ11, l11, y11, z11⟩, st11⟩ := Jvm.LawKit.callS X10 hx (y := (⟨"com/example/bulkwire/bulkwire/server/TurnQueuePollPinLaw", "contains", "([II)Z"⟩ : MethodName)) hown (mvT hZ (hw _ (List.mem_of_getElem? (i := 40) rfl))) (mvT hZ (hw _ (List.mem_of_getElem? (i := 41) rfl))) (mvT hZ (hw _ (List.mem_of_getElem? (i := 23) rfl))) (mvT hZ (hw _ (List.mem_of_getElem? (i := 42) rfl))) (by decide) (backOf (W := 1) (rm7 l Z a0 hw [] mm (2 : Int32)  h8 n0 (Nat.le_trans Z0 z8) km vb vc vc (Int32.ofNat t.length) Vt) hZ (hw _ (List.mem_of_getElem? (i := 42) rfl)) (hw _ (List.mem_of_getElem? (i := 23) rfl)) (by decide) (by decide)) (g := (mkF m 68 #[.val (.ref q), .val (.ref ps), .val (.ref mm), .val (.int (1 : Int32)), .unset, .unset] [(.int (2 : Int32)), (.ref mm), (.int ((own_sel (own_cn vb vc vc (Int32.ofNat t.length) (0 : Int32)) (1 : Int32)) ||| (own_sel (own_cn vb vc vc (Int32.ofNat t.length) (1 : Int32)) (2 : Int32))))])) rfl (by rw [hml]; rfl) (argsL := [(.ref mm), (.int (2 : Int32))]) (rest := [(.int ((own_sel (own_cn vb vc vc (Int32.ofNat t.length) (0 : Int32)) (1 : Int32)) ||| (own_sel (own_cn vb vc vc (Int32.ofNat t.length) (1 : Int32)) (2 : Int32))))]) (lenOf pd_1 rfl) rfl (by show 2 * 0 + _ ≤ _; exact Nat.le_of_eq rfl) (hb hby d8_68) (fun _ _ => ⟨rfl, e10, (by decide : 0 + 0 ≤ _), (by decide : 0 + 0 ≤ _)⟩)
    dsimp only [Pt.U, Pt.locs, Pt.cells, Pt.slots] at X11 l11 y11 z11 st11 hQ11
    subst l11 y11 z11
    obtain ⟨rfl, N11q, e11⟩ := hQ11
    have N11 := Fr.app N10 N11q
    obtain ⟨cl12, Ar12, qq12, S12, Nn12, H12, Gg12⟩ := id Vt
    have hin12 : ¬ ((3 : Int32) < 0 ∨ cl12.slots.size ≤ ((3 : Int32)).toNatClampNeg) := inb_of S12 ⟨by decide, by decide⟩
    obtain ⟨cl13, Ar13, qq13, S13, Nn13, H13, Gg13⟩ := id B8
    have hin13 : ¬ ((0 : Int32) < 0 ∨ cl13.slots.size ≤ ((0 : Int32)).toNatClampNeg) := inb_of S13 ⟨by decide, by decide⟩
    obtain ⟨cq14, kq14, q14a, q14b, q14c⟩ := isOf hZ e11 G8.1
    obtain ⟨_, _, ⟨T14, L14, k14, n14⟩, -, X14, ⟨Lc14, hQ14, l14, y14, z14⟩, st14⟩ := X11.virtualBack hx (y := (⟨"com/example/bulkwire/bulkwire/server/TurnQueue", "holds", "(Lcom/example/bulkwire/bulkwire/server/TurnQueue$Place;)Z"⟩ : MethodName)) (z := (⟨"com/example/bulkwire/bulkwire/server/TurnQueue", "holds", "(Lcom/example/bulkwire/bulkwire/server/TurnQueue$Place;)Z"⟩ : MethodName)) hown (mvT hZ (hw _ (List.mem_of_getElem? (i := 54) rfl))) (mvT hZ (hw _ (List.mem_of_getElem? (i := 55) rfl))) (notFace_of_selects (args := #[]) (mvT hZ (hw _ (List.mem_of_getElem? (i := 57) rfl)))) (mvT hZ (hw _ (List.mem_of_getElem? (i := 57) rfl))) (mvT hZ (hw _ (List.mem_of_getElem? (i := 56) rfl))) (by decide) (backOf (W := 0) (rm10 l Z a0 hw [] q (P 0)  h8 n0 (Nat.le_trans Z0 z8) P t 0 (by decide) rfl G8) hZ (hw _ (List.mem_of_getElem? (i := 58) rfl)) (hw _ (List.mem_of_getElem? (i := 2) rfl)) (by decide) (by decide)) q14a q14c (g := (mkF m 99 #[.val (.ref q), .val (.ref ps), .val (.ref mm), .val (.int (1 : Int32)), .val (.int ((((own_sel (own_cn vb vc vc (Int32.ofNat t.length) (0 : Int32)) (1 : Int32)) ||| (own_sel (own_cn vb vc vc (Int32.ofNat t.length) (1 : Int32)) (2 : Int32))) ||| (own_sel (own_cn vb vc vc (Int32.ofNat t.length) (2 : Int32)) (4 : Int32))) ||| (own_selN (Int32.ofNat t.length) (8 : Int32)))), .unset] [(.ref (P 0)), (.ref q)])) rfl (by rw [hml]; rfl) (Steps.refl _) (argsL := [(.ref (P 0))]) (rest := []) (lenOf pd_3 rfl) rfl (by show 2 * 0 + _ ≤ _; exact Nat.le_of_eq rfl) (hb hby d8_99) (fun _ _ => ⟨rfl, e11, (by decide : 0 + 0 ≤ _), (by decide : 0 + 0 ≤ _)⟩)
    dsimp only [Pt.U, Pt.locs, Pt.cells, Pt.slots] at X14 l14 y14 z14 st14 hQ14
    subst l14 y14 z14
    obtain ⟨rfl, N14q, e14⟩ := hQ14
    have N14 := Fr.app N11 N14q
    obtain ⟨cl15, Ar15, qq15, S15, Nn15, H15, Gg15⟩ := id B8
    have hin15 : ¬ ((1 : Int32) < 0 ∨ cl15.slots.size ≤ ((1 : Int32)).toNatClampNeg) := inb_of S15 ⟨by decide, by decide⟩
    obtain ⟨cq16, kq16, q16a, q16b, q16c⟩ := isOf hZ e14 G8.1
    obtain ⟨_, _, ⟨T16, L16, k16, n16⟩, -, X16, ⟨Lc16, hQ16, l16, y16, z16⟩, st16⟩ := X14.virtualBack hx (y := (⟨"com/example/bulkwire/bulkwire/server/TurnQueue", "holds", "(Lcom/example/bulkwire/bulkwire/server/TurnQueue$Place;)Z"⟩ : MethodName)) (z := (⟨"com/example/bulkwire/bulkwire/server/TurnQueue", "holds", "(Lcom/example/bulkwire/bulkwire/server/TurnQueue$Place;)Z"⟩ : MethodName)) hown (mvT hZ (hw _ (List.mem_of_getElem? (i := 54) rfl))) (mvT hZ (hw _ (List.mem_of_getElem? (i := 55) rfl))) (notFace_of_selects (args := #[]) (mvT hZ (hw _ (List.mem_of_getElem? (i := 57) rfl)))) (mvT hZ (hw _ (List.mem_of_getElem? (i := 57) rfl))) (mvT hZ (hw _ (List.mem_of_getElem? (i := 56) rfl))) (by decide) (backOf (W := 1) (rm10 l Z a0 hw [] q (P 1)  h8 n0 (Nat.le_trans Z0 z8) P t 1 (by decide) rfl G8) hZ (hw _ (List.mem_of_getElem? (i := 58) rfl)) (hw _ (List.mem_of_getElem? (i := 2) rfl)) (by decide) (by decide)) q16a q16c (g := (mkF m 114 #[.val (.ref q), .val (.ref ps), .val (.ref mm), .val (.int (1 : Int32)), .val (.int ((((own_sel (own_cn vb vc vc (Int32.ofNat t.length) (0 : Int32)) (1 : Int32)) ||| (own_sel (own_cn vb vc vc (Int32.ofNat t.length) (1 : Int32)) (2 : Int32))) ||| (own_sel (own_cn vb vc vc (Int32.ofNat t.length) (2 : Int32)) (4 : Int32))) ||| (own_selN (Int32.ofNat t.length) (8 : Int32)))), .unset] [(.ref (P 1)), (.ref q), (.int (own_sel (own_in t 0) (1 : Int32)))])) rfl (by rw [hml]; rfl) (Steps.refl _) (argsL := [(.ref (P 1))]) (rest := [(.int (own_sel (own_in t 0) (1 : Int32)))]) (lenOf pd_3 rfl) rfl (by show 2 * 0 + _ ≤ _; exact Nat.le_of_eq rfl) (hb hby d8_114) (fun _ _ => ⟨rfl, e14, (by decide : 0 + 0 ≤ _), (by decide : 0 + 0 ≤ _)⟩)
    dsimp only [Pt.U, Pt.locs, Pt.cells, Pt.slots] at X16 l16 y16 z16 st16 hQ16
    subst l16 y16 z16
    obtain ⟨rfl, N16q, e16⟩ := hQ16
    have N16 := Fr.app N14 N16q
    obtain ⟨cl17, Ar17, qq17, S17, Nn17, H17, Gg17⟩ := id B8
    have hin17 : ¬ ((2 : Int32) < 0 ∨ cl17.slots.size ≤ ((2 : Int32)).toNatClampNeg) := inb_of S17 ⟨by decide, by decide⟩
    obtain ⟨cq18, kq18, q18a, q18b, q18c⟩ := isOf hZ e16 G8.1
    obtain ⟨_, _, ⟨T18, L18, k18, n18⟩, -, X18, ⟨Lc18, hQ18, l18, y18, z18⟩, st18⟩ := X16.virtualBack hx (y := (⟨"com/example/bulkwire/bulkwire/server/TurnQueue", "holds", "(Lcom/example/bulkwire/bulkwire/server/TurnQueue$Place;)Z"⟩ : MethodName)) (z := (⟨"com/example/bulkwire/bulkwire/server/TurnQueue", "holds", "(Lcom/example/bulkwire/bulkwire/server/TurnQueue$Place;)Z"⟩ : MethodName)) hown (mvT hZ (hw _ (List.mem_of_getElem? (i := 54) rfl))) (mvT hZ (hw _ (List.mem_of_getElem? (i := 55) rfl))) (notFace_of_selects (args := #[]) (mvT hZ (hw _ (List.mem_of_getElem? (i := 57) rfl)))) (mvT hZ (hw _ (List.mem_of_getElem? (i := 57) rfl))) (mvT hZ (hw _ (List.mem_of_getElem? (i := 56) rfl))) (by decide) (backOf (W := 1) (rm10 l Z a0 hw [] q (P 2)  h8 n0 (Nat.le_trans Z0 z8) P t 2 (by decide) rfl G8) hZ (hw _ (List.mem_of_getElem? (i := 58) rfl)) (hw _ (List.mem_of_getElem? (i := 2) rfl)) (by decide) (by decide)) q18a q18c (g := (mkF m 130 #[.val (.ref q), .val (.ref ps), .val (.ref mm), .val (.int (1 : Int32)), .val (.int ((((own_sel (own_cn vb vc vc (Int32.ofNat t.length) (0 : Int32)) (1 : Int32)) ||| (own_sel (own_cn vb vc vc (Int32.ofNat t.length) (1 : Int32)) (2 : Int32))) ||| (own_sel (own_cn vb vc vc (Int32.ofNat t.length) (2 : Int32)) (4 : Int32))) ||| (own_selN (Int32.ofNat t.length) (8 : Int32)))), .unset] [(.ref (P 2)), (.ref q), (.int ((own_sel (own_in t 0) (1 : Int32)) ||| (own_sel (own_in t 1) (2 : Int32))))])) rfl (by rw [hml]; rfl) (Steps.refl _) (argsL := [(.ref (P 2))]) (rest := [(.int ((own_sel (own_in t 0) (1 : Int32)) ||| (own_sel (own_in t 1) (2 : Int32))))]) (lenOf pd_3 rfl) rfl (by show 2 * 0 + _ ≤ _; exact Nat.le_of_eq rfl) (hb hby d8_130) (fun _ _ => ⟨rfl, e16, (by decide : 0 + 0 ≤ _), (by decide : 0 + 0 ≤ _)⟩)
    dsimp only [Pt.U, Pt.locs, Pt.cells, Pt.slots] at X18 l18 y18 z18 st18 hQ18
    subst l18 y18 z18
    obtain ⟨rfl, N18q, e18⟩ := hQ18
    have N18 := Fr.app N16 N18q
    obtain ⟨cq19, kq19, q19a, q19b, q19c⟩ := isOf hZ e18 G8.1
    obtain ⟨_, _, ⟨T19, L19, k19, n19⟩, -, X19, ⟨Lc19, hQ19, l19, y19, z19⟩, st19⟩ := X18.virtualBack hx (y := (⟨"com/example/bulkwire/bulkwire/server/TurnQueue", "isEmpty", "()Z"⟩ : MethodName)) (z := (⟨"com/example/bulkwire/bulkwire/server/TurnQueue", "isEmpty", "()Z"⟩ : MethodName)) hown (mvT hZ (hw _ (List.mem_of_getElem? (i := 59) rfl))) (mvT hZ (hw _ (List.mem_of_getElem? (i := 60) rfl))) (notFace_of_selects (args := #[]) (mvT hZ (hw _ (List.mem_of_getElem? (i := 62) rfl)))) (mvT hZ (hw _ (List.mem_of_getElem? (i := 62) rfl))) (mvT hZ (hw _ (List.mem_of_getElem? (i := 61) rfl))) (by decide) (backOf (W := 1) (rm11 l Z a0 hw [] q  h8 n0 (Nat.le_trans Z0 z8) P t G8) hZ (hw _ (List.mem_of_getElem? (i := 63) rfl)) (hw _ (List.mem_of_getElem? (i := 2) rfl)) (by decide) (by decide)) q19a q19c (g := (mkF m 143 #[.val (.ref q), .val (.ref ps), .val (.ref mm), .val (.int (1 : Int32)), .val (.int ((((own_sel (own_cn vb vc vc (Int32.ofNat t.length) (0 : Int32)) (1 : Int32)) ||| (own_sel (own_cn vb vc vc (Int32.ofNat t.length) (1 : Int32)) (2 : Int32))) ||| (own_sel (own_cn vb vc vc (Int32.ofNat t.length) (2 : Int32)) (4 : Int32))) ||| (own_selN (Int32.ofNat t.length) (8 : Int32)))), .unset] [(.ref q), (.int (((own_sel (own_in t 0) (1 : Int32)) ||| (own_sel (own_in t 1) (2 : Int32))) ||| (own_sel (own_in t 2) (4 : Int32))))])) rfl (by rw [hml]; rfl) (Steps.refl _) (argsL := []) (rest := [(.int (((own_sel (own_in t 0) (1 : Int32)) ||| (own_sel (own_in t 1) (2 : Int32))) ||| (own_sel (own_in t 2) (4 : Int32))))]) (lenOf pd_4 rfl) rfl (by show 2 * 0 + _ ≤ _; exact Nat.le_of_eq rfl) (hb hby d8_143) (fun _ _ => ⟨rfl, e18, (by decide : 0 + 0 ≤ _), (by decide : 0 + 0 ≤ _)⟩)
    dsimp only [Pt.U, Pt.locs, Pt.cells, Pt.slots] at X19 l19 y19 z19 st19 hQ19
    subst l19 y19 z19
    obtain ⟨rfl, N19q, e19⟩ := hQ19
    have N19 := Fr.app N18 N19q
    obtain ⟨fs, hr, hrun, hended, hW, hsame⟩ := X19.leave (v := some (.int (1 : Int32))) (fun h => by rw [Bd.returns] at h; cases h)
    refine ⟨_, _, pre0 _ ?_, hrun, hended, _, _, rfl, ?_, ⟨_, rfl⟩, hW, hsame.mono (by decide) (by decide)⟩
    · show Steps p.tables e below (s₁.setTop (mkF m 0 #[.val (.ref q), .val (.ref ps), .val (.ref mm), .unset, .unset, .unset] [])) _
      refine XS.aloadN X0.here hx rfl (hb hby d8_0) rfl rfl ?_
      show Steps p.tables e below (s₁.setTop (mkF m 1 #[.val (.ref q), .val (.ref ps), .val (.ref mm), .unset, .unset, .unset] [(.ref q)])) _
      refine st1.trans ?_
      show Steps p.tables e below (T1.setTop (mkF m 4 #[.val (.ref q), .val (.ref ps), .val (.ref mm), .unset, .unset, .unset] [.null])) _
      refine XS.ifnonnullNo X1.here hx rfl (hb hby d8_4) rfl ?_
      show Steps p.tables e below (T1.setTop (mkF m 7 #[.val (.ref q), .val (.ref ps), .val (.ref mm), .unset, .unset, .unset] [])) _
      refine XS.iconst X1.here hx rfl (hb hby d8_7) ?_
      show Steps p.tables e below (T1.setTop (mkF m 8 #[.val (.ref q), .val (.ref ps), .val (.ref mm), .unset, .unset, .unset] [(.int (1 : Int32))])) _
      refine XS.goto X1.here hx rfl (pc0 := 8) (pc' := 12) rfl (hb hby d8_8) (by decide) (by decide) ?_
      show Steps p.tables e below (T1.setTop (mkF m 12 #[.val (.ref q), .val (.ref ps), .val (.ref mm), .unset, .unset, .unset] [(.int (1 : Int32))])) _
      refine XS.istoreN X1.here hx rfl (hb hby d8_12) rfl (l' := #[.val (.ref q), .val (.ref ps), .val (.ref mm), .val (.int (1 : Int32)), .unset, .unset]) rfl ?_
      show Steps p.tables e below (T1.setTop (mkF m 13 #[.val (.ref q), .val (.ref ps), .val (.ref mm), .val (.int (1 : Int32)), .unset, .unset] [])) _
      refine XS.aloadN X1.here hx rfl (hb hby d8_13) rfl rfl ?_
      show Steps p.tables e below (T1.setTop (mkF m 14 #[.val (.ref q), .val (.ref ps), .val (.ref mm), .val (.int (1 : Int32)), .unset, .unset] [(.ref mm)])) _
      refine XS.iconst X1.here hx rfl (hb hby d8_14) ?_
      show Steps p.tables e below (T1.setTop (mkF m 15 #[.val (.ref q), .val (.ref ps), .val (.ref mm), .val (.int (1 : Int32)), .unset, .unset] [(.int (3 : Int32)), (.ref mm)])) _
      refine X1.iaload hx (j := (3 : Int32)) (v := (.int (Int32.ofNat (t.length + 1)))) Ar2.1 (State.isArrayOf_alike hZ.alike Ar2.2.1) Ar2.2.2 hin2 (Has.at H2 hin2 rfl) (g := (mkF m 15 #[.val (.ref q), .val (.ref ps), .val (.ref mm), .val (.int (1 : Int32)), .unset, .unset] [(.int (3 : Int32)), (.ref mm)])) rfl rfl (hb hby d8_15) _ ?_
      show Steps p.tables e below (T1.setTop (mkF m 16 #[.val (.ref q), .val (.ref ps), .val (.ref mm), .val (.int (1 : Int32)), .unset, .unset] [(.int (Int32.ofNat (t.length + 1)))])) _
      refine XS.ifNo X1.here hx rfl (hb hby d8_16) rfl ((if0 _ _).trans (tlt (hpos)).2.2.2) ?_
      show Steps p.tables e below (T1.setTop (mkF m 19 #[.val (.ref q), .val (.ref ps), .val (.ref mm), .val (.int (1 : Int32)), .unset, .unset] [])) _
      refine XS.aloadN X1.here hx rfl (hb hby d8_19) rfl rfl ?_
      show Steps p.tables e below (T1.setTop (mkF m 20 #[.val (.ref q), .val (.ref ps), .val (.ref mm), .val (.int (1 : Int32)), .unset, .unset] [(.ref mm)])) _
      refine XS.iconst X1.here hx rfl (hb hby d8_20) ?_
      show Steps p.tables e below (T1.setTop (mkF m 21 #[.val (.ref q), .val (.ref ps), .val (.ref mm), .val (.int (1 : Int32)), .unset, .unset] [(.int (0 : Int32)), (.ref mm)])) _
      refine XS.aloadN X1.here hx rfl (hb hby d8_21) rfl rfl ?_
      show Steps p.tables e below (T1.setTop (mkF m 22 #[.val (.ref q), .val (.ref ps), .val (.ref mm), .val (.int (1 : Int32)), .unset, .unset] [(.ref mm), (.int (0 : Int32)), (.ref mm)])) _
      refine XS.iconst X1.here hx rfl (hb hby d8_22) ?_
      show Steps p.tables e below (T1.setTop (mkF m 23 #[.val (.ref q), .val (.ref ps), .val (.ref mm), .val (.int (1 : Int32)), .unset, .unset] [(.int (1 : Int32)), (.ref mm), (.int (0 : Int32)), (.ref mm)])) _
      refine X1.iaload hx (j := (1 : Int32)) (v := (.int vb)) Ar3.1 (State.isArrayOf_alike hZ.alike Ar3.2.1) Ar3.2.2 hin3 (Has.at H3 hin3 rfl) (g := (mkF m 23 #[.val (.ref q), .val (.ref ps), .val (.ref mm), .val (.int (1 : Int32)), .unset, .unset] [(.int (1 : Int32)), (.ref mm), (.int (0 : Int32)), (.ref mm)])) rfl rfl (hb hby d8_23) _ ?_
      show Steps p.tables e below (T1.setTop (mkF m 24 #[.val (.ref q), .val (.ref ps), .val (.ref mm), .val (.int (1 : Int32)), .unset, .unset] [(.int vb), (.int (0 : Int32)), (.ref mm)])) _
      refine st4 _ ?_
      show Steps p.tables e below (T4.setTop (mkF m 25 #[.val (.ref q), .val (.ref ps), .val (.ref mm), .val (.int (1 : Int32)), .unset, .unset] [])) _
      refine XS.aloadN X4.here hx rfl (hb hby d8_25) rfl rfl ?_
      show Steps p.tables e below (T4.setTop (mkF m 26 #[.val (.ref q), .val (.ref ps), .val (.ref mm), .val (.int (1 : Int32)), .unset, .unset] [(.ref mm)])) _
      refine XS.iconst X4.here hx rfl (hb hby d8_26) ?_
      show Steps p.tables e below (T4.setTop (mkF m 27 #[.val (.ref q), .val (.ref ps), .val (.ref mm), .val (.int (1 : Int32)), .unset, .unset] [(.int (1 : Int32)), (.ref mm)])) _
      refine XS.aloadN X4.here hx rfl (hb hby d8_27) rfl rfl ?_
      show Steps p.tables e below (T4.setTop (mkF m 28 #[.val (.ref q), .val (.ref ps), .val (.ref mm), .val (.int (1 : Int32)), .unset, .unset] [(.ref mm), (.int (1 : Int32)), (.ref mm)])) _
      refine XS.iconst X4.here hx rfl (hb hby d8_28) ?_
      show Steps p.tables e below (T4.setTop (mkF m 29 #[.val (.ref q), .val (.ref ps), .val (.ref mm), .val (.int (1 : Int32)), .unset, .unset] [(.int (2 : Int32)), (.ref mm), (.int (1 : Int32)), (.ref mm)])) _
      refine X4.iaload hx (j := (2 : Int32)) (v := (.int vc)) (by rw [e4]; exact Ar5.1) (State.isArrayOf_alike hZ.alike Ar5.2.1) Ar5.2.2 hin5 (Has.at H5 hin5 rfl) (g := (mkF m 29 #[.val (.ref q), .val (.ref ps), .val (.ref mm), .val (.int (1 : Int32)), .unset, .unset] [(.int (2 : Int32)), (.ref mm), (.int (1 : Int32)), (.ref mm)])) rfl rfl (hb hby d8_29) _ ?_
      show Steps p.tables e below (T4.setTop (mkF m 30 #[.val (.ref q), .val (.ref ps), .val (.ref mm), .val (.int (1 : Int32)), .unset, .unset] [(.int vc), (.int (1 : Int32)), (.ref mm)])) _
      refine st6 _ ?_
      show Steps p.tables e below (T6.setTop (mkF m 31 #[.val (.ref q), .val (.ref ps), .val (.ref mm), .val (.int (1 : Int32)), .unset, .unset] [])) _
      refine XS.aloadN X6.here hx rfl (hb hby d8_31) rfl rfl ?_
      show Steps p.tables e below (T6.setTop (mkF m 32 #[.val (.ref q), .val (.ref ps), .val (.ref mm), .val (.int (1 : Int32)), .unset, .unset] [(.ref mm)])) _
      refine XS.iconst X6.here hx rfl (hb hby d8_32) ?_
      show Steps p.tables e below (T6.setTop (mkF m 33 #[.val (.ref q), .val (.ref ps), .val (.ref mm), .val (.int (1 : Int32)), .unset, .unset] [(.int (3 : Int32)), (.ref mm)])) _
      refine XS.aloadN X6.here hx rfl (hb hby d8_33) rfl rfl ?_
      show Steps p.tables e below (T6.setTop (mkF m 34 #[.val (.ref q), .val (.ref ps), .val (.ref mm), .val (.int (1 : Int32)), .unset, .unset] [(.ref mm), (.int (3 : Int32)), (.ref mm)])) _
      refine XS.iconst X6.here hx rfl (hb hby d8_34) ?_
      show Steps p.tables e below (T6.setTop (mkF m 35 #[.val (.ref q), .val (.ref ps), .val (.ref mm), .val (.int (1 : Int32)), .unset, .unset] [(.int (3 : Int32)), (.ref mm), (.int (3 : Int32)), (.ref mm)])) _
      refine X6.iaload hx (j := (3 : Int32)) (v := (.int (Int32.ofNat (t.length + 1)))) (by rw [e6]; exact Ar7.1) (State.isArrayOf_alike hZ.alike Ar7.2.1) Ar7.2.2 hin7 (Has.at H7 hin7 rfl) (g := (mkF m 35 #[.val (.ref q), .val (.ref ps), .val (.ref mm), .val (.int (1 : Int32)), .unset, .unset] [(.int (3 : Int32)), (.ref mm), (.int (3 : Int32)), (.ref mm)])) rfl rfl (hb hby d8_35) _ ?_
      show Steps p.tables e below (T6.setTop (mkF m 36 #[.val (.ref q), .val (.ref ps), .val (.ref mm), .val (.int (1 : Int32)), .unset, .unset] [(.int (Int32.ofNat (t.length + 1))), (.int (3 : Int32)), (.ref mm)])) _
      refine XS.iconst X6.here hx rfl (hb hby d8_36) ?_
      show Steps p.tables e below (T6.setTop (mkF m 37 #[.val (.ref q), .val (.ref ps), .val (.ref mm), .val (.int (1 : Int32)), .unset, .unset] [(.int (1 : Int32)), (.int (Int32.ofNat (t.length + 1))), (.int (3 : Int32)), (.ref mm)])) _
      refine XS.isub X6.here hx rfl (hb hby d8_37) rfl ?_
      show Steps p.tables e below (T6.setTop (mkF m 38 #[.val (.ref q), .val (.ref ps), .val (.ref mm), .val (.int (1 : Int32)), .unset, .unset] [(.int ((Int32.ofNat (t.length + 1)) - (1 : Int32))), (.int (3 : Int32)), (.ref mm)])) _
      refine st8 _ ?_
      show Steps p.tables e below (T8.setTop (mkF m 39 #[.val (.ref q), .val (.ref ps), .val (.ref mm), .val (.int (1 : Int32)), .unset, .unset] [])) _
      refine XS.aloadN X8.here hx rfl (hb hby d8_39) rfl rfl ?_
      show Steps p.tables e below (T8.setTop (mkF m 40 #[.val (.ref q), .val (.ref ps), .val (.ref mm), .val (.int (1 : Int32)), .unset, .unset] [(.ref mm)])) _
      refine XS.iconst X8.here hx rfl (hb hby d8_40) ?_
      show Steps p.tables e below (T8.setTop (mkF m 41 #[.val (.ref q), .val (.ref ps), .val (.ref mm), .val (.int (1 : Int32)), .unset, .unset] [(.int (0 : Int32)), (.ref mm)])) _
      refine st9 _ ?_
      show Steps p.tables e below (T9.setTop (mkF m 44 #[.val (.ref q), .val (.ref ps), .val (.ref mm), .val (.int (1 : Int32)), .unset, .unset] [(.int (own_cn vb vc vc (Int32.ofNat t.length) (0 : Int32)))])) _
      refine sel_8_44 X9 hx hby _ _ _ _ ?_
      show Steps p.tables e below (T9.setTop (mkF m 52 #[.val (.ref q), .val (.ref ps), .val (.ref mm), .val (.int (1 : Int32)), .unset, .unset] [(.int (own_sel (own_cn vb vc vc (Int32.ofNat t.length) (0 : Int32)) (1 : Int32)))])) _
      refine XS.aloadN X9.here hx rfl (hb hby d8_52) rfl rfl ?_
      show Steps p.tables e below (T9.setTop (mkF m 53 #[.val (.ref q), .val (.ref ps), .val (.ref mm), .val (.int (1 : Int32)), .unset, .unset] [(.ref mm), (.int (own_sel (own_cn vb vc vc (Int32.ofNat t.length) (0 : Int32)) (1 : Int32)))])) _
      refine XS.iconst X9.here hx rfl (hb hby d8_53) ?_
      show Steps p.tables e below (T9.setTop (mkF m 54 #[.val (.ref q), .val (.ref ps), .val (.ref mm), .val (.int (1 : Int32)), .unset, .unset] [(.int (1 : Int32)), (.ref mm), (.int (own_sel (own_cn vb vc vc (Int32.ofNat t.length) (0 : Int32)) (1 : Int32)))])) _
      refine st10 _ ?_
      show Steps p.tables e below (T10.setTop (mkF m 57 #[.val (.ref q), .val (.ref ps), .val (.ref mm), .val (.int (1 : Int32)), .unset, .unset] [(.int (own_cn vb vc vc (Int32.ofNat t.length) (1 : Int32))), (.int (own_sel (own_cn vb vc vc (Int32.ofNat t.length) (0 : Int32)) (1 : Int32)))])) _
      refine sel_8_57 X10 hx hby _ _ _ _ ?_
      show Steps p.tables e below (T10.setTop (mkF m 65 #[.val (.ref q), .val (.ref ps), .val (.ref mm), .val (.int (1 : Int32)), .unset, .unset] [(.int (own_sel (own_cn vb vc vc (Int32.ofNat t.length) (1 : Int32)) (2 : Int32))), (.int (own_sel (own_cn vb vc vc (Int32.ofNat t.length) (0 : Int32)) (1 : Int32)))])) _
      refine XS.ior X10.here hx rfl (hb hby d8_65) rfl ?_
      show Steps p.tables e below (T10.setTop (mkF m 66 #[.val (.ref q), .val (.ref ps), .val (.ref mm), .val (.int (1 : Int32)), .unset, .unset] [(.int ((own_sel (own_cn vb vc vc (Int32.ofNat t.length) (0 : Int32)) (1 : Int32)) ||| (own_sel (own_cn vb vc vc (Int32.ofNat t.length) (1 : Int32)) (2 : Int32))))])) _
      refine XS.aloadN X10.here hx rfl (hb hby d8_66) rfl rfl ?_
      show Steps p.tables e below (T10.setTop (mkF m 67 #[.val (.ref q), .val (.ref ps), .val (.ref mm), .val (.int (1 : Int32)), .unset, .unset] [(.ref mm), (.int ((own_sel (own_cn vb vc vc (Int32.ofNat t.length) (0 : Int32)) (1 : Int32)) ||| (own_sel (own_cn vb vc vc (Int32.ofNat t.length) (1 : Int32)) (2 : Int32))))])) _
      refine XS.iconst X10.here hx rfl (hb hby d8_67) ?_
      show Steps p.tables e below (T10.setTop (mkF m 68 #[.val (.ref q), .val (.ref ps), .val (.ref mm), .val (.int (1 : Int32)), .unset, .unset] [(.int (2 : Int32)), (.ref mm), (.int ((own_sel (own_cn vb vc vc (Int32.ofNat t.length) (0 : Int32)) (1 : Int32)) ||| (own_sel (own_cn vb vc vc (Int32.ofNat t.length) (1 : Int32)) (2 : Int32))))])) _
      refine st11 _ ?_
      show Steps p.tables e below (T11.setTop (mkF m 71 #[.val (.ref q), .val (.ref ps), .val (.ref mm), .val (.int (1 : Int32)), .unset, .unset] [(.int (own_cn vb vc vc (Int32.ofNat t.length) (2 : Int32))), (.int ((own_sel (own_cn vb vc vc (Int32.ofNat t.length) (0 : Int32)) (1 : Int32)) ||| (own_sel (own_cn vb vc vc (Int32.ofNat t.length) (1 : Int32)) (2 : Int32))))])) _
      refine sel_8_71 X11 hx hby _ _ _ _ ?_
      show Steps p.tables e below (T11.setTop (mkF m 79 #[.val (.ref q), .val (.ref ps), .val (.ref mm), .val (.int (1 : Int32)), .unset, .unset] [(.int (own_sel (own_cn vb vc vc (Int32.ofNat t.length) (2 : Int32)) (4 : Int32))), (.int ((own_sel (own_cn vb vc vc (Int32.ofNat t.length) (0 : Int32)) (1 : Int32)) ||| (own_sel (own_cn vb vc vc (Int32.ofNat t.length) (1 : Int32)) (2 : Int32))))])) _
      refine XS.ior X11.here hx rfl (hb hby d8_79) rfl ?_
      show Steps p.tables e below (T11.setTop (mkF m 80 #[.val (.ref q), .val (.ref ps), .val (.ref mm), .val (.int (1 : Int32)), .unset, .unset] [(.int (((own_sel (own_cn vb vc vc (Int32.ofNat t.length) (0 : Int32)) (1 : Int32)) ||| (own_sel (own_cn vb vc vc (Int32.ofNat t.length) (1 : Int32)) (2 : Int32))) ||| (own_sel (own_cn vb vc vc (Int32.ofNat t.length) (2 : Int32)) (4 : Int32))))])) _
      refine XS.aloadN X11.here hx rfl (hb hby d8_80) rfl rfl ?_
      show Steps p.tables e below (T11.setTop (mkF m 81 #[.val (.ref q), .val (.ref ps), .val (.ref mm), .val (.int (1 : Int32)), .unset, .unset] [(.ref mm), (.int (((own_sel (own_cn vb vc vc (Int32.ofNat t.length) (0 : Int32)) (1 : Int32)) ||| (own_sel (own_cn vb vc vc (Int32.ofNat t.length) (1 : Int32)) (2 : Int32))) ||| (own_sel (own_cn vb vc vc (Int32.ofNat t.length) (2 : Int32)) (4 : Int32))))])) _
      refine XS.iconst X11.here hx rfl (hb hby d8_81) ?_
      show Steps p.tables e below (T11.setTop (mkF m 82 #[.val (.ref q), .val (.ref ps), .val (.ref mm), .val (.int (1 : Int32)), .unset, .unset] [(.int (3 : Int32)), (.ref mm), (.int (((own_sel (own_cn vb vc vc (Int32.ofNat t.length) (0 : Int32)) (1 : Int32)) ||| (own_sel (own_cn vb vc vc (Int32.ofNat t.length) (1 : Int32)) (2 : Int32))) ||| (own_sel (own_cn vb vc vc (Int32.ofNat t.length) (2 : Int32)) (4 : Int32))))])) _
      refine X11.iaload hx (j := (3 : Int32)) (v := (.int (Int32.ofNat t.length))) (by rw [e11]; exact Ar12.1) (State.isArrayOf_alike hZ.alike Ar12.2.1) Ar12.2.2 hin12 (Has.at H12 hin12 rfl) (g := (mkF m 82 #[.val (.ref q), .val (.ref ps), .val (.ref mm), .val (.int (1 : Int32)), .unset, .unset] [(.int (3 : Int32)), (.ref mm), (.int (((own_sel (own_cn vb vc vc (Int32.ofNat t.length) (0 : Int32)) (1 : Int32)) ||| (own_sel (own_cn vb vc vc (Int32.ofNat t.length) (1 : Int32)) (2 : Int32))) ||| (own_sel (own_cn vb vc vc (Int32.ofNat t.length) (2 : Int32)) (4 : Int32))))])) rfl rfl (hb hby d8_82) _ ?_
      show Steps p.tables e below (T11.setTop (mkF m 83 #[.val (.ref q), .val (.ref ps), .val (.ref mm), .val (.int (1 : Int32)), .unset, .unset] [(.int (Int32.ofNat t.length)), (.int (((own_sel (own_cn vb vc vc (Int32.ofNat t.length) (0 : Int32)) (1 : Int32)) ||| (own_sel (own_cn vb vc vc (Int32.ofNat t.length) (1 : Int32)) (2 : Int32))) ||| (own_sel (own_cn vb vc vc (Int32.ofNat t.length) (2 : Int32)) (4 : Int32))))])) _
      refine sel_8_83 X11 hx hby _ _ _ _ ?_
      show Steps p.tables e below (T11.setTop (mkF m 92 #[.val (.ref q), .val (.ref ps), .val (.ref mm), .val (.int (1 : Int32)), .unset, .unset] [(.int (own_selN (Int32.ofNat t.length) (8 : Int32))), (.int (((own_sel (own_cn vb vc vc (Int32.ofNat t.length) (0 : Int32)) (1 : Int32)) ||| (own_sel (own_cn vb vc vc (Int32.ofNat t.length) (1 : Int32)) (2 : Int32))) ||| (own_sel (own_cn vb vc vc (Int32.ofNat t.length) (2 : Int32)) (4 : Int32))))])) _
      refine XS.ior X11.here hx rfl (hb hby d8_92) rfl ?_
      show Steps p.tables e below (T11.setTop (mkF m 93 #[.val (.ref q), .val (.ref ps), .val (.ref mm), .val (.int (1 : Int32)), .unset, .unset] [(.int ((((own_sel (own_cn vb vc vc (Int32.ofNat t.length) (0 : Int32)) (1 : Int32)) ||| (own_sel (own_cn vb vc vc (Int32.ofNat t.length) (1 : Int32)) (2 : Int32))) ||| (own_sel (own_cn vb vc vc (Int32.ofNat t.length) (2 : Int32)) (4 : Int32))) ||| (own_selN (Int32.ofNat t.length) (8 : Int32))))])) _
      refine XS.istore X11.here hx rfl (hb hby d8_93) rfl (l' := #[.val (.ref q), .val (.ref ps), .val (.ref mm), .val (.int (1 : Int32)), .val (.int ((((own_sel (own_cn vb vc vc (Int32.ofNat t.length) (0 : Int32)) (1 : Int32)) ||| (own_sel (own_cn vb vc vc (Int32.ofNat t.length) (1 : Int32)) (2 : Int32))) ||| (own_sel (own_cn vb vc vc (Int32.ofNat t.length) (2 : Int32)) (4 : Int32))) ||| (own_selN (Int32.ofNat t.length) (8 : Int32)))), .unset]) rfl ?_
      show Steps p.tables e below (T11.setTop (mkF m 95 #[.val (.ref q), .val (.ref ps), .val (.ref mm), .val (.int (1 : Int32)), .val (.int ((((own_sel (own_cn vb vc vc (Int32.ofNat t.length) (0 : Int32)) (1 : Int32)) ||| (own_sel (own_cn vb vc vc (Int32.ofNat t.length) (1 : Int32)) (2 : Int32))) ||| (own_sel (own_cn vb vc vc (Int32.ofNat t.length) (2 : Int32)) (4 : Int32))) ||| (own_selN (Int32.ofNat t.length) (8 : Int32)))), .unset] [])) _
      refine XS.aloadN X11.here hx rfl (hb hby d8_95) rfl rfl ?_
      show Steps p.tables e below (T11.setTop (mkF m 96 #[.val (.ref q), .val (.ref ps), .val (.ref mm), .val (.int (1 : Int32)), .val (.int ((((own_sel (own_cn vb vc vc (Int32.ofNat t.length) (0 : Int32)) (1 : Int32)) ||| (own_sel (own_cn vb vc vc (Int32.ofNat t.length) (1 : Int32)) (2 : Int32))) ||| (own_sel (own_cn vb vc vc (Int32.ofNat t.length) (2 : Int32)) (4 : Int32))) ||| (own_selN (Int32.ofNat t.length) (8 : Int32)))), .unset] [(.ref q)])) _
      refine XS.aloadN X11.here hx rfl (hb hby d8_96) rfl rfl ?_
      show Steps p.tables e below (T11.setTop (mkF m 97 #[.val (.ref q), .val (.ref ps), .val (.ref mm), .val (.int (1 : Int32)), .val (.int ((((own_sel (own_cn vb vc vc (Int32.ofNat t.length) (0 : Int32)) (1 : Int32)) ||| (own_sel (own_cn vb vc vc (Int32.ofNat t.length) (1 : Int32)) (2 : Int32))) ||| (own_sel (own_cn vb vc vc (Int32.ofNat t.length) (2 : Int32)) (4 : Int32))) ||| (own_selN (Int32.ofNat t.length) (8 : Int32)))), .unset] [(.ref ps), (.ref q)])) _
      refine XS.iconst X11.here hx rfl (hb hby d8_97) ?_
      show Steps p.tables e below (T11.setTop (mkF m 98 #[.val (.ref q), .val (.ref ps), .val (.ref mm), .val (.int (1 : Int32)), .val (.int ((((own_sel (own_cn vb vc vc (Int32.ofNat t.length) (0 : Int32)) (1 : Int32)) ||| (own_sel (own_cn vb vc vc (Int32.ofNat t.length) (1 : Int32)) (2 : Int32))) ||| (own_sel (own_cn vb vc vc (Int32.ofNat t.length) (2 : Int32)) (4 : Int32))) ||| (own_selN (Int32.ofNat t.length) (8 : Int32)))), .unset] [(.int (0 : Int32)), (.ref ps), (.ref q)])) _
      refine X11.aaload hx (j := (0 : Int32)) (v := (.ref (P 0))) (by rw [e11]; exact Ar13.1) (State.isArrayOf_alike hZ.alike Ar13.2.1) rfl Ar13.2.2 hin13 (Has.at H13 hin13 rfl) (g := (mkF m 98 #[.val (.ref q), .val (.ref ps), .val (.ref mm), .val (.int (1 : Int32)), .val (.int ((((own_sel (own_cn vb vc vc (Int32.ofNat t.length) (0 : Int32)) (1 : Int32)) ||| (own_sel (own_cn vb vc vc (Int32.ofNat t.length) (1 : Int32)) (2 : Int32))) ||| (own_sel (own_cn vb vc vc (Int32.ofNat t.length) (2 : Int32)) (4 : Int32))) ||| (own_selN (Int32.ofNat t.length) (8 : Int32)))), .unset] [(.int (0 : Int32)), (.ref ps), (.ref q)])) rfl rfl (hb hby d8_98) _ ?_
      show Steps p.tables e below (T11.setTop (mkF m 99 #[.val (.ref q), .val (.ref ps), .val (.ref mm), .val (.int (1 : Int32)), .val (.int ((((own_sel (own_cn vb vc vc (Int32.ofNat t.length) (0 : Int32)) (1 : Int32)) ||| (own_sel (own_cn vb vc vc (Int32.ofNat t.length) (1 : Int32)) (2 : Int32))) ||| (own_sel (own_cn vb vc vc (Int32.ofNat t.length) (2 : Int32)) (4 : Int32))) ||| (own_selN (Int32.ofNat t.length) (8 : Int32)))), .unset] [(.ref (P 0)), (.ref q)])) _
      refine st14.trans ?_
      show Steps p.tables e below (T14.setTop (mkF m 102 #[.val (.ref q), .val (.ref ps), .val (.ref mm), .val (.int (1 : Int32)), .val (.int ((((own_sel (own_cn vb vc vc (Int32.ofNat t.length) (0 : Int32)) (1 : Int32)) ||| (own_sel (own_cn vb vc vc (Int32.ofNat t.length) (1 : Int32)) (2 : Int32))) ||| (own_sel (own_cn vb vc vc (Int32.ofNat t.length) (2 : Int32)) (4 : Int32))) ||| (own_selN (Int32.ofNat t.length) (8 : Int32)))), .unset] [(.int (own_in t 0))])) _
      refine sel_8_102 X14 hx hby _ _ _ _ ?_
      show Steps p.tables e below (T14.setTop (mkF m 110 #[.val (.ref q), .val (.ref ps), .val (.ref mm), .val (.int (1 : Int32)), .val (.int ((((own_sel (own_cn vb vc vc (Int32.ofNat t.length) (0 : Int32)) (1 : Int32)) ||| (own_sel (own_cn vb vc vc (Int32.ofNat t.length) (1 : Int32)) (2 : Int32))) ||| (own_sel (own_cn vb vc vc (Int32.ofNat t.length) (2 : Int32)) (4 : Int32))) ||| (own_selN (Int32.ofNat t.length) (8 : Int32)))), .unset] [(.int (own_sel (own_in t 0) (1 : Int32)))])) _
      refine XS.aloadN X14.here hx rfl (hb hby d8_110) rfl rfl ?_
      show Steps p.tables e below (T14.setTop (mkF m 111 #[.val (.ref q), .val (.ref ps), .val (.ref mm), .val (.int (1 : Int32)), .val (.int ((((own_sel (own_cn vb vc vc (Int32.ofNat t.length) (0 : Int32)) (1 : Int32)) ||| (own_sel (own_cn vb vc vc (Int32.ofNat t.length) (1 : Int32)) (2 : Int32))) ||| (own_sel (own_cn vb vc vc (Int32.ofNat t.length) (2 : Int32)) (4 : Int32))) ||| (own_selN (Int32.ofNat t.length) (8 : Int32)))), .unset] [(.ref q), (.int (own_sel (own_in t 0) (1 : Int32)))])) _
      refine XS.aloadN X14.here hx rfl (hb hby d8_111) rfl rfl ?_
      show Steps p.tables e below (T14.setTop (mkF m 112 #[.val (.ref q), .val (.ref ps), .val (.ref mm), .val (.int (1 : Int32)), .val (.int ((((own_sel (own_cn vb vc vc (Int32.ofNat t.length) (0 : Int32)) (1 : Int32)) ||| (own_sel (own_cn vb vc vc (Int32.ofNat t.length) (1 : Int32)) (2 : Int32))) ||| (own_sel (own_cn vb vc vc (Int32.ofNat t.length) (2 : Int32)) (4 : Int32))) ||| (own_selN (Int32.ofNat t.length) (8 : Int32)))), .unset] [(.ref ps), (.ref q), (.int (own_sel (own_in t 0) (1 : Int32)))])) _
      refine XS.iconst X14.here hx rfl (hb hby d8_112) ?_
      show Steps p.tables e below (T14.setTop (mkF m 113 #[.val (.ref q), .val (.ref ps), .val (.ref mm), .val (.int (1 : Int32)), .val (.int ((((own_sel (own_cn vb vc vc (Int32.ofNat t.length) (0 : Int32)) (1 : Int32)) ||| (own_sel (own_cn vb vc vc (Int32.ofNat t.length) (1 : Int32)) (2 : Int32))) ||| (own_sel (own_cn vb vc vc (Int32.ofNat t.length) (2 : Int32)) (4 : Int32))) ||| (own_selN (Int32.ofNat t.length) (8 : Int32)))), .unset] [(.int (1 : Int32)), (.ref ps), (.ref q), (.int (own_sel (own_in t 0) (1 : Int32)))])) _
      refine X14.aaload hx (j := (1 : Int32)) (v := (.ref (P 1))) (by rw [e14]; exact Ar15.1) (State.isArrayOf_alike hZ.alike Ar15.2.1) rfl Ar15.2.2 hin15 (Has.at H15 hin15 rfl) (g := (mkF m 113 #[.val (.ref q), .val (.ref ps), .val (.ref mm), .val (.int (1 : Int32)), .val (.int ((((own_sel (own_cn vb vc vc (Int32.ofNat t.length) (0 : Int32)) (1 : Int32)) ||| (own_sel (own_cn vb vc vc (Int32.ofNat t.length) (1 : Int32)) (2 : Int32))) ||| (own_sel (own_cn vb vc vc (Int32.ofNat t.length) (2 : Int32)) (4 : Int32))) ||| (own_selN (Int32.ofNat t.length) (8 : Int32)))), .unset] [(.int (1 : Int32)), (.ref ps), (.ref q), (.int (own_sel (own_in t 0) (1 : Int32)))])) rfl rfl (hb hby d8_113) _ ?_
      show Steps p.tables e below (T14.setTop (mkF m 114 #[.val (.ref q), .val (.ref ps), .val (.ref mm), .val (.int (1 : Int32)), .val (.int ((((own_sel (own_cn vb vc vc (Int32.ofNat t.length) (0 : Int32)) (1 : Int32)) ||| (own_sel (own_cn vb vc vc (Int32.ofNat t.length) (1 : Int32)) (2 : Int32))) ||| (own_sel (own_cn vb vc vc (Int32.ofNat t.length) (2 : Int32)) (4 : Int32))) ||| (own_selN (Int32.ofNat t.length) (8 : Int32)))), .unset] [(.ref (P 1)), (.ref q), (.int (own_sel (own_in t 0) (1 : Int32)))])) _
      refine st16.trans ?_
      show Steps p.tables e below (T16.setTop (mkF m 117 #[.val (.ref q), .val (.ref ps), .val (.ref mm), .val (.int (1 : Int32)), .val (.int ((((own_sel (own_cn vb vc vc (Int32.ofNat t.length) (0 : Int32)) (1 : Int32)) ||| (own_sel (own_cn vb vc vc (Int32.ofNat t.length) (1 : Int32)) (2 : Int32))) ||| (own_sel (own_cn vb vc vc (Int32.ofNat t.length) (2 : Int32)) (4 : Int32))) ||| (own_selN (Int32.ofNat t.length) (8 : Int32)))), .unset] [(.int (own_in t 1)), (.int (own_sel (own_in t 0) (1 : Int32)))])) _
      refine sel_8_117 X16 hx hby _ _ _ _ ?_
      show Steps p.tables e below (T16.setTop (mkF m 125 #[.val (.ref q), .val (.ref ps), .val (.ref mm), .val (.int (1 : Int32)), .val (.int ((((own_sel (own_cn vb vc vc (Int32.ofNat t.length) (0 : Int32)) (1 : Int32)) ||| (own_sel (own_cn vb vc vc (Int32.ofNat t.length) (1 : Int32)) (2 : Int32))) ||| (own_sel (own_cn vb vc vc (Int32.ofNat t.length) (2 : Int32)) (4 : Int32))) ||| (own_selN (Int32.ofNat t.length) (8 : Int32)))), .unset] [(.int (own_sel (own_in t 1) (2 : Int32))), (.int (own_sel (own_in t 0) (1 : Int32)))])) _
      refine XS.ior X16.here hx rfl (hb hby d8_125) rfl ?_
      show Steps p.tables e below (T16.setTop (mkF m 126 #[.val (.ref q), .val (.ref ps), .val (.ref mm), .val (.int (1 : Int32)), .val (.int ((((own_sel (own_cn vb vc vc (Int32.ofNat t.length) (0 : Int32)) (1 : Int32)) ||| (own_sel (own_cn vb vc vc (Int32.ofNat t.length) (1 : Int32)) (2 : Int32))) ||| (own_sel (own_cn vb vc vc (Int32.ofNat t.length) (2 : Int32)) (4 : Int32))) ||| (own_selN (Int32.ofNat t.length) (8 : Int32)))), .unset] [(.int ((own_sel (own_in t 0) (1 : Int32)) ||| (own_sel (own_in t 1) (2 : Int32))))])) _
      refine XS.aloadN X16.here hx rfl (hb hby d8_126) rfl rfl ?_
      show Steps p.tables e below (T16.setTop (mkF m 127 #[.val (.ref q), .val (.ref ps), .val (.ref mm), .val (.int (1 : Int32)), .val (.int ((((own_sel (own_cn vb vc vc (Int32.ofNat t.length) (0 : Int32)) (1 : Int32)) ||| (own_sel (own_cn vb vc vc (Int32.ofNat t.length) (1 : Int32)) (2 : Int32))) ||| (own_sel (own_cn vb vc vc (Int32.ofNat t.length) (2 : Int32)) (4 : Int32))) ||| (own_selN (Int32.ofNat t.length) (8 : Int32)))), .unset] [(.ref q), (.int ((own_sel (own_in t 0) (1 : Int32)) ||| (own_sel (own_in t 1) (2 : Int32))))])) _
      refine XS.aloadN X16.here hx rfl (hb hby d8_127) rfl rfl ?_
      show Steps p.tables e below (T16.setTop (mkF m 128 #[.val (.ref q), .val (.ref ps), .val (.ref mm), .val (.int (1 : Int32)), .val (.int ((((own_sel (own_cn vb vc vc (Int32.ofNat t.length) (0 : Int32)) (1 : Int32)) ||| (own_sel (own_cn vb vc vc (Int32.ofNat t.length) (1 : Int32)) (2 : Int32))) ||| (own_sel (own_cn vb vc vc (Int32.ofNat t.length) (2 : Int32)) (4 : Int32))) ||| (own_selN (Int32.ofNat t.length) (8 : Int32)))), .unset] [(.ref ps), (.ref q), (.int ((own_sel (own_in t 0) (1 : Int32)) ||| (own_sel (own_in t 1) (2 : Int32))))])) _
      refine XS.iconst X16.here hx rfl (hb hby d8_128) ?_
      show Steps p.tables e below (T16.setTop (mkF m 129 #[.val (.ref q), .val (.ref ps), .val (.ref mm), .val (.int (1 : Int32)), .val (.int ((((own_sel (own_cn vb vc vc (Int32.ofNat t.length) (0 : Int32)) (1 : Int32)) ||| (own_sel (own_cn vb vc vc (Int32.ofNat t.length) (1 : Int32)) (2 : Int32))) ||| (own_sel (own_cn vb vc vc (Int32.ofNat t.length) (2 : Int32)) (4 : Int32))) ||| (own_selN (Int32.ofNat t.length) (8 : Int32)))), .unset] [(.int (2 : Int32)), (.ref ps), (.ref q), (.int ((own_sel (own_in t 0) (1 : Int32)) ||| (own_sel (own_in t 1) (2 : Int32))))])) _
      refine X16.aaload hx (j := (2 : Int32)) (v := (.ref (P 2))) (by rw [e16]; exact Ar17.1) (State.isArrayOf_alike hZ.alike Ar17.2.1) rfl Ar17.2.2 hin17 (Has.at H17 hin17 rfl) (g := (mkF m 129 #[.val (.ref q), .val (.ref ps), .val (.ref mm), .val (.int (1 : Int32)), .val (.int ((((own_sel (own_cn vb vc vc (Int32.ofNat t.length) (0 : Int32)) (1 : Int32)) ||| (own_sel (own_cn vb vc vc (Int32.ofNat t.length) (1 : Int32)) (2 : Int32))) ||| (own_sel (own_cn vb vc vc (Int32.ofNat t.length) (2 : Int32)) (4 : Int32))) ||| (own_selN (Int32.ofNat t.length) (8 : Int32)))), .unset] [(.int (2 : Int32)), (.ref ps), (.ref q), (.int ((own_sel (own_in t 0) (1 : Int32)) ||| (own_sel (own_in t 1) (2 : Int32))))])) rfl rfl (hb hby d8_129) _ ?_
      show Steps p.tables e below (T16.setTop (mkF m 130 #[.val (.ref q), .val (.ref ps), .val (.ref mm), .val (.int (1 : Int32)), .val (.int ((((own_sel (own_cn vb vc vc (Int32.ofNat t.length) (0 : Int32)) (1 : Int32)) ||| (own_sel (own_cn vb vc vc (Int32.ofNat t.length) (1 : Int32)) (2 : Int32))) ||| (own_sel (own_cn vb vc vc (Int32.ofNat t.length) (2 : Int32)) (4 : Int32))) ||| (own_selN (Int32.ofNat t.length) (8 : Int32)))), .unset] [(.ref (P 2)), (.ref q), (.int ((own_sel (own_in t 0) (1 : Int32)) ||| (own_sel (own_in t 1) (2 : Int32))))])) _
      refine st18.trans ?_
      show Steps p.tables e below (T18.setTop (mkF m 133 #[.val (.ref q), .val (.ref ps), .val (.ref mm), .val (.int (1 : Int32)), .val (.int ((((own_sel (own_cn vb vc vc (Int32.ofNat t.length) (0 : Int32)) (1 : Int32)) ||| (own_sel (own_cn vb vc vc (Int32.ofNat t.length) (1 : Int32)) (2 : Int32))) ||| (own_sel (own_cn vb vc vc (Int32.ofNat t.length) (2 : Int32)) (4 : Int32))) ||| (own_selN (Int32.ofNat t.length) (8 : Int32)))), .unset] [(.int (own_in t 2)), (.int ((own_sel (own_in t 0) (1 : Int32)) ||| (own_sel (own_in t 1) (2 : Int32))))])) _
      refine sel_8_133 X18 hx hby _ _ _ _ ?_
      show Steps p.tables e below (T18.setTop (mkF m 141 #[.val (.ref q), .val (.ref ps), .val (.ref mm), .val (.int (1 : Int32)), .val (.int ((((own_sel (own_cn vb vc vc (Int32.ofNat t.length) (0 : Int32)) (1 : Int32)) ||| (own_sel (own_cn vb vc vc (Int32.ofNat t.length) (1 : Int32)) (2 : Int32))) ||| (own_sel (own_cn vb vc vc (Int32.ofNat t.length) (2 : Int32)) (4 : Int32))) ||| (own_selN (Int32.ofNat t.length) (8 : Int32)))), .unset] [(.int (own_sel (own_in t 2) (4 : Int32))), (.int ((own_sel (own_in t 0) (1 : Int32)) ||| (own_sel (own_in t 1) (2 : Int32))))])) _
      refine XS.ior X18.here hx rfl (hb hby d8_141) rfl ?_
      show Steps p.tables e below (T18.setTop (mkF m 142 #[.val (.ref q), .val (.ref ps), .val (.ref mm), .val (.int (1 : Int32)), .val (.int ((((own_sel (own_cn vb vc vc (Int32.ofNat t.length) (0 : Int32)) (1 : Int32)) ||| (own_sel (own_cn vb vc vc (Int32.ofNat t.length) (1 : Int32)) (2 : Int32))) ||| (own_sel (own_cn vb vc vc (Int32.ofNat t.length) (2 : Int32)) (4 : Int32))) ||| (own_selN (Int32.ofNat t.length) (8 : Int32)))), .unset] [(.int (((own_sel (own_in t 0) (1 : Int32)) ||| (own_sel (own_in t 1) (2 : Int32))) ||| (own_sel (own_in t 2) (4 : Int32))))])) _
      refine XS.aloadN X18.here hx rfl (hb hby d8_142) rfl rfl ?_
      show Steps p.tables e below (T18.setTop (mkF m 143 #[.val (.ref q), .val (.ref ps), .val (.ref mm), .val (.int (1 : Int32)), .val (.int ((((own_sel (own_cn vb vc vc (Int32.ofNat t.length) (0 : Int32)) (1 : Int32)) ||| (own_sel (own_cn vb vc vc (Int32.ofNat t.length) (1 : Int32)) (2 : Int32))) ||| (own_sel (own_cn vb vc vc (Int32.ofNat t.length) (2 : Int32)) (4 : Int32))) ||| (own_selN (Int32.ofNat t.length) (8 : Int32)))), .unset] [(.ref q), (.int (((own_sel (own_in t 0) (1 : Int32)) ||| (own_sel (own_in t 1) (2 : Int32))) ||| (own_sel (own_in t 2) (4 : Int32))))])) _
      refine st19.trans ?_
      show Steps p.tables e below (T19.setTop (mkF m 146 #[.val (.ref q), .val (.ref ps), .val (.ref mm), .val (.int (1 : Int32)), .val (.int ((((own_sel (own_cn vb vc vc (Int32.ofNat t.length) (0 : Int32)) (1 : Int32)) ||| (own_sel (own_cn vb vc vc (Int32.ofNat t.length) (1 : Int32)) (2 : Int32))) ||| (own_sel (own_cn vb vc vc (Int32.ofNat t.length) (2 : Int32)) (4 : Int32))) ||| (own_selN (Int32.ofNat t.length) (8 : Int32)))), .unset] [(.int (own_em t)), (.int (((own_sel (own_in t 0) (1 : Int32)) ||| (own_sel (own_in t 1) (2 : Int32))) ||| (own_sel (own_in t 2) (4 : Int32))))])) _
      refine sel_8_146 X19 hx hby _ _ _ _ ?_
      show Steps p.tables e below (T19.setTop (mkF m 155 #[.val (.ref q), .val (.ref ps), .val (.ref mm), .val (.int (1 : Int32)), .val (.int ((((own_sel (own_cn vb vc vc (Int32.ofNat t.length) (0 : Int32)) (1 : Int32)) ||| (own_sel (own_cn vb vc vc (Int32.ofNat t.length) (1 : Int32)) (2 : Int32))) ||| (own_sel (own_cn vb vc vc (Int32.ofNat t.length) (2 : Int32)) (4 : Int32))) ||| (own_selN (Int32.ofNat t.length) (8 : Int32)))), .unset] [(.int (own_sel (own_em t) (8 : Int32))), (.int (((own_sel (own_in t 0) (1 : Int32)) ||| (own_sel (own_in t 1) (2 : Int32))) ||| (own_sel (own_in t 2) (4 : Int32))))])) _
      refine XS.ior X19.here hx rfl (hb hby d8_155) rfl ?_
      show Steps p.tables e below (T19.setTop (mkF m 156 #[.val (.ref q), .val (.ref ps), .val (.ref mm), .val (.int (1 : Int32)), .val (.int ((((own_sel (own_cn vb vc vc (Int32.ofNat t.length) (0 : Int32)) (1 : Int32)) ||| (own_sel (own_cn vb vc vc (Int32.ofNat t.length) (1 : Int32)) (2 : Int32))) ||| (own_sel (own_cn vb vc vc (Int32.ofNat t.length) (2 : Int32)) (4 : Int32))) ||| (own_selN (Int32.ofNat t.length) (8 : Int32)))), .unset] [(.int ((((own_sel (own_in t 0) (1 : Int32)) ||| (own_sel (own_in t 1) (2 : Int32))) ||| (own_sel (own_in t 2) (4 : Int32))) ||| (own_sel (own_em t) (8 : Int32))))])) _
      refine XS.istore X19.here hx rfl (hb hby d8_156) rfl (l' := #[.val (.ref q), .val (.ref ps), .val (.ref mm), .val (.int (1 : Int32)), .val (.int ((((own_sel (own_cn vb vc vc (Int32.ofNat t.length) (0 : Int32)) (1 : Int32)) ||| (own_sel (own_cn vb vc vc (Int32.ofNat t.length) (1 : Int32)) (2 : Int32))) ||| (own_sel (own_cn vb vc vc (Int32.ofNat t.length) (2 : Int32)) (4 : Int32))) ||| (own_selN (Int32.ofNat t.length) (8 : Int32)))), .val (.int ((((own_sel (own_in t 0) (1 : Int32)) ||| (own_sel (own_in t 1) (2 : Int32))) ||| (own_sel (own_in t 2) (4 : Int32))) ||| (own_sel (own_em t) (8 : Int32))))]) rfl ?_
      show Steps p.tables e below (T19.setTop (mkF m 158 #[.val (.ref q), .val (.ref ps), .val (.ref mm), .val (.int (1 : Int32)), .val (.int ((((own_sel (own_cn vb vc vc (Int32.ofNat t.length) (0 : Int32)) (1 : Int32)) ||| (own_sel (own_cn vb vc vc (Int32.ofNat t.length) (1 : Int32)) (2 : Int32))) ||| (own_sel (own_cn vb vc vc (Int32.ofNat t.length) (2 : Int32)) (4 : Int32))) ||| (own_selN (Int32.ofNat t.length) (8 : Int32)))), .val (.int ((((own_sel (own_in t 0) (1 : Int32)) ||| (own_sel (own_in t 1) (2 : Int32))) ||| (own_sel (own_in t 2) (4 : Int32))) ||| (own_sel (own_em t) (8 : Int32))))] [])) _
      refine XS.iloadN X19.here hx rfl (hb hby d8_158) rfl ?_
      show Steps p.tables e below (T19.setTop (mkF m 159 #[.val (.ref q), .val (.ref ps), .val (.ref mm), .val (.int (1 : Int32)), .val (.int ((((own_sel (own_cn vb vc vc (Int32.ofNat t.length) (0 : Int32)) (1 : Int32)) ||| (own_sel (own_cn vb vc vc (Int32.ofNat t.length) (1 : Int32)) (2 : Int32))) ||| (own_sel (own_cn vb vc vc (Int32.ofNat t.length) (2 : Int32)) (4 : Int32))) ||| (own_selN (Int32.ofNat t.length) (8 : Int32)))), .val (.int ((((own_sel (own_in t 0) (1 : Int32)) ||| (own_sel (own_in t 1) (2 : Int32))) ||| (own_sel (own_in t 2) (4 : Int32))) ||| (own_sel (own_em t) (8 : Int32))))] [(.int (1 : Int32))])) _
      refine XS.ifNo X19.here hx rfl (hb hby d8_159) rfl ((if0 _ _).trans (feq (by decide : ¬ ((1 : Int32) = (0 : Int32)))).1) ?_
      show Steps p.tables e below (T19.setTop (mkF m 162 #[.val (.ref q), .val (.ref ps), .val (.ref mm), .val (.int (1 : Int32)), .val (.int ((((own_sel (own_cn vb vc vc (Int32.ofNat t.length) (0 : Int32)) (1 : Int32)) ||| (own_sel (own_cn vb vc vc (Int32.ofNat t.length) (1 : Int32)) (2 : Int32))) ||| (own_sel (own_cn vb vc vc (Int32.ofNat t.length) (2 : Int32)) (4 : Int32))) ||| (own_selN (Int32.ofNat t.length) (8 : Int32)))), .val (.int ((((own_sel (own_in t 0) (1 : Int32)) ||| (own_sel (own_in t 1) (2 : Int32))) ||| (own_sel (own_in t 2) (4 : Int32))) ||| (own_sel (own_em t) (8 : Int32))))] [])) _
      refine XS.iload X19.here hx rfl (hb hby d8_162) rfl ?_
      show Steps p.tables e below (T19.setTop (mkF m 164 #[.val (.ref q), .val (.ref ps), .val (.ref mm), .val (.int (1 : Int32)), .val (.int ((((own_sel (own_cn vb vc vc (Int32.ofNat t.length) (0 : Int32)) (1 : Int32)) ||| (own_sel (own_cn vb vc vc (Int32.ofNat t.length) (1 : Int32)) (2 : Int32))) ||| (own_sel (own_cn vb vc vc (Int32.ofNat t.length) (2 : Int32)) (4 : Int32))) ||| (own_selN (Int32.ofNat t.length) (8 : Int32)))), .val (.int ((((own_sel (own_in t 0) (1 : Int32)) ||| (own_sel (own_in t 1) (2 : Int32))) ||| (own_sel (own_in t 2) (4 : Int32))) ||| (own_sel (own_em t) (8 : Int32))))] [(.int ((((own_sel (own_cn vb vc vc (Int32.ofNat t.length) (0 : Int32)) (1 : Int32)) ||| (own_sel (own_cn vb vc vc (Int32.ofNat t.length) (1 : Int32)) (2 : Int32))) ||| (own_sel (own_cn vb vc vc (Int32.ofNat t.length) (2 : Int32)) (4 : Int32))) ||| (own_selN (Int32.ofNat t.length) (8 : Int32))))])) _
      refine XS.iload X19.here hx rfl (hb hby d8_164) rfl ?_
      show Steps p.tables e below (T19.setTop (mkF m 166 #[.val (.ref q), .val (.ref ps), .val (.ref mm), .val (.int (1 : Int32)), .val (.int ((((own_sel (own_cn vb vc vc (Int32.ofNat t.length) (0 : Int32)) (1 : Int32)) ||| (own_sel (own_cn vb vc vc (Int32.ofNat t.length) (1 : Int32)) (2 : Int32))) ||| (own_sel (own_cn vb vc vc (Int32.ofNat t.length) (2 : Int32)) (4 : Int32))) ||| (own_selN (Int32.ofNat t.length) (8 : Int32)))), .val (.int ((((own_sel (own_in t 0) (1 : Int32)) ||| (own_sel (own_in t 1) (2 : Int32))) ||| (own_sel (own_in t 2) (4 : Int32))) ||| (own_sel (own_em t) (8 : Int32))))] [(.int ((((own_sel (own_in t 0) (1 : Int32)) ||| (own_sel (own_in t 1) (2 : Int32))) ||| (own_sel (own_in t 2) (4 : Int32))) ||| (own_sel (own_em t) (8 : Int32)))), (.int ((((own_sel (own_cn vb vc vc (Int32.ofNat t.length) (0 : Int32)) (1 : Int32)) ||| (own_sel (own_cn vb vc vc (Int32.ofNat t.length) (1 : Int32)) (2 : Int32))) ||| (own_sel (own_cn vb vc vc (Int32.ofNat t.length) (2 : Int32)) (4 : Int32))) ||| (own_selN (Int32.ofNat t.length) (8 : Int32))))])) _
      refine XS.icmpNo X19.here hx rfl (hb hby d8_166) rfl (teq (own_match (own_ok_tail ho) (own_mr_tail hr0))).2 ?_
      show Steps p.tables e below (T19.setTop (mkF m 169 #[.val (.ref q), .val (.ref ps), .val (.ref mm), .val (.int (1 : Int32)), .val (.int ((((own_sel (own_cn vb vc vc (Int32.ofNat t.length) (0 : Int32)) (1 : Int32)) ||| (own_sel (own_cn vb vc vc (Int32.ofNat t.length) (1 : Int32)) (2 : Int32))) ||| (own_sel (own_cn vb vc vc (Int32.ofNat t.length) (2 : Int32)) (4 : Int32))) ||| (own_selN (Int32.ofNat t.length) (8 : Int32)))), .val (.int ((((own_sel (own_in t 0) (1 : Int32)) ||| (own_sel (own_in t 1) (2 : Int32))) ||| (own_sel (own_in t 2) (4 : Int32))) ||| (own_sel (own_em t) (8 : Int32))))] [])) _
      refine XS.iconst X19.here hx rfl (hb hby d8_169) ?_
      show Steps p.tables e below (T19.setTop (mkF m 170 #[.val (.ref q), .val (.ref ps), .val (.ref mm), .val (.int (1 : Int32)), .val (.int ((((own_sel (own_cn vb vc vc (Int32.ofNat t.length) (0 : Int32)) (1 : Int32)) ||| (own_sel (own_cn vb vc vc (Int32.ofNat t.length) (1 : Int32)) (2 : Int32))) ||| (own_sel (own_cn vb vc vc (Int32.ofNat t.length) (2 : Int32)) (4 : Int32))) ||| (own_selN (Int32.ofNat t.length) (8 : Int32)))), .val (.int ((((own_sel (own_in t 0) (1 : Int32)) ||| (own_sel (own_in t 1) (2 : Int32))) ||| (own_sel (own_in t 2) (4 : Int32))) ||| (own_sel (own_em t) (8 : Int32))))] [(.int (1 : Int32))])) _
      refine XS.goto X19.here hx rfl (pc0 := 170) (pc' := 174) rfl (hb hby d8_170) (by decide) (by decide) ?_
      show Steps p.tables e below (T19.setTop (mkF m 174 #[.val (.ref q), .val (.ref ps), .val (.ref mm), .val (.int (1 : Int32)), .val (.int ((((own_sel (own_cn vb vc vc (Int32.ofNat t.length) (0 : Int32)) (1 : Int32)) ||| (own_sel (own_cn vb vc vc (Int32.ofNat t.length) (1 : Int32)) (2 : Int32))) ||| (own_sel (own_cn vb vc vc (Int32.ofNat t.length) (2 : Int32)) (4 : Int32))) ||| (own_selN (Int32.ofNat t.length) (8 : Int32)))), .val (.int ((((own_sel (own_in t 0) (1 : Int32)) ||| (own_sel (own_in t 1) (2 : Int32))) ||| (own_sel (own_in t 2) (4 : Int32))) ||| (own_sel (own_em t) (8 : Int32))))] [(.int (1 : Int32))])) _
      exact retN X19 hx (t := .boolean) Bd.returns (by simp) (hb hby d8_174) hr
    · show Q8 Z q ps mm P kp km (x :: t) h0 n0 _ T19.heap _
      rw [e19]
      exact ⟨rfl, N19, z8, vb, vc, vc, own_ok_tail ho, own_mr_tail hr0, G8, B8, Vt⟩
set_option maxRecDepth 65536 in
set_option maxHeartbeats 40000000 in
theorem stg_59 {p : Program} {l : Launch} {e : Env} {s : State} {m : MethodId} {args : Array Value} {below : List Frame} {meth : Method} {c : Code} {T0 : State} {locs : List Loc} {Z : State} {a0 : Array Value} (p0 p1 p2 p3 p4 p5 : Int32) (q ps mm : Addr) (P : Nat → Addr) (kp km : ClassId) (l0 : List Nat) (va vb vc : Int32) (n0 : Nat)
    (X0 : Stand p l e room_1 s m args below meth c T0 locs 6 18) (hx : p.tables.exec = Jvm.exec) (hZ : Z.Warmed39 s.vm) (hw : ∀ d ∈ tables_1, d.before a0 Z = true) (hby : c.code = code) (hml : c.maxLocals = 10) (hown : s.vm.findClass "com/example/bulkwire/bulkwire/server/TurnQueuePollPinLaw" = some m.cls) (hfx : own_fix n0 q ps mm P) (Y0 : own_sys Z T0.heap q ps mm P kp km l0 va vb vc) (Z0 : n0 ≤ T0.heap.size) :
    ∃ (T' : State) (L' : List Loc) (l1 : List Nat) (a b c' : Int32), Stand p l e room_1 s m args below meth c T' (locs ++ L') 6 18 ∧ Fr n0 L' ∧ n0 ≤ T'.heap.size ∧ own_sys Z T'.heap q ps mm P kp km l1 a b c' ∧ ∀ target, Steps p.tables e below (T'.setTop (mkF m 79 #[.val (.int p0), .val (.int p1), .val (.int p2), .val (.int p3), .val (.int p4), .val (.int p5), .val (.ref q), .val (.ref ps), .val (.ref mm), .val (.int (1 : Int32))] [])) target → Steps p.tables e below (T0.setTop (mkF m 59 #[.val (.int p0), .val (.int p1), .val (.int p2), .val (.int p3), .val (.int p4), .val (.int p5), .val (.ref q), .val (.ref ps), .val (.ref mm), .val (.int (1 : Int32))] [])) target := by
  by_cases hc63 : (p5 &&& (1 : Int32)) = (0 : Int32)
  · refine ⟨T0, [], l0, va, vb, vc, by simpa using X0, Fr.nil n0, Z0, Y0, fun target kt => ?_⟩
    show Steps p.tables e below (T0.setTop (mkF m 59 #[.val (.int p0), .val (.int p1), .val (.int p2), .val (.int p3), .val (.int p4), .val (.int p5), .val (.ref q), .val (.ref ps), .val (.ref mm), .val (.int (1 : Int32))] [])) _
    refine XS.iload X0.here hx rfl (hb hby at_59) rfl ?_
    show Steps p.tables e below (T0.setTop (mkF m 61 #[.val (.int p0), .val (.int p1), .val (.int p2), .val (.int p3), .val (.int p4), .val (.int p5), .val (.ref q), .val (.ref ps), .val (.ref mm), .val (.int (1 : Int32))] [(.int p5)])) _
    refine XS.iconst X0.here hx rfl (hb hby at_61) ?_
    show Steps p.tables e below (T0.setTop (mkF m 62 #[.val (.int p0), .val (.int p1), .val (.int p2), .val (.int p3), .val (.int p4), .val (.int p5), .val (.ref q), .val (.ref ps), .val (.ref mm), .val (.int (1 : Int32))] [(.int (1 : Int32)), (.int p5)])) _
    refine XS.iand X0.here hx rfl (hb hby at_62) rfl ?_
    show Steps p.tables e below (T0.setTop (mkF m 63 #[.val (.int p0), .val (.int p1), .val (.int p2), .val (.int p3), .val (.int p4), .val (.int p5), .val (.ref q), .val (.ref ps), .val (.ref mm), .val (.int (1 : Int32))] [(.int (p5 &&& (1 : Int32)))])) _
    refine XS.ifYes X0.here hx rfl (pc0 := 63) (pc' := 79) rfl (hb hby at_63) rfl ((if0 _ _).trans (teq hc63).1) (by decide) (by decide) ?_
    exact kt
  · have N0 := Fr.nil n0
    obtain ⟨i, hi, hpk⟩ := own_pick_nat p0
    obtain ⟨_, _, ⟨T1, L1, k1, n1⟩, -, X1, ⟨Lc1, hQ1, l1, y1, z1⟩, st1⟩ := Jvm.LawKit.callS X0 hx (y := (⟨"com/example/bulkwire/bulkwire/server/TurnQueuePollPinLaw", "pick", "(I)I"⟩ : MethodName)) hown (mvT hZ (hw _ (List.mem_of_getElem? (i := 21) rfl))) (mvT hZ (hw _ (List.mem_of_getElem? (i := 22) rfl))) (mvT hZ (hw _ (List.mem_of_getElem? (i := 23) rfl))) (mvT hZ (hw _ (List.mem_of_getElem? (i := 24) rfl))) (by decide) (backOf (W := 3) (rm4 l Z a0 hw [] p0  T0.heap n0 Z0 ) hZ (hw _ (List.mem_of_getElem? (i := 24) rfl)) (hw _ (List.mem_of_getElem? (i := 23) rfl)) (by decide) (by decide)) (g := (mkF m 73 #[.val (.int p0), .val (.int p1), .val (.int p2), .val (.int p3), .val (.int p4), .val (.int p5), .val (.ref q), .val (.ref ps), .val (.ref mm), .val (.int (1 : Int32))] [(.int p0), (.ref mm), (.ref ps), (.ref q)])) rfl (by rw [hml]; rfl) (argsL := [(.int p0)]) (rest := [(.ref mm), (.ref ps), (.ref q)]) (lenOf pd_7 rfl) rfl (by show 2 * 0 + _ ≤ _; exact Nat.le_of_eq rfl) (hb hby at_73) (fun _ _ => ⟨rfl, rfl, (by decide : 6 + 0 ≤ _), (by decide : 18 + 0 ≤ _)⟩)
    dsimp only [Pt.U, Pt.locs, Pt.cells, Pt.slots] at X1 l1 y1 z1 st1 hQ1
    subst l1 y1 z1
    obtain ⟨rfl, N1q, e1⟩ := hQ1
    have N1 := Fr.app N0 N1q
    obtain ⟨_, _, ⟨T2, L2, k2, n2⟩, -, X2, ⟨Lc2, hQ2, l2, y2, z2⟩, st2⟩ := Jvm.LawKit.callS X1 hx (y := (⟨"com/example/bulkwire/bulkwire/server/TurnQueuePollPinLaw", "addBoth", "(Lcom/example/bulkwire/bulkwire/server/TurnQueue;[Lcom/example/bulkwire/bulkwire/server/TurnQueue$Place;[II)V"⟩ : MethodName)) hown (mvT hZ (hw _ (List.mem_of_getElem? (i := 26) rfl))) (mvT hZ (hw _ (List.mem_of_getElem? (i := 27) rfl))) (mvT hZ (hw _ (List.mem_of_getElem? (i := 23) rfl))) (mvT hZ (hw _ (List.mem_of_getElem? (i := 28) rfl))) (by decide) (backOf (W := 0) (rm5 l Z a0 hw [] q ps mm (own_pick p0)  T0.heap n0 Z0 P kp km l0 va vb vc hfx i hi hpk Y0) hZ (hw _ (List.mem_of_getElem? (i := 28) rfl)) (hw _ (List.mem_of_getElem? (i := 23) rfl)) (by decide) (by decide)) (g := (mkF m 76 #[.val (.int p0), .val (.int p1), .val (.int p2), .val (.int p3), .val (.int p4), .val (.int p5), .val (.ref q), .val (.ref ps), .val (.ref mm), .val (.int (1 : Int32))] [(.int (own_pick p0)), (.ref mm), (.ref ps), (.ref q)])) rfl (by rw [hml]; rfl) (argsL := [(.ref q), (.ref ps), (.ref mm), (.int (own_pick p0))]) (rest := []) (lenOf pd_8 rfl) rfl (by show 2 * 0 + _ ≤ _; exact Nat.le_of_eq rfl) (hb hby at_76) (fun _ _ => ⟨rfl, e1, (by decide : 6 + 0 ≤ _), (by decide : 18 + 0 ≤ _)⟩)
    dsimp only [Pt.U, Pt.locs, Pt.cells, Pt.slots] at X2 l2 y2 z2 st2 hQ2
    subst l2 y2 z2
    obtain ⟨rfl, N2q, z2, a', b', c', Y'⟩ := hQ2
    have N2 := Fr.app N1 N2q
    refine ⟨T2, _, _, a', b', c', by simpa only [List.append_assoc, List.nil_append] using X2, N2, Nat.le_trans Z0 z2, Y', fun target kt => ?_⟩
    show Steps p.tables e below (T0.setTop (mkF m 59 #[.val (.int p0), .val (.int p1), .val (.int p2), .val (.int p3), .val (.int p4), .val (.int p5), .val (.ref q), .val (.ref ps), .val (.ref mm), .val (.int (1 : Int32))] [])) _
    refine XS.iload X0.here hx rfl (hb hby at_59) rfl ?_
    show Steps p.tables e below (T0.setTop (mkF m 61 #[.val (.int p0), .val (.int p1), .val (.int p2), .val (.int p3), .val (.int p4), .val (.int p5), .val (.ref q), .val (.ref ps), .val (.ref mm), .val (.int (1 : Int32))] [(.int p5)])) _
    refine XS.iconst X0.here hx rfl (hb hby at_61) ?_
    show Steps p.tables e below (T0.setTop (mkF m 62 #[.val (.int p0), .val (.int p1), .val (.int p2), .val (.int p3), .val (.int p4), .val (.int p5), .val (.ref q), .val (.ref ps), .val (.ref mm), .val (.int (1 : Int32))] [(.int (1 : Int32)), (.int p5)])) _
    refine XS.iand X0.here hx rfl (hb hby at_62) rfl ?_
    show Steps p.tables e below (T0.setTop (mkF m 63 #[.val (.int p0), .val (.int p1), .val (.int p2), .val (.int p3), .val (.int p4), .val (.int p5), .val (.ref q), .val (.ref ps), .val (.ref mm), .val (.int (1 : Int32))] [(.int (p5 &&& (1 : Int32)))])) _
    refine XS.ifNo X0.here hx rfl (hb hby at_63) rfl ((if0 _ _).trans (feq hc63).1) ?_
    show Steps p.tables e below (T0.setTop (mkF m 66 #[.val (.int p0), .val (.int p1), .val (.int p2), .val (.int p3), .val (.int p4), .val (.int p5), .val (.ref q), .val (.ref ps), .val (.ref mm), .val (.int (1 : Int32))] [])) _
    refine XS.aload X0.here hx rfl (hb hby at_66) rfl rfl ?_
    show Steps p.tables e below (T0.setTop (mkF m 68 #[.val (.int p0), .val (.int p1), .val (.int p2), .val (.int p3), .val (.int p4), .val (.int p5), .val (.ref q), .val (.ref ps), .val (.ref mm), .val (.int (1 : Int32))] [(.ref q)])) _
    refine XS.aload X0.here hx rfl (hb hby at_68) rfl rfl ?_
    show Steps p.tables e below (T0.setTop (mkF m 70 #[.val (.int p0), .val (.int p1), .val (.int p2), .val (.int p3), .val (.int p4), .val (.int p5), .val (.ref q), .val (.ref ps), .val (.ref mm), .val (.int (1 : Int32))] [(.ref ps), (.ref q)])) _
    refine XS.aload X0.here hx rfl (hb hby at_70) rfl rfl ?_
    show Steps p.tables e below (T0.setTop (mkF m 72 #[.val (.int p0), .val (.int p1), .val (.int p2), .val (.int p3), .val (.int p4), .val (.int p5), .val (.ref q), .val (.ref ps), .val (.ref mm), .val (.int (1 : Int32))] [(.ref mm), (.ref ps), (.ref q)])) _
    refine XS.iloadN X0.here hx rfl (hb hby at_72) rfl ?_
    show Steps p.tables e below (T0.setTop (mkF m 73 #[.val (.int p0), .val (.int p1), .val (.int p2), .val (.int p3), .val (.int p4), .val (.int p5), .val (.ref q), .val (.ref ps), .val (.ref mm), .val (.int (1 : Int32))] [(.int p0), (.ref mm), (.ref ps), (.ref q)])) _
    refine st1 _ ?_
    show Steps p.tables e below (T1.setTop (mkF m 76 #[.val (.int p0), .val (.int p1), .val (.int p2), .val (.int p3), .val (.int p4), .val (.int p5), .val (.ref q), .val (.ref ps), .val (.ref mm), .val (.int (1 : Int32))] [(.int (own_pick p0)), (.ref mm), (.ref ps), (.ref q)])) _
    refine st2 _ ?_
    exact kt
set_option maxRecDepth 65536 in
set_option maxHeartbeats 40000000 in
theorem stg_79 {p : Program} {l : Launch} {e : Env} {s : State} {m : MethodId} {args : Array Value} {below : List Frame} {meth : Method} {c : Code} {T0 : State} {locs : List Loc} {Z : State} {a0 : Array Value} (p0 p1 p2 p3 p4 p5 : Int32) (q ps mm : Addr) (P : Nat → Addr) (kp km : ClassId) (l0 : List Nat) (va vb vc : Int32) (n0 : Nat)
    (X0 : Stand p l e room_1 s m args below meth c T0 locs 6 18) (hx : p.tables.exec = Jvm.exec) (hZ : Z.Warmed39 s.vm) (hw : ∀ d ∈ tables_1, d.before a0 Z = true) (hby : c.code = code) (hml : c.maxLocals = 10) (hown : s.vm.findClass "com/example/bulkwire/bulkwire/server/TurnQueuePollPinLaw" = some m.cls) (hfx : own_fix n0 q ps mm P) (Y0 : own_sys Z T0.heap q ps mm P kp km l0 va vb vc) (Z0 : n0 ≤ T0.heap.size) :
    ∃ (T' : State) (L' : List Loc) (l1 : List Nat) (a b c' : Int32), Stand p l e room_1 s m args below meth c T' (locs ++ L') 6 18 ∧ Fr n0 L' ∧ n0 ≤ T'.heap.size ∧ own_sys Z T'.heap q ps mm P kp km l1 a b c' ∧ ∀ target, Steps p.tables e below (T'.setTop (mkF m 99 #[.val (.int p0), .val (.int p1), .val (.int p2), .val (.int p3), .val (.int p4), .val (.int p5), .val (.ref q), .val (.ref ps), .val (.ref mm), .val (.int (1 : Int32))] [])) target → Steps p.tables e below (T0.setTop (mkF m 79 #[.val (.int p0), .val (.int p1), .val (.int p2), .val (.int p3), .val (.int p4), .val (.int p5), .val (.ref q), .val (.ref ps), .val (.ref mm), .val (.int (1 : Int32))] [])) target := by
  by_cases hc83 : (p5 &&& (2 : Int32)) = (0 : Int32)
  · refine ⟨T0, [], l0, va, vb, vc, by simpa using X0, Fr.nil n0, Z0, Y0, fun target kt => ?_⟩
    show Steps p.tables e below (T0.setTop (mkF m 79 #[.val (.int p0), .val (.int p1), .val (.int p2), .val (.int p3), .val (.int p4), .val (.int p5), .val (.ref q), .val (.ref ps), .val (.ref mm), .val (.int (1 : Int32))] [])) _
    refine XS.iload X0.here hx rfl (hb hby at_79) rfl ?_
    show Steps p.tables e below (T0.setTop (mkF m 81 #[.val (.int p0), .val (.int p1), .val (.int p2), .val (.int p3), .val (.int p4), .val (.int p5), .val (.ref q), .val (.ref ps), .val (.ref mm), .val (.int (1 : Int32))] [(.int p5)])) _
    refine XS.iconst X0.here hx rfl (hb hby at_81) ?_
    show Steps p.tables e below (T0.setTop (mkF m 82 #[.val (.int p0), .val (.int p1), .val (.int p2), .val (.int p3), .val (.int p4), .val (.int p5), .val (.ref q), .val (.ref ps), .val (.ref mm), .val (.int (1 : Int32))] [(.int (2 : Int32)), (.int p5)])) _
    refine XS.iand X0.here hx rfl (hb hby at_82) rfl ?_
    show Steps p.tables e below (T0.setTop (mkF m 83 #[.val (.int p0), .val (.int p1), .val (.int p2), .val (.int p3), .val (.int p4), .val (.int p5), .val (.ref q), .val (.ref ps), .val (.ref mm), .val (.int (1 : Int32))] [(.int (p5 &&& (2 : Int32)))])) _
    refine XS.ifYes X0.here hx rfl (pc0 := 83) (pc' := 99) rfl (hb hby at_83) rfl ((if0 _ _).trans (teq hc83).1) (by decide) (by decide) ?_
    exact kt
  · have N0 := Fr.nil n0
    obtain ⟨i, hi, hpk⟩ := own_pick_nat p1
    obtain ⟨_, _, ⟨T1, L1, k1, n1⟩, -, X1, ⟨Lc1, hQ1, l1, y1, z1⟩, st1⟩ := Jvm.LawKit.callS X0 hx (y := (⟨"com/example/bulkwire/bulkwire/server/TurnQueuePollPinLaw", "pick", "(I)I"⟩ : MethodName)) hown (mvT hZ (hw _ (List.mem_of_getElem? (i := 21) rfl))) (mvT hZ (hw _ (List.mem_of_getElem? (i := 22) rfl))) (mvT hZ (hw _ (List.mem_of_getElem? (i := 23) rfl))) (mvT hZ (hw _ (List.mem_of_getElem? (i := 24) rfl))) (by decide) (backOf (W := 3) (rm4 l Z a0 hw [] p1  T0.heap n0 Z0 ) hZ (hw _ (List.mem_of_getElem? (i := 24) rfl)) (hw _ (List.mem_of_getElem? (i := 23) rfl)) (by decide) (by decide)) (g := (mkF m 93 #[.val (.int p0), .val (.int p1), .val (.int p2), .val (.int p3), .val (.int p4), .val (.int p5), .val (.ref q), .val (.ref ps), .val (.ref mm), .val (.int (1 : Int32))] [(.int p1), (.ref mm), (.ref ps), (.ref q)])) rfl (by rw [hml]; rfl) (argsL := [(.int p1)]) (rest := [(.ref mm), (.ref ps), (.ref q)]) (lenOf pd_7 rfl) rfl (by show 2 * 0 + _ ≤ _; exact Nat.le_of_eq rfl) (hb hby at_93) (fun _ _ => ⟨rfl, rfl, (by decide : 6 + 0 ≤ _), (by decide : 18 + 0 ≤ _)⟩)
    dsimp only [Pt.U, Pt.locs, Pt.cells, Pt.slots] at X1 l1 y1 z1 st1 hQ1
    subst l1 y1 z1
    obtain ⟨rfl, N1q, e1⟩ := hQ1
    have N1 := Fr.app N0 N1q
    obtain ⟨_, _, ⟨T2, L2, k2, n2⟩, -, X2, ⟨Lc2, hQ2, l2, y2, z2⟩, st2⟩ := Jvm.LawKit.callS X1 hx (y := (⟨"com/example/bulkwire/bulkwire/server/TurnQueuePollPinLaw", "addBoth", "(Lcom/example/bulkwire/bulkwire/server/TurnQueue;[Lcom/example/bulkwire/bulkwire/server/TurnQueue$Place;[II)V"⟩ : MethodName)) hown (mvT hZ (hw _ (List.mem_of_getElem? (i := 26) rfl))) (mvT hZ (hw _ (List.mem_of_getElem? (i := 27) rfl))) (mvT hZ (hw _ (List.mem_of_getElem? (i := 23) rfl))) (mvT hZ (hw _ (List.mem_of_getElem? (i := 28) rfl))) (by decide) (backOf (W := 0) (rm5 l Z a0 hw [] q ps mm (own_pick p1)  T0.heap n0 Z0 P kp km l0 va vb vc hfx i hi hpk Y0) hZ (hw _ (List.mem_of_getElem? (i := 28) rfl)) (hw _ (List.mem_of_getElem? (i := 23) rfl)) (by decide) (by decide)) (g := (mkF m 96 #[.val (.int p0), .val (.int p1), .val (.int p2), .val (.int p3), .val (.int p4), .val (.int p5), .val (.ref q), .val (.ref ps), .val (.ref mm), .val (.int (1 : Int32))] [(.int (own_pick p1)), (.ref mm), (.ref ps), (.ref q)])) rfl (by rw [hml]; rfl) (argsL := [(.ref q), (.ref ps), (.ref mm), (.int (own_pick p1))]) (rest := []) (lenOf pd_8 rfl) rfl (by show 2 * 0 + _ ≤ _; exact Nat.le_of_eq rfl) (hb hby at_96) (fun _ _ => ⟨rfl, e1, (by decide : 6 + 0 ≤ _), (by decide : 18 + 0 ≤ _)⟩)
    dsimp only [Pt.U, Pt.locs, Pt.cells, Pt.slots] at X2 l2 y2 z2 st2 hQ2
    subst l2 y2 z2
    obtain ⟨rfl, N2q, z2, a', b', c', Y'⟩ := hQ2
    have N2 := Fr.app N1 N2q
    refine ⟨T2, _, _, a', b', c', by simpa only [List.append_assoc, List.nil_append] using X2, N2, Nat.le_trans Z0 z2, Y', fun target kt => ?_⟩
    show Steps p.tables e below (T0.setTop (mkF m 79 #[.val (.int p0), .val (.int p1), .val (.int p2), .val (.int p3), .val (.int p4), .val (.int p5), .val (.ref q), .val (.ref ps), .val (.ref mm), .val (.int (1 : Int32))] [])) _
    refine XS.iload X0.here hx rfl (hb hby at_79) rfl ?_
    show Steps p.tables e below (T0.setTop (mkF m 81 #[.val (.int p0), .val (.int p1), .val (.int p2), .val (.int p3), .val (.int p4), .val (.int p5), .val (.ref q), .val (.ref ps), .val (.ref mm), .val (.int (1 : Int32))] [(.int p5)])) _
    refine XS.iconst X0.here hx rfl (hb hby at_81) ?_
    show Steps p.tables e below (T0.setTop (mkF m 82 #[.val (.int p0), .val (.int p1), .val (.int p2), .val (.int p3), .val (.int p4), .val (.int p5), .val (.ref q), .val (.ref ps), .val (.ref mm), .val (.int (1 : Int32))] [(.int (2 : Int32)), (.int p5)])) _
    refine XS.iand X0.here hx rfl (hb hby at_82) rfl ?_
    show Steps p.tables e below (T0.setTop (mkF m 83 #[.val (.int p0), .val (.int p1), .val (.int p2), .val (.int p3), .val (.int p4), .val (.int p5), .val (.ref q), .val (.ref ps), .val (.ref mm), .val (.int (1 : Int32))] [(.int (p5 &&& (2 : Int32)))])) _
    refine XS.ifNo X0.here hx rfl (hb hby at_83) rfl ((if0 _ _).trans (feq hc83).1) ?_
    show Steps p.tables e below (T0.setTop (mkF m 86 #[.val (.int p0), .val (.int p1), .val (.int p2), .val (.int p3), .val (.int p4), .val (.int p5), .val (.ref q), .val (.ref ps), .val (.ref mm), .val (.int (1 : Int32))] [])) _
    refine XS.aload X0.here hx rfl (hb hby at_86) rfl rfl ?_
    show Steps p.tables e below (T0.setTop (mkF m 88 #[.val (.int p0), .val (.int p1), .val (.int p2), .val (.int p3), .val (.int p4), .val (.int p5), .val (.ref q), .val (.ref ps), .val (.ref mm), .val (.int (1 : Int32))] [(.ref q)])) _
    refine XS.aload X0.here hx rfl (hb hby at_88) rfl rfl ?_
    show Steps p.tables e below (T0.setTop (mkF m 90 #[.val (.int p0), .val (.int p1), .val (.int p2), .val (.int p3), .val (.int p4), .val (.int p5), .val (.ref q), .val (.ref ps), .val (.ref mm), .val (.int (1 : Int32))] [(.ref ps), (.ref q)])) _
    refine XS.aload X0.here hx rfl (hb hby at_90) rfl rfl ?_
    show Steps p.tables e below (T0.setTop (mkF m 92 #[.val (.int p0), .val (.int p1), .val (.int p2), .val (.int p3), .val (.int p4), .val (.int p5), .val (.ref q), .val (.ref ps), .val (.ref mm), .val (.int (1 : Int32))] [(.ref mm), (.ref ps), (.ref q)])) _
    refine XS.iloadN X0.here hx rfl (hb hby at_92) rfl ?_
    show Steps p.tables e below (T0.setTop (mkF m 93 #[.val (.int p0), .val (.int p1), .val (.int p2), .val (.int p3), .val (.int p4), .val (.int p5), .val (.ref q), .val (.ref ps), .val (.ref mm), .val (.int (1 : Int32))] [(.int p1), (.ref mm), (.ref ps), (.ref q)])) _
    refine st1 _ ?_
    show Steps p.tables e below (T1.setTop (mkF m 96 #[.val (.int p0), .val (.int p1), .val (.int p2), .val (.int p3), .val (.int p4), .val (.int p5), .val (.ref q), .val (.ref ps), .val (.ref mm), .val (.int (1 : Int32))] [(.int (own_pick p1)), (.ref mm), (.ref ps), (.ref q)])) _
    refine st2 _ ?_
    exact kt
set_option maxRecDepth 65536 in
set_option maxHeartbeats 40000000 in
theorem stg_99 {p : Program} {l : Launch} {e : Env} {s : State} {m : MethodId} {args : Array Value} {below : List Frame} {meth : Method} {c : Code} {T0 : State} {locs : List Loc} {Z : State} {a0 : Array Value} (p0 p1 p2 p3 p4 p5 : Int32) (q ps mm : Addr) (P : Nat → Addr) (kp km : ClassId) (l0 : List Nat) (va vb vc : Int32) (n0 : Nat)
    (X0 : Stand p l e room_1 s m args below meth c T0 locs 6 18) (hx : p.tables.exec = Jvm.exec) (hZ : Z.Warmed39 s.vm) (hw : ∀ d ∈ tables_1, d.before a0 Z = true) (hby : c.code = code) (hml : c.maxLocals = 10) (hown : s.vm.findClass "com/example/bulkwire/bulkwire/server/TurnQueuePollPinLaw" = some m.cls) (hfx : own_fix n0 q ps mm P) (Y0 : own_sys Z T0.heap q ps mm P kp km l0 va vb vc) (Z0 : n0 ≤ T0.heap.size) :
    ∃ (T' : State) (L' : List Loc) (l1 : List Nat) (a b c' : Int32), Stand p l e room_1 s m args below meth c T' (locs ++ L') 6 18 ∧ Fr n0 L' ∧ n0 ≤ T'.heap.size ∧ own_sys Z T'.heap q ps mm P kp km l1 a b c' ∧ ∀ target, Steps p.tables e below (T'.setTop (mkF m 119 #[.val (.int p0), .val (.int p1), .val (.int p2), .val (.int p3), .val (.int p4), .val (.int p5), .val (.ref q), .val (.ref ps), .val (.ref mm), .val (.int (1 : Int32))] [])) target → Steps p.tables e below (T0.setTop (mkF m 99 #[.val (.int p0), .val (.int p1), .val (.int p2), .val (.int p3), .val (.int p4), .val (.int p5), .val (.ref q), .val (.ref ps), .val (.ref mm), .val (.int (1 : Int32))] [])) target := by
  by_cases hc103 : (p5 &&& (4 : Int32)) = (0 : Int32)
  · refine ⟨T0, [], l0, va, vb, vc, by simpa using X0, Fr.nil n0, Z0, Y0, fun target kt => ?_⟩
    show Steps p.tables e below (T0.setTop (mkF m 99 #[.val (.int p0), .val (.int p1), .val (.int p2), .val (.int p3), .val (.int p4), .val (.int p5), .val (.ref q), .val (.ref ps), .val (.ref mm), .val (.int (1 : Int32))] [])) _
    refine XS.iload X0.here hx rfl (hb hby at_99) rfl ?_
    show Steps p.tables e below (T0.setTop (mkF m 101 #[.val (.int p0), .val (.int p1), .val (.int p2), .val (.int p3), .val (.int p4), .val (.int p5), .val (.ref q), .val (.ref ps), .val (.ref mm), .val (.int (1 : Int32))] [(.int p5)])) _
    refine XS.iconst X0.here hx rfl (hb hby at_101) ?_
    show Steps p.tables e below (T0.setTop (mkF m 102 #[.val (.int p0), .val (.int p1), .val (.int p2), .val (.int p3), .val (.int p4), .val (.int p5), .val (.ref q), .val (.ref ps), .val (.ref mm), .val (.int (1 : Int32))] [(.int (4 : Int32)), (.int p5)])) _
    refine XS.iand X0.here hx rfl (hb hby at_102) rfl ?_
    show Steps p.tables e below (T0.setTop (mkF m 103 #[.val (.int p0), .val (.int p1), .val (.int p2), .val (.int p3), .val (.int p4), .val (.int p5), .val (.ref q), .val (.ref ps), .val (.ref mm), .val (.int (1 : Int32))] [(.int (p5 &&& (4 : Int32)))])) _
    refine XS.ifYes X0.here hx rfl (pc0 := 103) (pc' := 119) rfl (hb hby at_103) rfl ((if0 _ _).trans (teq hc103).1) (by decide) (by decide) ?_
    exact kt
  · have N0 := Fr.nil n0
    obtain ⟨i, hi, hpk⟩ := own_pick_nat p2
    obtain ⟨_, _, ⟨T1, L1, k1, n1⟩, -, X1, ⟨Lc1, hQ1, l1, y1, z1⟩, st1⟩ := Jvm.LawKit.callS X0 hx (y := (⟨"com/example/bulkwire/bulkwire/server/TurnQueuePollPinLaw", "pick", "(I)I"⟩ : MethodName)) hown (mvT hZ (hw _ (List.mem_of_getElem? (i := 21) rfl))) (mvT hZ (hw _ (List.mem_of_getElem? (i := 22) rfl))) (mvT hZ (hw _ (List.mem_of_getElem? (i := 23) rfl))) (mvT hZ (hw _ (List.mem_of_getElem? (i := 24) rfl))) (by decide) (backOf (W := 3) (rm4 l Z a0 hw [] p2  T0.heap n0 Z0 ) hZ (hw _ (List.mem_of_getElem? (i := 24) rfl)) (hw _ (List.mem_of_getElem? (i := 23) rfl)) (by decide) (by decide)) (g := (mkF m 113 #[.val (.int p0), .val (.int p1), .val (.int p2), .val (.int p3), .val (.int p4), .val (.int p5), .val (.ref q), .val (.ref ps), .val (.ref mm), .val (.int (1 : Int32))] [(.int p2), (.ref mm), (.ref ps), (.ref q)])) rfl (by rw [hml]; rfl) (argsL := [(.int p2)]) (rest := [(.ref mm), (.ref ps), (.ref q)]) (lenOf pd_7 rfl) rfl (by show 2 * 0 + _ ≤ _; exact Nat.le_of_eq rfl) (hb hby at_113) (fun _ _ => ⟨rfl, rfl, (by decide : 6 + 0 ≤ _), (by decide : 18 + 0 ≤ _)⟩)
    dsimp only [Pt.U, Pt.locs, Pt.cells, Pt.slots] at X1 l1 y1 z1 st1 hQ1
    subst l1 y1 z1
    obtain ⟨rfl, N1q, e1⟩ := hQ1
    have N1 := Fr.app N0 N1q
    obtain ⟨_, _, ⟨T2, L2, k2, n2⟩, -, X2, ⟨Lc2, hQ2, l2, y2, z2⟩, st2⟩ := Jvm.LawKit.callS X1 hx (y := (⟨"com/example/bulkwire/bulkwire/server/TurnQueuePollPinLaw", "addBoth", "(Lcom/example/bulkwire/bulkwire/server/TurnQueue;[Lcom/example/bulkwire/bulkwire/server/TurnQueue$Place;[II)V"⟩ : MethodName)) hown (mvT hZ (hw _ (List.mem_of_getElem? (i := 26) rfl))) (mvT hZ (hw _ (List.mem_of_getElem? (i := 27) rfl))) (mvT hZ (hw _ (List.mem_of_getElem? (i := 23) rfl))) (mvT hZ (hw _ (List.mem_of_getElem? (i := 28) rfl))) (by decide) (backOf (W := 0) (rm5 l Z a0 hw [] q ps mm (own_pick p2)  T0.heap n0 Z0 P kp km l0 va vb vc hfx i hi hpk Y0) hZ (hw _ (List.mem_of_getElem? (i := 28) rfl)) (hw _ (List.mem_of_getElem? (i := 23) rfl)) (by decide) (by decide)) (g := (mkF m 116 #[.val (.int p0), .val (.int p1), .val (.int p2), .val (.int p3), .val (.int p4), .val (.int p5), .val (.ref q), .val (.ref ps), .val (.ref mm), .val (.int (1 : Int32))] [(.int (own_pick p2)), (.ref mm), (.ref ps), (.ref q)])) rfl (by rw [hml]; rfl) (argsL := [(.ref q), (.ref ps), (.ref mm), (.int (own_pick p2))]) (rest := []) (lenOf pd_8 rfl) rfl (by show 2 * 0 + _ ≤ _; exact Nat.le_of_eq rfl) (hb hby at_116) (fun _ _ => ⟨rfl, e1, (by decide : 6 + 0 ≤ _), (by decide : 18 + 0 ≤ _)⟩)
    dsimp only [Pt.U, Pt.locs, Pt.cells, Pt.slots] at X2 l2 y2 z2 st2 hQ2
    subst l2 y2 z2
    obtain ⟨rfl, N2q, z2, a', b', c', Y'⟩ := hQ2
    have N2 := Fr.app N1 N2q
    refine ⟨T2, _, _, a', b', c', by simpa only [List.append_assoc, List.nil_append] using X2, N2, Nat.le_trans Z0 z2, Y', fun target kt => ?_⟩
    show Steps p.tables e below (T0.setTop (mkF m 99 #[.val (.int p0), .val (.int p1), .val (.int p2), .val (.int p3), .val (.int p4), .val (.int p5), .val (.ref q), .val (.ref ps), .val (.ref mm), .val (.int (1 : Int32))] [])) _
    refine XS.iload X0.here hx rfl (hb hby at_99) rfl ?_
    show Steps p.tables e below (T0.setTop (mkF m 101 #[.val (.int p0), .val (.int p1), .val (.int p2), .val (.int p3), .val (.int p4), .val (.int p5), .val (.ref q), .val (.ref ps), .val (.ref mm), .val (.int (1 : Int32))] [(.int p5)])) _
    refine XS.iconst X0.here hx rfl (hb hby at_101) ?_
    show Steps p.tables e below (T0.setTop (mkF m 102 #[.val (.int p0), .val (.int p1), .val (.int p2), .val (.int p3), .val (.int p4), .val (.int p5), .val (.ref q), .val (.ref ps), .val (.ref mm), .val (.int (1 : Int32))] [(.int (4 : Int32)), (.int p5)])) _
    refine XS.iand X0.here hx rfl (hb hby at_102) rfl ?_
    show Steps p.tables e below (T0.setTop (mkF m 103 #[.val (.int p0), .val (.int p1), .val (.int p2), .val (.int p3), .val (.int p4), .val (.int p5), .val (.ref q), .val (.ref ps), .val (.ref mm), .val (.int (1 : Int32))] [(.int (p5 &&& (4 : Int32)))])) _
    refine XS.ifNo X0.here hx rfl (hb hby at_103) rfl ((if0 _ _).trans (feq hc103).1) ?_
    show Steps p.tables e below (T0.setTop (mkF m 106 #[.val (.int p0), .val (.int p1), .val (.int p2), .val (.int p3), .val (.int p4), .val (.int p5), .val (.ref q), .val (.ref ps), .val (.ref mm), .val (.int (1 : Int32))] [])) _
    refine XS.aload X0.here hx rfl (hb hby at_106) rfl rfl ?_
    show Steps p.tables e below (T0.setTop (mkF m 108 #[.val (.int p0), .val (.int p1), .val (.int p2), .val (.int p3), .val (.int p4), .val (.int p5), .val (.ref q), .val (.ref ps), .val (.ref mm), .val (.int (1 : Int32))] [(.ref q)])) _
    refine XS.aload X0.here hx rfl (hb hby at_108) rfl rfl ?_
    show Steps p.tables e below (T0.setTop (mkF m 110 #[.val (.int p0), .val (.int p1), .val (.int p2), .val (.int p3), .val (.int p4), .val (.int p5), .val (.ref q), .val (.ref ps), .val (.ref mm), .val (.int (1 : Int32))] [(.ref ps), (.ref q)])) _
    refine XS.aload X0.here hx rfl (hb hby at_110) rfl rfl ?_
    show Steps p.tables e below (T0.setTop (mkF m 112 #[.val (.int p0), .val (.int p1), .val (.int p2), .val (.int p3), .val (.int p4), .val (.int p5), .val (.ref q), .val (.ref ps), .val (.ref mm), .val (.int (1 : Int32))] [(.ref mm), (.ref ps), (.ref q)])) _
    refine XS.iloadN X0.here hx rfl (hb hby at_112) rfl ?_
    show Steps p.tables e below (T0.setTop (mkF m 113 #[.val (.int p0), .val (.int p1), .val (.int p2), .val (.int p3), .val (.int p4), .val (.int p5), .val (.ref q), .val (.ref ps), .val (.ref mm), .val (.int (1 : Int32))] [(.int p2), (.ref mm), (.ref ps), (.ref q)])) _
    refine st1 _ ?_
    show Steps p.tables e below (T1.setTop (mkF m 116 #[.val (.int p0), .val (.int p1), .val (.int p2), .val (.int p3), .val (.int p4), .val (.int p5), .val (.ref q), .val (.ref ps), .val (.ref mm), .val (.int (1 : Int32))] [(.int (own_pick p2)), (.ref mm), (.ref ps), (.ref q)])) _
    refine st2 _ ?_
    exact kt
set_option maxRecDepth 65536 in
set_option maxHeartbeats 40000000 in
theorem stg_119 {p : Program} {l : Launch} {e : Env} {s : State} {m : MethodId} {args : Array Value} {below : List Frame} {meth : Method} {c : Code} {T0 : State} {locs : List Loc} {Z : State} {a0 : Array Value} (p0 p1 p2 p3 p4 p5 : Int32) (q ps mm : Addr) (P : Nat → Addr) (kp km : ClassId) (l0 : List Nat) (va vb vc : Int32) (n0 : Nat)
    (X0 : Stand p l e room_1 s m args below meth c T0 locs 6 18) (hx : p.tables.exec = Jvm.exec) (hZ : Z.Warmed39 s.vm) (hw : ∀ d ∈ tables_1, d.before a0 Z = true) (hby : c.code = code) (hml : c.maxLocals = 10) (hown : s.vm.findClass "com/example/bulkwire/bulkwire/server/TurnQueuePollPinLaw" = some m.cls) (hfx : own_fix n0 q ps mm P) (Y0 : own_sys Z T0.heap q ps mm P kp km l0 va vb vc) (Z0 : n0 ≤ T0.heap.size) :
    ∃ (T' : State) (L' : List Loc) (l1 : List Nat) (a b c' : Int32), Stand p l e room_1 s m args below meth c T' (locs ++ L') 6 18 ∧ Fr n0 L' ∧ n0 ≤ T'.heap.size ∧ own_sys Z T'.heap q ps mm P kp km l1 a b c' ∧ ∀ target, Steps p.tables e below (T'.setTop (mkF m 133 #[.val (.int p0), .val (.int p1), .val (.int p2), .val (.int p3), .val (.int p4), .val (.int p5), .val (.ref q), .val (.ref ps), .val (.ref mm), .val (.int (1 : Int32))] [])) target → Steps p.tables e below (T0.setTop (mkF m 119 #[.val (.int p0), .val (.int p1), .val (.int p2), .val (.int p3), .val (.int p4), .val (.int p5), .val (.ref q), .val (.ref ps), .val (.ref mm), .val (.int (1 : Int32))] [])) target := by
  have N0 := Fr.nil n0
  obtain ⟨_, _, ⟨T1, L1, k1, n1⟩, -, X1, ⟨Lc1, hQ1, l1, y1, z1⟩, st1⟩ := Jvm.LawKit.callS X0 hx (y := (⟨"com/example/bulkwire/bulkwire/server/TurnQueuePollPinLaw", "pollMatches", "(Lcom/example/bulkwire/bulkwire/server/TurnQueue;[Lcom/example/bulkwire/bulkwire/server/TurnQueue$Place;[I)Z"⟩ : MethodName)) hown (mvT hZ (hw _ (List.mem_of_getElem? (i := 43) rfl))) (mvT hZ (hw _ (List.mem_of_getElem? (i := 44) rfl))) (mvT hZ (hw _ (List.mem_of_getElem? (i := 23) rfl))) (mvT hZ (hw _ (List.mem_of_getElem? (i := 45) rfl))) (by decide) (backOf (W := 1) (rm8 l Z a0 hw [] q ps mm  T0.heap n0 Z0 P kp km l0 va vb vc hfx Y0) hZ (hw _ (List.mem_of_getElem? (i := 45) rfl)) (hw _ (List.mem_of_getElem? (i := 23) rfl)) (by decide) (by decide)) (g := (mkF m 127 #[.val (.int p0), .val (.int p1), .val (.int p2), .val (.int p3), .val (.int p4), .val (.int p5), .val (.ref q), .val (.ref ps), .val (.ref mm), .val (.int (1 : Int32))] [(.ref mm), (.ref ps), (.ref q), (.int (1 : Int32))])) rfl (by rw [hml]; rfl) (argsL := [(.ref q), (.ref ps), (.ref mm)]) (rest := [(.int (1 : Int32))]) (lenOf pd_9 rfl) rfl (by show 2 * 0 + _ ≤ _; exact Nat.le_of_eq rfl) (hb hby at_127) (fun _ _ => ⟨rfl, rfl, (by decide : 6 + 0 ≤ _), (by decide : 18 + 0 ≤ _)⟩)
  dsimp only [Pt.U, Pt.locs, Pt.cells, Pt.slots] at X1 l1 y1 z1 st1 hQ1
  subst l1 y1 z1
  obtain ⟨rfl, N1q, z1, a', b', c', Y'⟩ := hQ1
  have N1 := Fr.app N0 N1q
  refine ⟨T1, _, _, a', b', c', by simpa only [List.append_assoc, List.nil_append] using X1, N1, Nat.le_trans Z0 z1, Y', fun target kt => ?_⟩
  show Steps p.tables e below (T0.setTop (mkF m 119 #[.val (.int p0), .val (.int p1), .val (.int p2), .val (.int p3), .val (.int p4), .val (.int p5), .val (.ref q), .val (.ref ps), .val (.ref mm), .val (.int (1 : Int32))] [])) _
  refine XS.iload X0.here hx rfl (hb hby at_119) rfl ?_
  show Steps p.tables e below (T0.setTop (mkF m 121 #[.val (.int p0), .val (.int p1), .val (.int p2), .val (.int p3), .val (.int p4), .val (.int p5), .val (.ref q), .val (.ref ps), .val (.ref mm), .val (.int (1 : Int32))] [(.int (1 : Int32))])) _
  refine XS.aload X0.here hx rfl (hb hby at_121) rfl rfl ?_
  show Steps p.tables e below (T0.setTop (mkF m 123 #[.val (.int p0), .val (.int p1), .val (.int p2), .val (.int p3), .val (.int p4), .val (.int p5), .val (.ref q), .val (.ref ps), .val (.ref mm), .val (.int (1 : Int32))] [(.ref q), (.int (1 : Int32))])) _
  refine XS.aload X0.here hx rfl (hb hby at_123) rfl rfl ?_
  show Steps p.tables e below (T0.setTop (mkF m 125 #[.val (.int p0), .val (.int p1), .val (.int p2), .val (.int p3), .val (.int p4), .val (.int p5), .val (.ref q), .val (.ref ps), .val (.ref mm), .val (.int (1 : Int32))] [(.ref ps), (.ref q), (.int (1 : Int32))])) _
  refine XS.aload X0.here hx rfl (hb hby at_125) rfl rfl ?_
  show Steps p.tables e below (T0.setTop (mkF m 127 #[.val (.int p0), .val (.int p1), .val (.int p2), .val (.int p3), .val (.int p4), .val (.int p5), .val (.ref q), .val (.ref ps), .val (.ref mm), .val (.int (1 : Int32))] [(.ref mm), (.ref ps), (.ref q), (.int (1 : Int32))])) _
  refine st1 _ ?_
  show Steps p.tables e below (T1.setTop (mkF m 130 #[.val (.int p0), .val (.int p1), .val (.int p2), .val (.int p3), .val (.int p4), .val (.int p5), .val (.ref q), .val (.ref ps), .val (.ref mm), .val (.int (1 : Int32))] [(.int (1 : Int32)), (.int (1 : Int32))])) _
  refine XS.iand X1.here hx rfl (hb hby at_130) rfl ?_
  show Steps p.tables e below (T1.setTop (mkF m 131 #[.val (.int p0), .val (.int p1), .val (.int p2), .val (.int p3), .val (.int p4), .val (.int p5), .val (.ref q), .val (.ref ps), .val (.ref mm), .val (.int (1 : Int32))] [(.int ((1 : Int32) &&& (1 : Int32)))])) _
  refine XS.istore X1.here hx rfl (hb hby at_131) rfl (l' := #[.val (.int p0), .val (.int p1), .val (.int p2), .val (.int p3), .val (.int p4), .val (.int p5), .val (.ref q), .val (.ref ps), .val (.ref mm), .val (.int ((1 : Int32) &&& (1 : Int32)))]) rfl ?_
  exact kt
set_option maxRecDepth 65536 in
set_option maxHeartbeats 40000000 in
theorem stg_133 {p : Program} {l : Launch} {e : Env} {s : State} {m : MethodId} {args : Array Value} {below : List Frame} {meth : Method} {c : Code} {T0 : State} {locs : List Loc} {Z : State} {a0 : Array Value} (p0 p1 p2 p3 p4 p5 : Int32) (q ps mm : Addr) (P : Nat → Addr) (kp km : ClassId) (l0 : List Nat) (va vb vc : Int32) (n0 : Nat)
    (X0 : Stand p l e room_1 s m args below meth c T0 locs 6 18) (hx : p.tables.exec = Jvm.exec) (hZ : Z.Warmed39 s.vm) (hw : ∀ d ∈ tables_1, d.before a0 Z = true) (hby : c.code = code) (hml : c.maxLocals = 10) (hown : s.vm.findClass "com/example/bulkwire/bulkwire/server/TurnQueuePollPinLaw" = some m.cls) (hfx : own_fix n0 q ps mm P) (Y0 : own_sys Z T0.heap q ps mm P kp km l0 va vb vc) (Z0 : n0 ≤ T0.heap.size) :
    ∃ (T' : State) (L' : List Loc) (l1 : List Nat) (a b c' : Int32), Stand p l e room_1 s m args below meth c T' (locs ++ L') 6 18 ∧ Fr n0 L' ∧ n0 ≤ T'.heap.size ∧ own_sys Z T'.heap q ps mm P kp km l1 a b c' ∧ ∀ target, Steps p.tables e below (T'.setTop (mkF m 154 #[.val (.int p0), .val (.int p1), .val (.int p2), .val (.int p3), .val (.int p4), .val (.int p5), .val (.ref q), .val (.ref ps), .val (.ref mm), .val (.int (1 : Int32))] [])) target → Steps p.tables e below (T0.setTop (mkF m 133 #[.val (.int p0), .val (.int p1), .val (.int p2), .val (.int p3), .val (.int p4), .val (.int p5), .val (.ref q), .val (.ref ps), .val (.ref mm), .val (.int (1 : Int32))] [])) target := by
  by_cases hc138 : (p5 &&& (8 : Int32)) = (0 : Int32)
  · refine ⟨T0, [], l0, va, vb, vc, by simpa using X0, Fr.nil n0, Z0, Y0, fun target kt => ?_⟩
    show Steps p.tables e below (T0.setTop (mkF m 133 #[.val (.int p0), .val (.int p1), .val (.int p2), .val (.int p3), .val (.int p4), .val (.int p5), .val (.ref q), .val (.ref ps), .val (.ref mm), .val (.int (1 : Int32))] [])) _
    refine XS.iload X0.here hx rfl (hb hby at_133) rfl ?_
    show Steps p.tables e below (T0.setTop (mkF m 135 #[.val (.int p0), .val (.int p1), .val (.int p2), .val (.int p3), .val (.int p4), .val (.int p5), .val (.ref q), .val (.ref ps), .val (.ref mm), .val (.int (1 : Int32))] [(.int p5)])) _
    refine XS.bipush X0.here hx rfl (hb hby at_135) ?_
    show Steps p.tables e below (T0.setTop (mkF m 137 #[.val (.int p0), .val (.int p1), .val (.int p2), .val (.int p3), .val (.int p4), .val (.int p5), .val (.ref q), .val (.ref ps), .val (.ref mm), .val (.int (1 : Int32))] [(.int (8 : Int32)), (.int p5)])) _
    refine XS.iand X0.here hx rfl (hb hby at_137) rfl ?_
    show Steps p.tables e below (T0.setTop (mkF m 138 #[.val (.int p0), .val (.int p1), .val (.int p2), .val (.int p3), .val (.int p4), .val (.int p5), .val (.ref q), .val (.ref ps), .val (.ref mm), .val (.int (1 : Int32))] [(.int (p5 &&& (8 : Int32)))])) _
    refine XS.ifYes X0.here hx rfl (pc0 := 138) (pc' := 154) rfl (hb hby at_138) rfl ((if0 _ _).trans (teq hc138).1) (by decide) (by decide) ?_
    exact kt
  · have N0 := Fr.nil n0
    obtain ⟨i, hi, hpk⟩ := own_pick_nat p3
    obtain ⟨_, _, ⟨T1, L1, k1, n1⟩, -, X1, ⟨Lc1, hQ1, l1, y1, z1⟩, st1⟩ := Jvm.LawKit.callS X0 hx (y := (⟨"com/example/bulkwire/bulkwire/server/TurnQueuePollPinLaw", "pick", "(I)I"⟩ : MethodName)) hown (mvT hZ (hw _ (List.mem_of_getElem? (i := 21) rfl))) (mvT hZ (hw _ (List.mem_of_getElem? (i := 22) rfl))) (mvT hZ (hw _ (List.mem_of_getElem? (i := 23) rfl))) (mvT hZ (hw _ (List.mem_of_getElem? (i := 24) rfl))) (by decide) (backOf (W := 3) (rm4 l Z a0 hw [] p3  T0.heap n0 Z0 ) hZ (hw _ (List.mem_of_getElem? (i := 24) rfl)) (hw _ (List.mem_of_getElem? (i := 23) rfl)) (by decide) (by decide)) (g := (mkF m 148 #[.val (.int p0), .val (.int p1), .val (.int p2), .val (.int p3), .val (.int p4), .val (.int p5), .val (.ref q), .val (.ref ps), .val (.ref mm), .val (.int (1 : Int32))] [(.int p3), (.ref mm), (.ref ps), (.ref q)])) rfl (by rw [hml]; rfl) (argsL := [(.int p3)]) (rest := [(.ref mm), (.ref ps), (.ref q)]) (lenOf pd_7 rfl) rfl (by show 2 * 0 + _ ≤ _; exact Nat.le_of_eq rfl) (hb hby at_148) (fun _ _ => ⟨rfl, rfl, (by decide : 6 + 0 ≤ _), (by decide : 18 + 0 ≤ _)⟩)
    dsimp only [Pt.U, Pt.locs, Pt.cells, Pt.slots] at X1 l1 y1 z1 st1 hQ1
    subst l1 y1 z1
    obtain ⟨rfl, N1q, e1⟩ := hQ1
    have N1 := Fr.app N0 N1q
    obtain ⟨_, _, ⟨T2, L2, k2, n2⟩, -, X2, ⟨Lc2, hQ2, l2, y2, z2⟩, st2⟩ := Jvm.LawKit.callS X1 hx (y := (⟨"com/example/bulkwire/bulkwire/server/TurnQueuePollPinLaw", "addBoth", "(Lcom/example/bulkwire/bulkwire/server/TurnQueue;[Lcom/example/bulkwire/bulkwire/server/TurnQueue$Place;[II)V"⟩ : MethodName)) hown (mvT hZ (hw _ (List.mem_of_getElem? (i := 26) rfl))) (mvT hZ (hw _ (List.mem_of_getElem? (i := 27) rfl))) (mvT hZ (hw _ (List.mem_of_getElem? (i := 23) rfl))) (mvT hZ (hw _ (List.mem_of_getElem? (i := 28) rfl))) (by decide) (backOf (W := 0) (rm5 l Z a0 hw [] q ps mm (own_pick p3)  T0.heap n0 Z0 P kp km l0 va vb vc hfx i hi hpk Y0) hZ (hw _ (List.mem_of_getElem? (i := 28) rfl)) (hw _ (List.mem_of_getElem? (i := 23) rfl)) (by decide) (by decide)) (g := (mkF m 151 #[.val (.int p0), .val (.int p1), .val (.int p2), .val (.int p3), .val (.int p4), .val (.int p5), .val (.ref q), .val (.ref ps), .val (.ref mm), .val (.int (1 : Int32))] [(.int (own_pick p3)), (.ref mm), (.ref ps), (.ref q)])) rfl (by rw [hml]; rfl) (argsL := [(.ref q), (.ref ps), (.ref mm), (.int (own_pick p3))]) (rest := []) (lenOf pd_8 rfl) rfl (by show 2 * 0 + _ ≤ _; exact Nat.le_of_eq rfl) (hb hby at_151) (fun _ _ => ⟨rfl, e1, (by decide : 6 + 0 ≤ _), (by decide : 18 + 0 ≤ _)⟩)
    dsimp only [Pt.U, Pt.locs, Pt.cells, Pt.slots] at X2 l2 y2 z2 st2 hQ2
    subst l2 y2 z2
    obtain ⟨rfl, N2q, z2, a', b', c', Y'⟩ := hQ2
    have N2 := Fr.app N1 N2q
    refine ⟨T2, _, _, a', b', c', by simpa only [List.append_assoc, List.nil_append] using X2, N2, Nat.le_trans Z0 z2, Y', fun target kt => ?_⟩
    show Steps p.tables e below (T0.setTop (mkF m 133 #[.val (.int p0), .val (.int p1), .val (.int p2), .val (.int p3), .val (.int p4), .val (.int p5), .val (.ref q), .val (.ref ps), .val (.ref mm), .val (.int (1 : Int32))] [])) _
    refine XS.iload X0.here hx rfl (hb hby at_133) rfl ?_
    show Steps p.tables e below (T0.setTop (mkF m 135 #[.val (.int p0), .val (.int p1), .val (.int p2), .val (.int p3), .val (.int p4), .val (.int p5), .val (.ref q), .val (.ref ps), .val (.ref mm), .val (.int (1 : Int32))] [(.int p5)])) _
    refine XS.bipush X0.here hx rfl (hb hby at_135) ?_
    show Steps p.tables e below (T0.setTop (mkF m 137 #[.val (.int p0), .val (.int p1), .val (.int p2), .val (.int p3), .val (.int p4), .val (.int p5), .val (.ref q), .val (.ref ps), .val (.ref mm), .val (.int (1 : Int32))] [(.int (8 : Int32)), (.int p5)])) _
    refine XS.iand X0.here hx rfl (hb hby at_137) rfl ?_
    show Steps p.tables e below (T0.setTop (mkF m 138 #[.val (.int p0), .val (.int p1), .val (.int p2), .val (.int p3), .val (.int p4), .val (.int p5), .val (.ref q), .val (.ref ps), .val (.ref mm), .val (.int (1 : Int32))] [(.int (p5 &&& (8 : Int32)))])) _
    refine XS.ifNo X0.here hx rfl (hb hby at_138) rfl ((if0 _ _).trans (feq hc138).1) ?_
    show Steps p.tables e below (T0.setTop (mkF m 141 #[.val (.int p0), .val (.int p1), .val (.int p2), .val (.int p3), .val (.int p4), .val (.int p5), .val (.ref q), .val (.ref ps), .val (.ref mm), .val (.int (1 : Int32))] [])) _
    refine XS.aload X0.here hx rfl (hb hby at_141) rfl rfl ?_
    show Steps p.tables e below (T0.setTop (mkF m 143 #[.val (.int p0), .val (.int p1), .val (.int p2), .val (.int p3), .val (.int p4), .val (.int p5), .val (.ref q), .val (.ref ps), .val (.ref mm), .val (.int (1 : Int32))] [(.ref q)])) _
    refine XS.aload X0.here hx rfl (hb hby at_143) rfl rfl ?_
    show Steps p.tables e below (T0.setTop (mkF m 145 #[.val (.int p0), .val (.int p1), .val (.int p2), .val (.int p3), .val (.int p4), .val (.int p5), .val (.ref q), .val (.ref ps), .val (.ref mm), .val (.int (1 : Int32))] [(.ref ps), (.ref q)])) _
    refine XS.aload X0.here hx rfl (hb hby at_145) rfl rfl ?_
    show Steps p.tables e below (T0.setTop (mkF m 147 #[.val (.int p0), .val (.int p1), .val (.int p2), .val (.int p3), .val (.int p4), .val (.int p5), .val (.ref q), .val (.ref ps), .val (.ref mm), .val (.int (1 : Int32))] [(.ref mm), (.ref ps), (.ref q)])) _
    refine XS.iloadN X0.here hx rfl (hb hby at_147) rfl ?_
    show Steps p.tables e below (T0.setTop (mkF m 148 #[.val (.int p0), .val (.int p1), .val (.int p2), .val (.int p3), .val (.int p4), .val (.int p5), .val (.ref q), .val (.ref ps), .val (.ref mm), .val (.int (1 : Int32))] [(.int p3), (.ref mm), (.ref ps), (.ref q)])) _
    refine st1 _ ?_
    show Steps p.tables e below (T1.setTop (mkF m 151 #[.val (.int p0), .val (.int p1), .val (.int p2), .val (.int p3), .val (.int p4), .val (.int p5), .val (.ref q), .val (.ref ps), .val (.ref mm), .val (.int (1 : Int32))] [(.int (own_pick p3)), (.ref mm), (.ref ps), (.ref q)])) _
    refine st2 _ ?_
    exact kt
set_option maxRecDepth 65536 in
set_option maxHeartbeats 40000000 in
theorem stg_154 {p : Program} {l : Launch} {e : Env} {s : State} {m : MethodId} {args : Array Value} {below : List Frame} {meth : Method} {c : Code} {T0 : State} {locs : List Loc} {Z : State} {a0 : Array Value} (p0 p1 p2 p3 p4 p5 : Int32) (q ps mm : Addr) (P : Nat → Addr) (kp km : ClassId) (l0 : List Nat) (va vb vc : Int32) (n0 : Nat)
    (X0 : Stand p l e room_1 s m args below meth c T0 locs 6 18) (hx : p.tables.exec = Jvm.exec) (hZ : Z.Warmed39 s.vm) (hw : ∀ d ∈ tables_1, d.before a0 Z = true) (hby : c.code = code) (hml : c.maxLocals = 10) (hown : s.vm.findClass "com/example/bulkwire/bulkwire/server/TurnQueuePollPinLaw" = some m.cls) (hfx : own_fix n0 q ps mm P) (Y0 : own_sys Z T0.heap q ps mm P kp km l0 va vb vc) (Z0 : n0 ≤ T0.heap.size) :
    ∃ (T' : State) (L' : List Loc) (l1 : List Nat) (a b c' : Int32), Stand p l e room_1 s m args below meth c T' (locs ++ L') 6 18 ∧ Fr n0 L' ∧ n0 ≤ T'.heap.size ∧ own_sys Z T'.heap q ps mm P kp km l1 a b c' ∧ ∀ target, Steps p.tables e below (T'.setTop (mkF m 168 #[.val (.int p0), .val (.int p1), .val (.int p2), .val (.int p3), .val (.int p4), .val (.int p5), .val (.ref q), .val (.ref ps), .val (.ref mm), .val (.int (1 : Int32))] [])) target → Steps p.tables e below (T0.setTop (mkF m 154 #[.val (.int p0), .val (.int p1), .val (.int p2), .val (.int p3), .val (.int p4), .val (.int p5), .val (.ref q), .val (.ref ps), .val (.ref mm), .val (.int (1 : Int32))] [])) target := by
  have N0 := Fr.nil n0
  obtain ⟨_, _, ⟨T1, L1, k1, n1⟩, -, X1, ⟨Lc1, hQ1, l1, y1, z1⟩, st1⟩ := Jvm.LawKit.callS X0 hx (y := (⟨"com/example/bulkwire/bulkwire/server/TurnQueuePollPinLaw", "pollMatches", "(Lcom/example/bulkwire/bulkwire/server/TurnQueue;[Lcom/example/bulkwire/bulkwire/server/TurnQueue$Place;[I)Z"⟩ : MethodName)) hown (mvT hZ (hw _ (List.mem_of_getElem? (i := 43) rfl))) (mvT hZ (hw _ (List.mem_of_getElem? (i := 44) rfl))) (mvT hZ (hw _ (List.mem_of_getElem? (i := 23) rfl))) (mvT hZ (hw _ (List.mem_of_getElem? (i := 45) rfl))) (by decide) (backOf (W := 1) (rm8 l Z a0 hw [] q ps mm  T0.heap n0 Z0 P kp km l0 va vb vc hfx Y0) hZ (hw _ (List.mem_of_getElem? (i := 45) rfl)) (hw _ (List.mem_of_getElem? (i := 23) rfl)) (by decide) (by decide)) (g := (mkF m 162 #[.val (.int p0), .val (.int p1), .val (.int p2), .val (.int p3), .val (.int p4), .val (.int p5), .val (.ref q), .val (.ref ps), .val (.ref mm), .val (.int (1 : Int32))] [(.ref mm), (.ref ps), (.ref q), (.int (1 : Int32))])) rfl (by rw [hml]; rfl) (argsL := [(.ref q), (.ref ps), (.ref mm)]) (rest := [(.int (1 : Int32))]) (lenOf pd_9 rfl) rfl (by show 2 * 0 + _ ≤ _; exact Nat.le_of_eq rfl) (hb hby at_162) (fun _ _ => ⟨rfl, rfl, (by decide : 6 + 0 ≤ _), (by decide : 18 + 0 ≤ _)⟩)
  dsimp only [Pt.U, Pt.locs, Pt.cells, Pt.slots] at X1 l1 y1 z1 st1 hQ1
  subst l1 y1 z1
  obtain ⟨rfl, N1q, z1, a', b', c', Y'⟩ := hQ1
  have N1 := Fr.app N0 N1q
  refine ⟨T1, _, _, a', b', c', by simpa only [List.append_assoc, List.nil_append] using X1, N1, Nat.le_trans Z0 z1, Y', fun target kt => ?_⟩
  show Steps p.tables e below (T0.setTop (mkF m 154 #[.val (.int p0), .val (.int p1), .val (.int p2), .val (.int p3), .val (.int p4), .val (.int p5), .val (.ref q), .val (.ref ps), .val (.ref mm), .val (.int (1 : Int32))] [])) _
  refine XS.iload X0.here hx rfl (hb hby at_154) rfl ?_
  show Steps p.tables e below (T0.setTop (mkF m 156 #[.val (.int p0), .val (.int p1), .val (.int p2), .val (.int p3), .val (.int p4), .val (.int p5), .val (.ref q), .val (.ref ps), .val (.ref mm), .val (.int (1 : Int32))] [(.int (1 : Int32))])) _
  refine XS.aload X0.here hx rfl (hb hby at_156) rfl rfl ?_
  show Steps p.tables e below (T0.setTop (mkF m 158 #[.val (.int p0), .val (.int p1), .val (.int p2), .val (.int p3), .val (.int p4), .val (.int p5), .val (.ref q), .val (.ref ps), .val (.ref mm), .val (.int (1 : Int32))] [(.ref q), (.int (1 : Int32))])) _
  refine XS.aload X0.here hx rfl (hb hby at_158) rfl rfl ?_
  show Steps p.tables e below (T0.setTop (mkF m 160 #[.val (.int p0), .val (.int p1), .val (.int p2), .val (.int p3), .val (.int p4), .val (.int p5), .val (.ref q), .val (.ref ps), .val (.ref mm), .val (.int (1 : Int32))] [(.ref ps), (.ref q), (.int (1 : Int32))])) _
  refine XS.aload X0.here hx rfl (hb hby at_160) rfl rfl ?_
  show Steps p.tables e below (T0.setTop (mkF m 162 #[.val (.int p0), .val (.int p1), .val (.int p2), .val (.int p3), .val (.int p4), .val (.int p5), .val (.ref q), .val (.ref ps), .val (.ref mm), .val (.int (1 : Int32))] [(.ref mm), (.ref ps), (.ref q), (.int (1 : Int32))])) _
  refine st1 _ ?_
  show Steps p.tables e below (T1.setTop (mkF m 165 #[.val (.int p0), .val (.int p1), .val (.int p2), .val (.int p3), .val (.int p4), .val (.int p5), .val (.ref q), .val (.ref ps), .val (.ref mm), .val (.int (1 : Int32))] [(.int (1 : Int32)), (.int (1 : Int32))])) _
  refine XS.iand X1.here hx rfl (hb hby at_165) rfl ?_
  show Steps p.tables e below (T1.setTop (mkF m 166 #[.val (.int p0), .val (.int p1), .val (.int p2), .val (.int p3), .val (.int p4), .val (.int p5), .val (.ref q), .val (.ref ps), .val (.ref mm), .val (.int (1 : Int32))] [(.int ((1 : Int32) &&& (1 : Int32)))])) _
  refine XS.istore X1.here hx rfl (hb hby at_166) rfl (l' := #[.val (.int p0), .val (.int p1), .val (.int p2), .val (.int p3), .val (.int p4), .val (.int p5), .val (.ref q), .val (.ref ps), .val (.ref mm), .val (.int ((1 : Int32) &&& (1 : Int32)))]) rfl ?_
  exact kt
set_option maxRecDepth 65536 in
set_option maxHeartbeats 40000000 in
theorem stg_168 {p : Program} {l : Launch} {e : Env} {s : State} {m : MethodId} {args : Array Value} {below : List Frame} {meth : Method} {c : Code} {T0 : State} {locs : List Loc} {Z : State} {a0 : Array Value} (p0 p1 p2 p3 p4 p5 : Int32) (q ps mm : Addr) (P : Nat → Addr) (kp km : ClassId) (l0 : List Nat) (va vb vc : Int32) (n0 : Nat)
    (X0 : Stand p l e room_1 s m args below meth c T0 locs 6 18) (hx : p.tables.exec = Jvm.exec) (hZ : Z.Warmed39 s.vm) (hw : ∀ d ∈ tables_1, d.before a0 Z = true) (hby : c.code = code) (hml : c.maxLocals = 10) (hown : s.vm.findClass "com/example/bulkwire/bulkwire/server/TurnQueuePollPinLaw" = some m.cls) (hfx : own_fix n0 q ps mm P) (Y0 : own_sys Z T0.heap q ps mm P kp km l0 va vb vc) (Z0 : n0 ≤ T0.heap.size) :
    ∃ (T' : State) (L' : List Loc) (l1 : List Nat) (a b c' : Int32), Stand p l e room_1 s m args below meth c T' (locs ++ L') 6 18 ∧ Fr n0 L' ∧ n0 ≤ T'.heap.size ∧ own_sys Z T'.heap q ps mm P kp km l1 a b c' ∧ ∀ target, Steps p.tables e below (T'.setTop (mkF m 190 #[.val (.int p0), .val (.int p1), .val (.int p2), .val (.int p3), .val (.int p4), .val (.int p5), .val (.ref q), .val (.ref ps), .val (.ref mm), .val (.int (1 : Int32))] [])) target → Steps p.tables e below (T0.setTop (mkF m 168 #[.val (.int p0), .val (.int p1), .val (.int p2), .val (.int p3), .val (.int p4), .val (.int p5), .val (.ref q), .val (.ref ps), .val (.ref mm), .val (.int (1 : Int32))] [])) target := by
  by_cases hc173 : (p5 &&& (16 : Int32)) = (0 : Int32)
  · refine ⟨T0, [], l0, va, vb, vc, by simpa using X0, Fr.nil n0, Z0, Y0, fun target kt => ?_⟩
    show Steps p.tables e below (T0.setTop (mkF m 168 #[.val (.int p0), .val (.int p1), .val (.int p2), .val (.int p3), .val (.int p4), .val (.int p5), .val (.ref q), .val (.ref ps), .val (.ref mm), .val (.int (1 : Int32))] [])) _
    refine XS.iload X0.here hx rfl (hb hby at_168) rfl ?_
    show Steps p.tables e below (T0.setTop (mkF m 170 #[.val (.int p0), .val (.int p1), .val (.int p2), .val (.int p3), .val (.int p4), .val (.int p5), .val (.ref q), .val (.ref ps), .val (.ref mm), .val (.int (1 : Int32))] [(.int p5)])) _
    refine XS.bipush X0.here hx rfl (hb hby at_170) ?_
    show Steps p.tables e below (T0.setTop (mkF m 172 #[.val (.int p0), .val (.int p1), .val (.int p2), .val (.int p3), .val (.int p4), .val (.int p5), .val (.ref q), .val (.ref ps), .val (.ref mm), .val (.int (1 : Int32))] [(.int (16 : Int32)), (.int p5)])) _
    refine XS.iand X0.here hx rfl (hb hby at_172) rfl ?_
    show Steps p.tables e below (T0.setTop (mkF m 173 #[.val (.int p0), .val (.int p1), .val (.int p2), .val (.int p3), .val (.int p4), .val (.int p5), .val (.ref q), .val (.ref ps), .val (.ref mm), .val (.int (1 : Int32))] [(.int (p5 &&& (16 : Int32)))])) _
    refine XS.ifYes X0.here hx rfl (pc0 := 173) (pc' := 190) rfl (hb hby at_173) rfl ((if0 _ _).trans (teq hc173).1) (by decide) (by decide) ?_
    exact kt
  · have N0 := Fr.nil n0
    obtain ⟨i, hi, hpk⟩ := own_pick_nat p4
    obtain ⟨_, _, ⟨T1, L1, k1, n1⟩, -, X1, ⟨Lc1, hQ1, l1, y1, z1⟩, st1⟩ := Jvm.LawKit.callS X0 hx (y := (⟨"com/example/bulkwire/bulkwire/server/TurnQueuePollPinLaw", "pick", "(I)I"⟩ : MethodName)) hown (mvT hZ (hw _ (List.mem_of_getElem? (i := 21) rfl))) (mvT hZ (hw _ (List.mem_of_getElem? (i := 22) rfl))) (mvT hZ (hw _ (List.mem_of_getElem? (i := 23) rfl))) (mvT hZ (hw _ (List.mem_of_getElem? (i := 24) rfl))) (by decide) (backOf (W := 3) (rm4 l Z a0 hw [] p4  T0.heap n0 Z0 ) hZ (hw _ (List.mem_of_getElem? (i := 24) rfl)) (hw _ (List.mem_of_getElem? (i := 23) rfl)) (by decide) (by decide)) (g := (mkF m 184 #[.val (.int p0), .val (.int p1), .val (.int p2), .val (.int p3), .val (.int p4), .val (.int p5), .val (.ref q), .val (.ref ps), .val (.ref mm), .val (.int (1 : Int32))] [(.int p4), (.ref mm), (.ref ps), (.ref q)])) rfl (by rw [hml]; rfl) (argsL := [(.int p4)]) (rest := [(.ref mm), (.ref ps), (.ref q)]) (lenOf pd_7 rfl) rfl (by show 2 * 0 + _ ≤ _; exact Nat.le_of_eq rfl) (hb hby at_184) (fun _ _ => ⟨rfl, rfl, (by decide : 6 + 0 ≤ _), (by decide : 18 + 0 ≤ _)⟩)
    dsimp only [Pt.U, Pt.locs, Pt.cells, Pt.slots] at X1 l1 y1 z1 st1 hQ1
    subst l1 y1 z1
    obtain ⟨rfl, N1q, e1⟩ := hQ1
    have N1 := Fr.app N0 N1q
    obtain ⟨_, _, ⟨T2, L2, k2, n2⟩, -, X2, ⟨Lc2, hQ2, l2, y2, z2⟩, st2⟩ := Jvm.LawKit.callS X1 hx (y := (⟨"com/example/bulkwire/bulkwire/server/TurnQueuePollPinLaw", "addBoth", "(Lcom/example/bulkwire/bulkwire/server/TurnQueue;[Lcom/example/bulkwire/bulkwire/server/TurnQueue$Place;[II)V"⟩ : MethodName)) hown (mvT hZ (hw _ (List.mem_of_getElem? (i := 26) rfl))) (mvT hZ (hw _ (List.mem_of_getElem? (i := 27) rfl))) (mvT hZ (hw _ (List.mem_of_getElem? (i := 23) rfl))) (mvT hZ (hw _ (List.mem_of_getElem? (i := 28) rfl))) (by decide) (backOf (W := 0) (rm5 l Z a0 hw [] q ps mm (own_pick p4)  T0.heap n0 Z0 P kp km l0 va vb vc hfx i hi hpk Y0) hZ (hw _ (List.mem_of_getElem? (i := 28) rfl)) (hw _ (List.mem_of_getElem? (i := 23) rfl)) (by decide) (by decide)) (g := (mkF m 187 #[.val (.int p0), .val (.int p1), .val (.int p2), .val (.int p3), .val (.int p4), .val (.int p5), .val (.ref q), .val (.ref ps), .val (.ref mm), .val (.int (1 : Int32))] [(.int (own_pick p4)), (.ref mm), (.ref ps), (.ref q)])) rfl (by rw [hml]; rfl) (argsL := [(.ref q), (.ref ps), (.ref mm), (.int (own_pick p4))]) (rest := []) (lenOf pd_8 rfl) rfl (by show 2 * 0 + _ ≤ _; exact Nat.le_of_eq rfl) (hb hby at_187) (fun _ _ => ⟨rfl, e1, (by decide : 6 + 0 ≤ _), (by decide : 18 + 0 ≤ _)⟩)
    dsimp only [Pt.U, Pt.locs, Pt.cells, Pt.slots] at X2 l2 y2 z2 st2 hQ2
    subst l2 y2 z2
    obtain ⟨rfl, N2q, z2, a', b', c', Y'⟩ := hQ2
    have N2 := Fr.app N1 N2q
    refine ⟨T2, _, _, a', b', c', by simpa only [List.append_assoc, List.nil_append] using X2, N2, Nat.le_trans Z0 z2, Y', fun target kt => ?_⟩
    show Steps p.tables e below (T0.setTop (mkF m 168 #[.val (.int p0), .val (.int p1), .val (.int p2), .val (.int p3), .val (.int p4), .val (.int p5), .val (.ref q), .val (.ref ps), .val (.ref mm), .val (.int (1 : Int32))] [])) _
    refine XS.iload X0.here hx rfl (hb hby at_168) rfl ?_
    show Steps p.tables e below (T0.setTop (mkF m 170 #[.val (.int p0), .val (.int p1), .val (.int p2), .val (.int p3), .val (.int p4), .val (.int p5), .val (.ref q), .val (.ref ps), .val (.ref mm), .val (.int (1 : Int32))] [(.int p5)])) _
    refine XS.bipush X0.here hx rfl (hb hby at_170) ?_
    show Steps p.tables e below (T0.setTop (mkF m 172 #[.val (.int p0), .val (.int p1), .val (.int p2), .val (.int p3), .val (.int p4), .val (.int p5), .val (.ref q), .val (.ref ps), .val (.ref mm), .val (.int (1 : Int32))] [(.int (16 : Int32)), (.int p5)])) _
    refine XS.iand X0.here hx rfl (hb hby at_172) rfl ?_
    show Steps p.tables e below (T0.setTop (mkF m 173 #[.val (.int p0), .val (.int p1), .val (.int p2), .val (.int p3), .val (.int p4), .val (.int p5), .val (.ref q), .val (.ref ps), .val (.ref mm), .val (.int (1 : Int32))] [(.int (p5 &&& (16 : Int32)))])) _
    refine XS.ifNo X0.here hx rfl (hb hby at_173) rfl ((if0 _ _).trans (feq hc173).1) ?_
    show Steps p.tables e below (T0.setTop (mkF m 176 #[.val (.int p0), .val (.int p1), .val (.int p2), .val (.int p3), .val (.int p4), .val (.int p5), .val (.ref q), .val (.ref ps), .val (.ref mm), .val (.int (1 : Int32))] [])) _
    refine XS.aload X0.here hx rfl (hb hby at_176) rfl rfl ?_
    show Steps p.tables e below (T0.setTop (mkF m 178 #[.val (.int p0), .val (.int p1), .val (.int p2), .val (.int p3), .val (.int p4), .val (.int p5), .val (.ref q), .val (.ref ps), .val (.ref mm), .val (.int (1 : Int32))] [(.ref q)])) _
    refine XS.aload X0.here hx rfl (hb hby at_178) rfl rfl ?_
    show Steps p.tables e below (T0.setTop (mkF m 180 #[.val (.int p0), .val (.int p1), .val (.int p2), .val (.int p3), .val (.int p4), .val (.int p5), .val (.ref q), .val (.ref ps), .val (.ref mm), .val (.int (1 : Int32))] [(.ref ps), (.ref q)])) _
    refine XS.aload X0.here hx rfl (hb hby at_180) rfl rfl ?_
    show Steps p.tables e below (T0.setTop (mkF m 182 #[.val (.int p0), .val (.int p1), .val (.int p2), .val (.int p3), .val (.int p4), .val (.int p5), .val (.ref q), .val (.ref ps), .val (.ref mm), .val (.int (1 : Int32))] [(.ref mm), (.ref ps), (.ref q)])) _
    refine XS.iload X0.here hx rfl (hb hby at_182) rfl ?_
    show Steps p.tables e below (T0.setTop (mkF m 184 #[.val (.int p0), .val (.int p1), .val (.int p2), .val (.int p3), .val (.int p4), .val (.int p5), .val (.ref q), .val (.ref ps), .val (.ref mm), .val (.int (1 : Int32))] [(.int p4), (.ref mm), (.ref ps), (.ref q)])) _
    refine st1 _ ?_
    show Steps p.tables e below (T1.setTop (mkF m 187 #[.val (.int p0), .val (.int p1), .val (.int p2), .val (.int p3), .val (.int p4), .val (.int p5), .val (.ref q), .val (.ref ps), .val (.ref mm), .val (.int (1 : Int32))] [(.int (own_pick p4)), (.ref mm), (.ref ps), (.ref q)])) _
    refine st2 _ ?_
    exact kt
set_option maxRecDepth 65536 in
set_option maxHeartbeats 40000000 in
theorem stg_190 {p : Program} {l : Launch} {e : Env} {s : State} {m : MethodId} {args : Array Value} {below : List Frame} {meth : Method} {c : Code} {T0 : State} {locs : List Loc} {Z : State} {a0 : Array Value} (p0 p1 p2 p3 p4 p5 : Int32) (q ps mm : Addr) (P : Nat → Addr) (kp km : ClassId) (l0 : List Nat) (va vb vc : Int32) (n0 : Nat)
    (X0 : Stand p l e room_1 s m args below meth c T0 locs 6 18) (hx : p.tables.exec = Jvm.exec) (hZ : Z.Warmed39 s.vm) (hw : ∀ d ∈ tables_1, d.before a0 Z = true) (hby : c.code = code) (hml : c.maxLocals = 10) (hown : s.vm.findClass "com/example/bulkwire/bulkwire/server/TurnQueuePollPinLaw" = some m.cls) (hfx : own_fix n0 q ps mm P) (Y0 : own_sys Z T0.heap q ps mm P kp km l0 va vb vc) (Z0 : n0 ≤ T0.heap.size) :
    ∃ (T' : State) (L' : List Loc) (l1 : List Nat) (a b c' : Int32), Stand p l e room_1 s m args below meth c T' (locs ++ L') 6 18 ∧ Fr n0 L' ∧ n0 ≤ T'.heap.size ∧ own_sys Z T'.heap q ps mm P kp km l1 a b c' ∧ ∀ target, Steps p.tables e below (T'.setTop (mkF m 204 #[.val (.int p0), .val (.int p1), .val (.int p2), .val (.int p3), .val (.int p4), .val (.int p5), .val (.ref q), .val (.ref ps), .val (.ref mm), .val (.int (1 : Int32))] [])) target → Steps p.tables e below (T0.setTop (mkF m 190 #[.val (.int p0), .val (.int p1), .val (.int p2), .val (.int p3), .val (.int p4), .val (.int p5), .val (.ref q), .val (.ref ps), .val (.ref mm), .val (.int (1 : Int32))] [])) target := by
  have N0 := Fr.nil n0
  obtain ⟨_, _, ⟨T1, L1, k1, n1⟩, -, X1, ⟨Lc1, hQ1, l1, y1, z1⟩, st1⟩ := Jvm.LawKit.callS X0 hx (y := (⟨"com/example/bulkwire/bulkwire/server/TurnQueuePollPinLaw", "pollMatches", "(Lcom/example/bulkwire/bulkwire/server/TurnQueue;[Lcom/example/bulkwire/bulkwire/server/TurnQueue$Place;[I)Z"⟩ : MethodName)) hown (mvT hZ (hw _ (List.mem_of_getElem? (i := 43) rfl))) (mvT hZ (hw _ (List.mem_of_getElem? (i := 44) rfl))) (mvT hZ (hw _ (List.mem_of_getElem? (i := 23) rfl))) (mvT hZ (hw _ (List.mem_of_getElem? (i := 45) rfl))) (by decide) (backOf (W := 1) (rm8 l Z a0 hw [] q ps mm  T0.heap n0 Z0 P kp km l0 va vb vc hfx Y0) hZ (hw _ (List.mem_of_getElem? (i := 45) rfl)) (hw _ (List.mem_of_getElem? (i := 23) rfl)) (by decide) (by decide)) (g := (mkF m 198 #[.val (.int p0), .val (.int p1), .val (.int p2), .val (.int p3), .val (.int p4), .val (.int p5), .val (.ref q), .val (.ref ps), .val (.ref mm), .val (.int (1 : Int32))] [(.ref mm), (.ref ps), (.ref q), (.int (1 : Int32))])) rfl (by rw [hml]; rfl) (argsL := [(.ref q), (.ref ps), (.ref mm)]) (rest := [(.int (1 : Int32))]) (lenOf pd_9 rfl) rfl (by show 2 * 0 + _ ≤ _; exact Nat.le_of_eq rfl) (hb hby at_198) (fun _ _ => ⟨rfl, rfl, (by decide : 6 + 0 ≤ _), (by decide : 18 + 0 ≤ _)⟩)
  dsimp only [Pt.U, Pt.locs, Pt.cells, Pt.slots] at X1 l1 y1 z1 st1 hQ1
  subst l1 y1 z1
  obtain ⟨rfl, N1q, z1, a', b', c', Y'⟩ := hQ1
  have N1 := Fr.app N0 N1q
  refine ⟨T1, _, _, a', b', c', by simpa only [List.append_assoc, List.nil_append] using X1, N1, Nat.le_trans Z0 z1, Y', fun target kt => ?_⟩
  show Steps p.tables e below (T0.setTop (mkF m 190 #[.val (.int p0), .val (.int p1), .val (.int p2), .val (.int p3), .val (.int p4), .val (.int p5), .val (.ref q), .val (.ref ps), .val (.ref mm), .val (.int (1 : Int32))] [])) _
  refine XS.iload X0.here hx rfl (hb hby at_190) rfl ?_
  show Steps p.tables e below (T0.setTop (mkF m 192 #[.val (.int p0), .val (.int p1), .val (.int p2), .val (.int p3), .val (.int p4), .val (.int p5), .val (.ref q), .val (.ref ps), .val (.ref mm), .val (.int (1 : Int32))] [(.int (1 : Int32))])) _
  refine XS.aload X0.here hx rfl (hb hby at_192) rfl rfl ?_
  show Steps p.tables e below (T0.setTop (mkF m 194 #[.val (.int p0), .val (.int p1), .val (.int p2), .val (.int p3), .val (.int p4), .val (.int p5), .val (.ref q), .val (.ref ps), .val (.ref mm), .val (.int (1 : Int32))] [(.ref q), (.int (1 : Int32))])) _
  refine XS.aload X0.here hx rfl (hb hby at_194) rfl rfl ?_
  show Steps p.tables e below (T0.setTop (mkF m 196 #[.val (.int p0), .val (.int p1), .val (.int p2), .val (.int p3), .val (.int p4), .val (.int p5), .val (.ref q), .val (.ref ps), .val (.ref mm), .val (.int (1 : Int32))] [(.ref ps), (.ref q), (.int (1 : Int32))])) _
  refine XS.aload X0.here hx rfl (hb hby at_196) rfl rfl ?_
  show Steps p.tables e below (T0.setTop (mkF m 198 #[.val (.int p0), .val (.int p1), .val (.int p2), .val (.int p3), .val (.int p4), .val (.int p5), .val (.ref q), .val (.ref ps), .val (.ref mm), .val (.int (1 : Int32))] [(.ref mm), (.ref ps), (.ref q), (.int (1 : Int32))])) _
  refine st1 _ ?_
  show Steps p.tables e below (T1.setTop (mkF m 201 #[.val (.int p0), .val (.int p1), .val (.int p2), .val (.int p3), .val (.int p4), .val (.int p5), .val (.ref q), .val (.ref ps), .val (.ref mm), .val (.int (1 : Int32))] [(.int (1 : Int32)), (.int (1 : Int32))])) _
  refine XS.iand X1.here hx rfl (hb hby at_201) rfl ?_
  show Steps p.tables e below (T1.setTop (mkF m 202 #[.val (.int p0), .val (.int p1), .val (.int p2), .val (.int p3), .val (.int p4), .val (.int p5), .val (.ref q), .val (.ref ps), .val (.ref mm), .val (.int (1 : Int32))] [(.int ((1 : Int32) &&& (1 : Int32)))])) _
  refine XS.istore X1.here hx rfl (hb hby at_202) rfl (l' := #[.val (.int p0), .val (.int p1), .val (.int p2), .val (.int p3), .val (.int p4), .val (.int p5), .val (.ref q), .val (.ref ps), .val (.ref mm), .val (.int ((1 : Int32) &&& (1 : Int32)))]) rfl ?_
  exact kt
theorem pn_0 : plainName "com/example/bulkwire/bulkwire/server/TurnQueuePollPinLaw" = true := by first | (simp [plainName, overriddenIn]; done) | decide +kernel
theorem ef_0 (m : MethodId) (p0 : Int32) (p1 : Int32) (p2 : Int32) (p3 : Int32) (p4 : Int32) (p5 : Int32) : entryFrame m #[(.int p0), (.int p1), (.int p2), (.int p3), (.int p4), (.int p5)] maxLocals = mkF m 0 #[.val (.int p0), .val (.int p1), .val (.int p2), .val (.int p3), .val (.int p4), .val (.int p5), .unset, .unset, .unset, .unset] [] := by first | (simp [entryFrame, mkF, argsToLocals, Value.category, maxLocals]; done) | rfl
def Q0 (n0 : Nat) (v : Option Value) (h : Heap) (L : List Loc) : Prop := v = some (.int 1) ∧ Fr n0 L
set_option maxRecDepth 65536 in
set_option maxHeartbeats 40000000 in
theorem rm0 (l : Launch) (Z : State) (a0 : Array Value) (hw : ∀ d ∈ tables_1, d.before a0 Z = true) (ws : List Jvm.Cond) (p0 : Int32) (p1 : Int32) (p2 : Int32) (p3 : Int32) (p4 : Int32) (p5 : Int32) (h0 : Heap) (n0 : Nat) (Z0 : n0 ≤ h0.size)  :
    MetFree l x (head1 (Jvm.Cond.code x code maxLocals ret :: ws) room_1) (fun a U => a = #[(.int p0), (.int p1), (.int p2), (.int p3), (.int p4), (.int p5)] ∧ Z.Warmed39 U.vm ∧ U.heap = h0) (fun _ _ _ _ _ => True) (fun _ U o U' => ∃ v L, o = .returned v ∧ Q0 n0 v U'.heap L ∧ FrameEnd U o U' L room_1.cells room_1.slots) := by
  refine MetFree.of_bodySF (plainFor_of_name pn_0) hisR ?_
  intro p e s m args below meth c s₁ Bd hml0 hP hK
  obtain ⟨rfl, hZ, hh⟩ := hP
  have hx := Bd.exec
  have hby := Bd.bytes
  have hml : c.maxLocals = 10 := hml0
  have hown : s.vm.findClass "com/example/bulkwire/bulkwire/server/TurnQueuePollPinLaw" = some m.cls := findClass_of_methodNamed Bd.named
  have hnm := (name_of_methodNamed Bd.named Bd.method).1
  have X0 : Stand p l e room_1 s m #[(.int p0), (.int p1), (.int p2), (.int p3), (.int p4), (.int p5)] below meth c s₁ [] 0 0 := Stand.of_body Bd
  have e0 : s₁.heap = h0 := by rw [← hh, Bd.state]; rfl
  have N0 := Fr.nil n0
  have pre0 : ∀ t, Steps p.tables e below (s₁.setTop (mkF m 0 #[.val (.int p0), .val (.int p1), .val (.int p2), .val (.int p3), .val (.int p4), .val (.int p5), .unset, .unset, .unset, .unset] [])) t → Steps p.tables e below (s₁.setTop (entryFrame m #[(.int p0), (.int p1), (.int p2), (.int p3), (.int p4), (.int p5)] maxLocals)) t := fun t k => castTop (ef_0 m p0 p1 p2 p3 p4 p5) k
  obtain ⟨T1, h1, X1, e1, E1, A1, D1, -, st1⟩ := newO X0 hx hZ hown (hw _ (List.mem_of_getElem? (i := 0) rfl)) (hw _ (List.mem_of_getElem? (i := 1) rfl)) (hw _ (List.mem_of_getElem? (i := 2) rfl)) e0 (g := (mkF m 0 #[.val (.int p0), .val (.int p1), .val (.int p2), .val (.int p3), .val (.int p4), .val (.int p5), .unset, .unset, .unset, .unset] [])) rfl (hb hby at_0) (by decide) (by decide)
  obtain ⟨b1, g1⟩ : ∃ z, z = h0.size := ⟨_, rfl⟩
  rw [← g1] at A1 D1 st1
  have Z1 : n0 ≤ h1.size := Nat.le_trans Z0 E1.1
  have F_last_b1 : Fld Z h1 b1 "com/example/bulkwire/bulkwire/server/TurnQueue" "last" "Lcom/example/bulkwire/bulkwire/server/TurnQueue$Place;" .null := D1 (Or.inl (hw _ (List.mem_of_getElem? (i := 37) rfl))) (ty := (.object "com/example/bulkwire/bulkwire/server/TurnQueue$Place")) (by decide)
  have F_first_b1 : Fld Z h1 b1 "com/example/bulkwire/bulkwire/server/TurnQueue" "first" "Lcom/example/bulkwire/bulkwire/server/TurnQueue$Place;" .null := D1 (Or.inl (hw _ (List.mem_of_getElem? (i := 39) rfl))) (ty := (.object "com/example/bulkwire/bulkwire/server/TurnQueue$Place")) (by decide)
  have g_b1 : n0 ≤ b1 := Nat.le_trans Z0 (Nat.le_of_eq g1.symm)
  have lt_b1 : b1 < h1.size := A1.lt
  obtain ⟨_, _, ⟨T2, L2, k2, n2⟩, -, X2, ⟨Lc2, hQ2, l2, y2, z2⟩, st2⟩ := X1.specialBack hx (y := (⟨"com/example/bulkwire/bulkwire/server/TurnQueue", "<init>", "()V"⟩ : MethodName)) rfl hown (mvT hZ (hw _ (List.mem_of_getElem? (i := 3) rfl))) (mvT hZ (hw _ (List.mem_of_getElem? (i := 4) rfl))) (mvT hZ (hw _ (List.mem_of_getElem? (i := 5) rfl))) (by decide) (backOf (W := 1) (rm1 l Z a0 hw [] b1  h1 n0 Z1 ) hZ (hw _ (List.mem_of_getElem? (i := 5) rfl)) (hw _ (List.mem_of_getElem? (i := 2) rfl)) (by decide) (by decide)) (g := (mkF m 4 #[.val (.int p0), .val (.int p1), .val (.int p2), .val (.int p3), .val (.int p4), .val (.int p5), .unset, .unset, .unset, .unset] [(.ref b1), (.ref b1)])) rfl (by rw [hml]; rfl) (Steps.refl _) (a := b1) (argsL := []) (rest := [(.ref b1)]) (lenOf pd_5 rfl) rfl (by show 2 * 0 + _ ≤ _; exact Nat.le_of_eq rfl) (hb hby at_4) (fun _ _ => ⟨rfl, e1, (by decide : 1 + 0 ≤ _), (by decide : 2 + 0 ≤ _)⟩)
  dsimp only [Pt.U, Pt.locs, Pt.cells, Pt.slots] at X2 l2 y2 z2 st2 hQ2
  subst l2 y2 z2
  obtain ⟨rfl, N2q, e2⟩ := hQ2
  have N2 := Fr.app N0 N2q
  obtain ⟨T3, h3, k3, X3, e3, E3, A3, O3, st3⟩ := newR X2 hx hZ hown (hw _ (List.mem_of_getElem? (i := 9) rfl)) (hw _ (List.mem_of_getElem? (i := 10) rfl)) e2 (g := (mkF m 10 #[.val (.int p0), .val (.int p1), .val (.int p2), .val (.int p3), .val (.int p4), .val (.int p5), .val (.ref b1), .unset, .unset, .unset] [(.int (3 : Int32))])) rfl (hb hby at_10) rfl (by decide) (cap := 3) (by decide) (by decide) (by decide) (by decide)
  obtain ⟨b3, g3⟩ : ∃ z, z = h1.size := ⟨_, rfl⟩
  rw [← g3] at A3 st3
  have ne3_b1 : b1 ≠ b3 := Nat.ne_of_lt (Nat.lt_of_lt_of_le lt_b1 (Nat.le_of_eq g3.symm))
  have g_b3 : n0 ≤ b3 := Nat.le_trans Z1 (Nat.le_of_eq g3.symm)
  have F3_0 := F_last_b1.ext E3
  have F3_1 := F_first_b1.ext E3
  have X3e_0 := A1.ext E3
  have lt3_0 : b1 < h3.size := Nat.lt_of_lt_of_le lt_b1 E3.1
  have Z3 : n0 ≤ h3.size := Nat.le_trans Z1 E3.1
  have V_b3 : Arv Z h3 b3 k3 (.object "com/example/bulkwire/bulkwire/server/TurnQueue$Place") 3 [.null, .null, .null] .null := (Arv.new A3 (by decide)).pad (pad_rep [] .null 3)
  have lt_b3 : b3 < h3.size := A3.lt
  obtain ⟨T4, h4, X4, e4, E4, A4, D4, -, st4⟩ := newO X3 hx hZ hown (hw _ (List.mem_of_getElem? (i := 9) rfl)) (hw _ (List.mem_of_getElem? (i := 11) rfl)) (hw _ (List.mem_of_getElem? (i := 12) rfl)) e3 (g := (mkF m 18 #[.val (.int p0), .val (.int p1), .val (.int p2), .val (.int p3), .val (.int p4), .val (.int p5), .val (.ref b1), .val (.ref b3), .unset, .unset] [(.int (0 : Int32)), (.ref b3)])) rfl (hb hby at_18) (by decide) (by decide)
  obtain ⟨b4, g4⟩ : ∃ z, z = h3.size := ⟨_, rfl⟩
  rw [← g4] at A4 D4 st4
  have ne4_b1 : b1 ≠ b4 := Nat.ne_of_lt (Nat.lt_of_lt_of_le lt3_0 (Nat.le_of_eq g4.symm))
  have ne4_b3 : b3 ≠ b4 := Nat.ne_of_lt (Nat.lt_of_lt_of_le lt_b3 (Nat.le_of_eq g4.symm))
  have F4_0 := F3_0.ext E4
  have F4_1 := F3_1.ext E4
  have X4e_0 := X3e_0.ext E4
  have A4_0 := V_b3.ext E4
  have lt4_0 : b1 < h4.size := Nat.lt_of_lt_of_le lt3_0 E4.1
  have lt4_1 : b3 < h4.size := Nat.lt_of_lt_of_le lt_b3 E4.1
  have Z4 : n0 ≤ h4.size := Nat.le_trans Z3 E4.1
  have F_connection_b4 : Fld Z h4 b4 "com/example/bulkwire/bulkwire/server/TurnQueue$Place" "connection" "Lcom/example/bulkwire/bulkwire/server/Connection;" .null := D4 (Or.inr (hw _ (List.mem_of_getElem? (i := 18) rfl))) (ty := (.object "com/example/bulkwire/bulkwire/server/Connection")) (by decide)
  have F_queued_b4 : Fld Z h4 b4 "com/example/bulkwire/bulkwire/server/TurnQueue$Place" "queued" "Z" (.int (0 : Int32)) := D4 (Or.inl (hw _ (List.mem_of_getElem? (i := 35) rfl))) (ty := .boolean) (by decide)
  have F_next_b4 : Fld Z h4 b4 "com/example/bulkwire/bulkwire/server/TurnQueue$Place" "next" "Lcom/example/bulkwire/bulkwire/server/TurnQueue$Place;" .null := D4 (Or.inl (hw _ (List.mem_of_getElem? (i := 52) rfl))) (ty := (.object "com/example/bulkwire/bulkwire/server/TurnQueue$Place")) (by decide)
  have g_b4 : n0 ≤ b4 := Nat.le_trans Z3 (Nat.le_of_eq g4.symm)
  have lt_b4 : b4 < h4.size := A4.lt
  obtain ⟨_, _, ⟨T5, L5, k5, n5⟩, -, X5, ⟨Lc5, hQ5, l5, y5, z5⟩, st5⟩ := X4.specialBack hx (y := (⟨"com/example/bulkwire/bulkwire/server/TurnQueue$Place", "<init>", "(Lcom/example/bulkwire/bulkwire/server/Connection;)V"⟩ : MethodName)) rfl hown (mvT hZ (hw _ (List.mem_of_getElem? (i := 13) rfl))) (mvT hZ (hw _ (List.mem_of_getElem? (i := 14) rfl))) (mvT hZ (hw _ (List.mem_of_getElem? (i := 15) rfl))) (by decide) (backOf (W := 3) (rm3 l Z a0 hw [] b4  h4 n0 Z4 A4 F_connection_b4 F_queued_b4 F_next_b4 g_b4) hZ (hw _ (List.mem_of_getElem? (i := 15) rfl)) (hw _ (List.mem_of_getElem? (i := 12) rfl)) (by decide) (by decide)) (g := (mkF m 23 #[.val (.int p0), .val (.int p1), .val (.int p2), .val (.int p3), .val (.int p4), .val (.int p5), .val (.ref b1), .val (.ref b3), .unset, .unset] [.null, (.ref b4), (.ref b4), (.int (0 : Int32)), (.ref b3)])) rfl (by rw [hml]; rfl) (Steps.refl _) (a := b4) (argsL := [.null]) (rest := [(.ref b4), (.int (0 : Int32)), (.ref b3)]) (lenOf pd_6 rfl) rfl (by show 2 * 0 + _ ≤ _; exact Nat.le_of_eq rfl) (hb hby at_23) (fun _ _ => ⟨rfl, e4, (by decide : 3 + 0 ≤ _), (by decide : 8 + 0 ≤ _)⟩)
  dsimp only [Pt.U, Pt.locs, Pt.cells, Pt.slots] at X5 l5 y5 z5 st5 hQ5
  subst l5 y5 z5
  obtain ⟨rfl, N5q, K5, Ex5, Fc5, Fq5, Fn5⟩ := hQ5
  have N5 := Fr.app N2 N5q
  have F5_0 := F4_0.keep K5 (ninS ne4_b1 nin0)
  have F5_1 := F4_1.keep K5 (ninS ne4_b1 nin0)
  have E5_0 := X4e_0.keep K5
  have E5_1 := A4.keep K5
  have A5_0 := A4_0.keep K5 (ninS ne4_b3 nin0)
  have lt5_0 : b1 < T5.heap.size := Nat.lt_of_lt_of_le lt4_0 K5.1
  have lt5_1 : b3 < T5.heap.size := Nat.lt_of_lt_of_le lt4_1 K5.1
  have lt5_2 : b4 < T5.heap.size := Nat.lt_of_lt_of_le lt_b4 K5.1
  have Z5 : n0 ≤ T5.heap.size := Nat.le_trans Z4 K5.1
  obtain ⟨cl6, Ar6, qq6, S6, Nn6, H6, Gg6⟩ := id A5_0
  have hin6 : ¬ ((0 : Int32) < 0 ∨ cl6.slots.size ≤ ((0 : Int32)).toNatClampNeg) := inb_of S6 ⟨by decide, by decide⟩
  obtain ⟨T6, h6, X6, e6, W6, st6⟩ := stR X5 hx hZ rfl Ar6 (j := (0 : Int32)) hin6 rfl (Sto.ofV Ar6 qq6 O3 (Ins.self E5_1)) (g := (mkF m 26 #[.val (.int p0), .val (.int p1), .val (.int p2), .val (.int p3), .val (.int p4), .val (.int p5), .val (.ref b1), .val (.ref b3), .unset, .unset] [(.ref b4), (.int (0 : Int32)), (.ref b3)])) rfl rfl (hb hby at_26)
  have V6 : Arv Z h6 b3 k3 (.object "com/example/bulkwire/bulkwire/server/TurnQueue$Place") 3 [(.ref b4), .null, .null] .null := Arv.set Ar6 qq6 S6 Nn6 H6 Gg6 rfl W6 0 rfl (Nat.le_of_ble_eq_true rfl)
  have F6_0 := F5_0.other W6 (Or.inl ne3_b1)
  have F6_1 := F5_1.other W6 (Or.inl ne3_b1)
  have F6_2 := Fc5.other W6 (Or.inl (Ne.symm ne4_b3))
  have F6_3 := Fq5.other W6 (Or.inl (Ne.symm ne4_b3))
  have F6_4 := Fn5.other W6 (Or.inl (Ne.symm ne4_b3))
  have E6_0 := E5_0.wr W6
  have E6_1 := E5_1.wr W6
  have lt6_0 : b1 < h6.size := Nat.lt_of_lt_of_le lt5_0 (Keep.of_wr W6).1
  have lt6_1 : b3 < h6.size := Nat.lt_of_lt_of_le lt5_1 (Keep.of_wr W6).1
  have lt6_2 : b4 < h6.size := Nat.lt_of_lt_of_le lt5_2 (Keep.of_wr W6).1
  have Z6 : n0 ≤ h6.size := Nat.le_trans Z5 (Keep.of_wr W6).1
  have N6 := Fr.snoc X6 N5 g_b3
  obtain ⟨T7, h7, X7, e7, E7, A7, D7, -, st7⟩ := newO X6 hx hZ hown (hw _ (List.mem_of_getElem? (i := 9) rfl)) (hw _ (List.mem_of_getElem? (i := 11) rfl)) (hw _ (List.mem_of_getElem? (i := 12) rfl)) e6 (g := (mkF m 30 #[.val (.int p0), .val (.int p1), .val (.int p2), .val (.int p3), .val (.int p4), .val (.int p5), .val (.ref b1), .val (.ref b3), .unset, .unset] [(.int (1 : Int32)), (.ref b3)])) rfl (hb hby at_30) (by decide) (by decide)
  obtain ⟨b7, g7⟩ : ∃ z, z = h6.size := ⟨_, rfl⟩
  rw [← g7] at A7 D7 st7
  have ne7_b1 : b1 ≠ b7 := Nat.ne_of_lt (Nat.lt_of_lt_of_le lt6_0 (Nat.le_of_eq g7.symm))
  have ne7_b3 : b3 ≠ b7 := Nat.ne_of_lt (Nat.lt_of_lt_of_le lt6_1 (Nat.le_of_eq g7.symm))
  have ne7_b4 : b4 ≠ b7 := Nat.ne_of_lt (Nat.lt_of_lt_of_le lt6_2 (Nat.le_of_eq g7.symm))
  have F7_0 := F6_0.ext E7
  have F7_1 := F6_1.ext E7
  have F7_2 := F6_2.ext E7
  have F7_3 := F6_3.ext E7
  have F7_4 := F6_4.ext E7
  have X7e_0 := E6_0.ext E7
  have X7e_1 := E6_1.ext E7
  have A7_0 := V6.ext E7
  have lt7_0 : b1 < h7.size := Nat.lt_of_lt_of_le lt6_0 E7.1
  have lt7_1 : b3 < h7.size := Nat.lt_of_lt_of_le lt6_1 E7.1
  have lt7_2 : b4 < h7.size := Nat.lt_of_lt_of_le lt6_2 E7.1
  have Z7 : n0 ≤ h7.size := Nat.le_trans Z6 E7.1
  have F_connection_b7 : Fld Z h7 b7 "com/example/bulkwire/bulkwire/server/TurnQueue$Place" "connection" "Lcom/example/bulkwire/bulkwire/server/Connection;" .null := D7 (Or.inr (hw _ (List.mem_of_getElem? (i := 18) rfl))) (ty := (.object "com/example/bulkwire/bulkwire/server/Connection")) (by decide)
  have F_queued_b7 : Fld Z h7 b7 "com/example/bulkwire/bulkwire/server/TurnQueue$Place" "queued" "Z" (.int (0 : Int32)) := D7 (Or.inl (hw _ (List.mem_of_getElem? (i := 35) rfl))) (ty := .boolean) (by decide)
  have F_next_b7 : Fld Z h7 b7 "com/example/bulkwire/bulkwire/server/TurnQueue$Place" "next" "Lcom/example/bulkwire/bulkwire/server/TurnQueue$Place;" .null := D7 (Or.inl (hw _ (List.mem_of_getElem? (i := 52) rfl))) (ty := (.object "com/example/bulkwire/bulkwire/server/TurnQueue$Place")) (by decide)
  have g_b7 : n0 ≤ b7 := Nat.le_trans Z6 (Nat.le_of_eq g7.symm)
  have lt_b7 : b7 < h7.size := A7.lt
  obtain ⟨_, _, ⟨T8, L8, k8, n8⟩, -, X8, ⟨Lc8, hQ8, l8, y8, z8⟩, st8⟩ := X7.specialBack hx (y := (⟨"com/example/bulkwire/bulkwire/server/TurnQueue$Place", "<init>", "(Lcom/example/bulkwire/bulkwire/server/Connection;)V"⟩ : MethodName)) rfl hown (mvT hZ (hw _ (List.mem_of_getElem? (i := 13) rfl))) (mvT hZ (hw _ (List.mem_of_getElem? (i := 14) rfl))) (mvT hZ (hw _ (List.mem_of_getElem? (i := 15) rfl))) (by decide) (backOf (W := 3) (rm3 l Z a0 hw [] b7  h7 n0 Z7 A7 F_connection_b7 F_queued_b7 F_next_b7 g_b7) hZ (hw _ (List.mem_of_getElem? (i := 15) rfl)) (hw _ (List.mem_of_getElem? (i := 12) rfl)) (by decide) (by decide)) (g := (mkF m 35 #[.val (.int p0), .val (.int p1), .val (.int p2), .val (.int p3), .val (.int p4), .val (.int p5), .val (.ref b1), .val (.ref b3), .unset, .unset] [.null, (.ref b7), (.ref b7), (.int (1 : Int32)), (.ref b3)])) rfl (by rw [hml]; rfl) (Steps.refl _) (a := b7) (argsL := [.null]) (rest := [(.ref b7), (.int (1 : Int32)), (.ref b3)]) (lenOf pd_6 rfl) rfl (by show 2 * 0 + _ ≤ _; exact Nat.le_of_eq rfl) (hb hby at_35) (fun _ _ => ⟨rfl, e7, (by decide : 4 + 0 ≤ _), (by decide : 11 + 0 ≤ _)⟩)
  dsimp only [Pt.U, Pt.locs, Pt.cells, Pt.slots] at X8 l8 y8 z8 st8 hQ8
  subst l8 y8 z8
  obtain ⟨rfl, N8q, K8, Ex8, Fc8, Fq8, Fn8⟩ := hQ8
  have N8 := Fr.app N6 N8q
  have F8_0 := F7_0.keep K8 (ninS ne7_b1 nin0)
  have F8_1 := F7_1.keep K8 (ninS ne7_b1 nin0)
  have F8_2 := F7_2.keep K8 (ninS ne7_b4 nin0)
  have F8_3 := F7_3.keep K8 (ninS ne7_b4 nin0)
  have F8_4 := F7_4.keep K8 (ninS ne7_b4 nin0)
  have E8_0 := X7e_0.keep K8
  have E8_1 := X7e_1.keep K8
  have E8_2 := A7.keep K8
  have A8_0 := A7_0.keep K8 (ninS ne7_b3 nin0)
  have lt8_0 : b1 < T8.heap.size := Nat.lt_of_lt_of_le lt7_0 K8.1
  have lt8_1 : b3 < T8.heap.size := Nat.lt_of_lt_of_le lt7_1 K8.1
  have lt8_2 : b4 < T8.heap.size := Nat.lt_of_lt_of_le lt7_2 K8.1
  have lt8_3 : b7 < T8.heap.size := Nat.lt_of_lt_of_le lt_b7 K8.1
  have Z8 : n0 ≤ T8.heap.size := Nat.le_trans Z7 K8.1
  obtain ⟨cl9, Ar9, qq9, S9, Nn9, H9, Gg9⟩ := id A8_0
  have hin9 : ¬ ((1 : Int32) < 0 ∨ cl9.slots.size ≤ ((1 : Int32)).toNatClampNeg) := inb_of S9 ⟨by decide, by decide⟩
  obtain ⟨T9, h9, X9, e9, W9, st9⟩ := stR X8 hx hZ rfl Ar9 (j := (1 : Int32)) hin9 rfl (Sto.ofV Ar9 qq9 O3 (Ins.self E8_2)) (g := (mkF m 38 #[.val (.int p0), .val (.int p1), .val (.int p2), .val (.int p3), .val (.int p4), .val (.int p5), .val (.ref b1), .val (.ref b3), .unset, .unset] [(.ref b7), (.int (1 : Int32)), (.ref b3)])) rfl rfl (hb hby at_38)
  have V9 : Arv Z h9 b3 k3 (.object "com/example/bulkwire/bulkwire/server/TurnQueue$Place") 3 [(.ref b4), (.ref b7), .null] .null := Arv.set Ar9 qq9 S9 Nn9 H9 Gg9 rfl W9 1 rfl (Nat.le_of_ble_eq_true rfl)
  have F9_0 := F8_0.other W9 (Or.inl ne3_b1)
  have F9_1 := F8_1.other W9 (Or.inl ne3_b1)
  have F9_2 := F8_2.other W9 (Or.inl (Ne.symm ne4_b3))
  have F9_3 := F8_3.other W9 (Or.inl (Ne.symm ne4_b3))
  have F9_4 := F8_4.other W9 (Or.inl (Ne.symm ne4_b3))
  have F9_5 := Fc8.other W9 (Or.inl (Ne.symm ne7_b3))
  have F9_6 := Fq8.other W9 (Or.inl (Ne.symm ne7_b3))
  have F9_7 := Fn8.other W9 (Or.inl (Ne.symm ne7_b3))
  have E9_0 := E8_0.wr W9
  have E9_1 := E8_1.wr W9
  have E9_2 := E8_2.wr W9
  have lt9_0 : b1 < h9.size := Nat.lt_of_lt_of_le lt8_0 (Keep.of_wr W9).1
  have lt9_1 : b3 < h9.size := Nat.lt_of_lt_of_le lt8_1 (Keep.of_wr W9).1
  have lt9_2 : b4 < h9.size := Nat.lt_of_lt_of_le lt8_2 (Keep.of_wr W9).1
  have lt9_3 : b7 < h9.size := Nat.lt_of_lt_of_le lt8_3 (Keep.of_wr W9).1
  have Z9 : n0 ≤ h9.size := Nat.le_trans Z8 (Keep.of_wr W9).1
  have N9 := Fr.snoc X9 N8 g_b3
  obtain ⟨T10, h10, X10, e10, E10, A10, D10, -, st10⟩ := newO X9 hx hZ hown (hw _ (List.mem_of_getElem? (i := 9) rfl)) (hw _ (List.mem_of_getElem? (i := 11) rfl)) (hw _ (List.mem_of_getElem? (i := 12) rfl)) e9 (g := (mkF m 42 #[.val (.int p0), .val (.int p1), .val (.int p2), .val (.int p3), .val (.int p4), .val (.int p5), .val (.ref b1), .val (.ref b3), .unset, .unset] [(.int (2 : Int32)), (.ref b3)])) rfl (hb hby at_42) (by decide) (by decide)
  obtain ⟨b10, g10⟩ : ∃ z, z = h9.size := ⟨_, rfl⟩
  rw [← g10] at A10 D10 st10
  have ne10_b1 : b1 ≠ b10 := Nat.ne_of_lt (Nat.lt_of_lt_of_le lt9_0 (Nat.le_of_eq g10.symm))
  have ne10_b3 : b3 ≠ b10 := Nat.ne_of_lt (Nat.lt_of_lt_of_le lt9_1 (Nat.le_of_eq g10.symm))
  have ne10_b4 : b4 ≠ b10 := Nat.ne_of_lt (Nat.lt_of_lt_of_le lt9_2 (Nat.le_of_eq g10.symm))
  have ne10_b7 : b7 ≠ b10 := Nat.ne_of_lt (Nat.lt_of_lt_of_le lt9_3 (Nat.le_of_eq g10.symm))
  have F10_0 := F9_0.ext E10
  have F10_1 := F9_1.ext E10
  have F10_2 := F9_2.ext E10
  have F10_3 := F9_3.ext E10
  have F10_4 := F9_4.ext E10
  have F10_5 := F9_5.ext E10
  have F10_6 := F9_6.ext E10
  have F10_7 := F9_7.ext E10
  have X10e_0 := E9_0.ext E10
  have X10e_1 := E9_1.ext E10
  have X10e_2 := E9_2.ext E10
  have A10_0 := V9.ext E10
  have lt10_0 : b1 < h10.size := Nat.lt_of_lt_of_le lt9_0 E10.1
  have lt10_1 : b3 < h10.size := Nat.lt_of_lt_of_le lt9_1 E10.1
  have lt10_2 : b4 < h10.size := Nat.lt_of_lt_of_le lt9_2 E10.1
  have lt10_3 : b7 < h10.size := Nat.lt_of_lt_of_le lt9_3 E10.1
  have Z10 : n0 ≤ h10.size := Nat.le_trans Z9 E10.1
  have F_connection_b10 : Fld Z h10 b10 "com/example/bulkwire/bulkwire/server/TurnQueue$Place" "connection" "Lcom/example/bulkwire/bulkwire/server/Connection;" .null := D10 (Or.inr (hw _ (List.mem_of_getElem? (i := 18) rfl))) (ty := (.object "com/example/bulkwire/bulkwire/server/Connection")) (by decide)
  have F_queued_b10 : Fld Z h10 b10 "com/example/bulkwire/bulkwire/server/TurnQueue$Place" "queued" "Z" (.int (0 : Int32)) := D10 (Or.inl (hw _ (List.mem_of_getElem? (i := 35) rfl))) (ty := .boolean) (by decide)
  have F_next_b10 : Fld Z h10 b10 "com/example/bulkwire/bulkwire/server/TurnQueue$Place" "next" "Lcom/example/bulkwire/bulkwire/server/TurnQueue$Place;" .null := D10 (Or.inl (hw _ (List.mem_of_getElem? (i := 52) rfl))) (ty := (.object "com/example/bulkwire/bulkwire/server/TurnQueue$Place")) (by decide)
  have g_b10 : n0 ≤ b10 := Nat.le_trans Z9 (Nat.le_of_eq g10.symm)
  have lt_b10 : b10 < h10.size := A10.lt
  obtain ⟨_, _, ⟨T11, L11, k11, n11⟩, -, X11, ⟨Lc11, hQ11, l11, y11, z11⟩, st11⟩ := X10.specialBack hx (y := (⟨"com/example/bulkwire/bulkwire/server/TurnQueue$Place", "<init>", "(Lcom/example/bulkwire/bulkwire/server/Connection;)V"⟩ : MethodName)) rfl hown (mvT hZ (hw _ (List.mem_of_getElem? (i := 13) rfl))) (mvT hZ (hw _ (List.mem_of_getElem? (i := 14) rfl))) (mvT hZ (hw _ (List.mem_of_getElem? (i := 15) rfl))) (by decide) (backOf (W := 3) (rm3 l Z a0 hw [] b10  h10 n0 Z10 A10 F_connection_b10 F_queued_b10 F_next_b10 g_b10) hZ (hw _ (List.mem_of_getElem? (i := 15) rfl)) (hw _ (List.mem_of_getElem? (i := 12) rfl)) (by decide) (by decide)) (g := (mkF m 47 #[.val (.int p0), .val (.int p1), .val (.int p2), .val (.int p3), .val (.int p4), .val (.int p5), .val (.ref b1), .val (.ref b3), .unset, .unset] [.null, (.ref b10), (.ref b10), (.int (2 : Int32)), (.ref b3)])) rfl (by rw [hml]; rfl) (Steps.refl _) (a := b10) (argsL := [.null]) (rest := [(.ref b10), (.int (2 : Int32)), (.ref b3)]) (lenOf pd_6 rfl) rfl (by show 2 * 0 + _ ≤ _; exact Nat.le_of_eq rfl) (hb hby at_47) (fun _ _ => ⟨rfl, e10, (by decide : 5 + 0 ≤ _), (by decide : 14 + 0 ≤ _)⟩)
  dsimp only [Pt.U, Pt.locs, Pt.cells, Pt.slots] at X11 l11 y11 z11 st11 hQ11
  subst l11 y11 z11
  obtain ⟨rfl, N11q, K11, Ex11, Fc11, Fq11, Fn11⟩ := hQ11
  have N11 := Fr.app N9 N11q
  have F11_0 := F10_0.keep K11 (ninS ne10_b1 nin0)
  have F11_1 := F10_1.keep K11 (ninS ne10_b1 nin0)
  have F11_2 := F10_2.keep K11 (ninS ne10_b4 nin0)
  have F11_3 := F10_3.keep K11 (ninS ne10_b4 nin0)
  have F11_4 := F10_4.keep K11 (ninS ne10_b4 nin0)
  have F11_5 := F10_5.keep K11 (ninS ne10_b7 nin0)
  have F11_6 := F10_6.keep K11 (ninS ne10_b7 nin0)
  have F11_7 := F10_7.keep K11 (ninS ne10_b7 nin0)
  have E11_0 := X10e_0.keep K11
  have E11_1 := X10e_1.keep K11
  have E11_2 := X10e_2.keep K11
  have E11_3 := A10.keep K11
  have A11_0 := A10_0.keep K11 (ninS ne10_b3 nin0)
  have lt11_0 : b1 < T11.heap.size := Nat.lt_of_lt_of_le lt10_0 K11.1
  have lt11_1 : b3 < T11.heap.size := Nat.lt_of_lt_of_le lt10_1 K11.1
  have lt11_2 : b4 < T11.heap.size := Nat.lt_of_lt_of_le lt10_2 K11.1
  have lt11_3 : b7 < T11.heap.size := Nat.lt_of_lt_of_le lt10_3 K11.1
  have lt11_4 : b10 < T11.heap.size := Nat.lt_of_lt_of_le lt_b10 K11.1
  have Z11 : n0 ≤ T11.heap.size := Nat.le_trans Z10 K11.1
  obtain ⟨cl12, Ar12, qq12, S12, Nn12, H12, Gg12⟩ := id A11_0
  have hin12 : ¬ ((2 : Int32) < 0 ∨ cl12.slots.size ≤ ((2 : Int32)).toNatClampNeg) := inb_of S12 ⟨by decide, by decide⟩
  obtain ⟨T12, h12, X12, e12, W12, st12⟩ := stR X11 hx hZ rfl Ar12 (j := (2 : Int32)) hin12 rfl (Sto.ofV Ar12 qq12 O3 (Ins.self E11_3)) (g := (mkF m 50 #[.val (.int p0), .val (.int p1), .val (.int p2), .val (.int p3), .val (.int p4), .val (.int p5), .val (.ref b1), .val (.ref b3), .unset, .unset] [(.ref b10), (.int (2 : Int32)), (.ref b3)])) rfl rfl (hb hby at_50)
  have V12 : Arv Z h12 b3 k3 (.object "com/example/bulkwire/bulkwire/server/TurnQueue$Place") 3 [(.ref b4), (.ref b7), (.ref b10)] .null := Arv.set Ar12 qq12 S12 Nn12 H12 Gg12 rfl W12 2 rfl (Nat.le_of_ble_eq_true rfl)
  have F12_0 := F11_0.other W12 (Or.inl ne3_b1)
  have F12_1 := F11_1.other W12 (Or.inl ne3_b1)
  have F12_2 := F11_2.other W12 (Or.inl (Ne.symm ne4_b3))
  have F12_3 := F11_3.other W12 (Or.inl (Ne.symm ne4_b3))
  have F12_4 := F11_4.other W12 (Or.inl (Ne.symm ne4_b3))
  have F12_5 := F11_5.other W12 (Or.inl (Ne.symm ne7_b3))
  have F12_6 := F11_6.other W12 (Or.inl (Ne.symm ne7_b3))
  have F12_7 := F11_7.other W12 (Or.inl (Ne.symm ne7_b3))
  have F12_8 := Fc11.other W12 (Or.inl (Ne.symm ne10_b3))
  have F12_9 := Fq11.other W12 (Or.inl (Ne.symm ne10_b3))
  have F12_10 := Fn11.other W12 (Or.inl (Ne.symm ne10_b3))
  have E12_0 := E11_0.wr W12
  have E12_1 := E11_1.wr W12
  have E12_2 := E11_2.wr W12
  have E12_3 := E11_3.wr W12
  have lt12_0 : b1 < h12.size := Nat.lt_of_lt_of_le lt11_0 (Keep.of_wr W12).1
  have lt12_1 : b3 < h12.size := Nat.lt_of_lt_of_le lt11_1 (Keep.of_wr W12).1
  have lt12_2 : b4 < h12.size := Nat.lt_of_lt_of_le lt11_2 (Keep.of_wr W12).1
  have lt12_3 : b7 < h12.size := Nat.lt_of_lt_of_le lt11_3 (Keep.of_wr W12).1
  have lt12_4 : b10 < h12.size := Nat.lt_of_lt_of_le lt11_4 (Keep.of_wr W12).1
  have Z12 : n0 ≤ h12.size := Nat.le_trans Z11 (Keep.of_wr W12).1
  have N12 := Fr.snoc X12 N11 g_b3
  obtain ⟨T13, h13, k13, X13, e13, E13, A13, st13⟩ := newP X12 hx hZ (hw _ (List.mem_of_getElem? (i := 20) rfl)) e12 (g := (mkF m 52 #[.val (.int p0), .val (.int p1), .val (.int p2), .val (.int p3), .val (.int p4), .val (.int p5), .val (.ref b1), .val (.ref b3), .unset, .unset] [(.int (4 : Int32))])) rfl (hb hby at_52) rfl (by decide) (cap := 4) (by decide) (by decide) (by decide) (by decide)
  obtain ⟨b13, g13⟩ : ∃ z, z = h12.size := ⟨_, rfl⟩
  rw [← g13] at A13 st13
  have ne13_b1 : b1 ≠ b13 := Nat.ne_of_lt (Nat.lt_of_lt_of_le lt12_0 (Nat.le_of_eq g13.symm))
  have ne13_b3 : b3 ≠ b13 := Nat.ne_of_lt (Nat.lt_of_lt_of_le lt12_1 (Nat.le_of_eq g13.symm))
  have ne13_b4 : b4 ≠ b13 := Nat.ne_of_lt (Nat.lt_of_lt_of_le lt12_2 (Nat.le_of_eq g13.symm))
  have ne13_b7 : b7 ≠ b13 := Nat.ne_of_lt (Nat.lt_of_lt_of_le lt12_3 (Nat.le_of_eq g13.symm))
  have ne13_b10 : b10 ≠ b13 := Nat.ne_of_lt (Nat.lt_of_lt_of_le lt12_4 (Nat.le_of_eq g13.symm))
  have g_b13 : n0 ≤ b13 := Nat.le_trans Z12 (Nat.le_of_eq g13.symm)
  have F13_0 := F12_0.ext E13
  have F13_1 := F12_1.ext E13
  have F13_2 := F12_2.ext E13
  have F13_3 := F12_3.ext E13
  have F13_4 := F12_4.ext E13
  have F13_5 := F12_5.ext E13
  have F13_6 := F12_6.ext E13
  have F13_7 := F12_7.ext E13
  have F13_8 := F12_8.ext E13
  have F13_9 := F12_9.ext E13
  have F13_10 := F12_10.ext E13
  have X13e_0 := E12_0.ext E13
  have X13e_1 := E12_1.ext E13
  have X13e_2 := E12_2.ext E13
  have X13e_3 := E12_3.ext E13
  have A13_0 := V12.ext E13
  have lt13_0 : b1 < h13.size := Nat.lt_of_lt_of_le lt12_0 E13.1
  have lt13_1 : b3 < h13.size := Nat.lt_of_lt_of_le lt12_1 E13.1
  have lt13_2 : b4 < h13.size := Nat.lt_of_lt_of_le lt12_2 E13.1
  have lt13_3 : b7 < h13.size := Nat.lt_of_lt_of_le lt12_3 E13.1
  have lt13_4 : b10 < h13.size := Nat.lt_of_lt_of_le lt12_4 E13.1
  have Z13 : n0 ≤ h13.size := Nat.le_trans Z12 E13.1
  have V_b13 : Arv Z h13 b13 k13 .int 4 [.int 0, .int 0, .int 0, .int 0] (.int 0) := (Arv.new A13 (by decide)).pad (pad_rep [] (.int 0) 4)
  have hfx : own_fix n0 b1 b3 b13 (fun i => if i = 0 then b4 else if i = 1 then b7 else b10) := ⟨g_b1, fun i hi => by match i, hi with | 0, _ => exact g_b4 | 1, _ => exact g_b7 | 2, _ => exact g_b10, g_b13, ne13_b3, fun i j hi hj z => by match i, hi, j, hj with | 0, _, 0, _ => rfl | 0, _, 1, _ => exact absurd z ne7_b4 | 0, _, 2, _ => exact absurd z ne10_b4 | 1, _, 0, _ => exact absurd z (Ne.symm ne7_b4) | 1, _, 1, _ => rfl | 1, _, 2, _ => exact absurd z ne10_b7 | 2, _, 0, _ => exact absurd z (Ne.symm ne10_b4) | 2, _, 1, _ => exact absurd z (Ne.symm ne10_b7) | 2, _, 2, _ => rfl⟩
  have hY : own_sys Z h13 b1 b3 b13 (fun i => if i = 0 then b4 else if i = 1 then b7 else b10) k3 k13 [] 0 0 0 := ⟨⟨List.nodup_nil, fun x hx => by simp at hx⟩, trivial, ⟨X13e_0, F13_1, F13_0, fun i hi => by match i, hi with | 0, _ => exact ⟨X13e_1, F13_2, F13_3, F13_4⟩ | 1, _ => exact ⟨X13e_2, F13_5, F13_6, F13_7⟩ | 2, _ => exact ⟨X13e_3, F13_8, F13_9, F13_10⟩⟩, A13_0, V_b13⟩
  rw [← e13] at hY
  have hZn : n0 ≤ T13.heap.size := by rw [e13]; exact Z13
  obtain ⟨U0, M0, l0, a0, b0v, c0, XU0, NU0, ZU0, YU0, kU0⟩ := stg_59 p0 p1 p2 p3 p4 p5 b1 b3 b13 (fun i => if i = 0 then b4 else if i = 1 then b7 else b10) k3 k13 [] 0 0 0 n0 X13 hx hZ hw hby hml hown hfx hY hZn
  have NN0 := Fr.app N12 NU0
  obtain ⟨U1, M1, l1, a1, b1v, c1, XU1, NU1, ZU1, YU1, kU1⟩ := stg_79 p0 p1 p2 p3 p4 p5 b1 b3 b13 (fun i => if i = 0 then b4 else if i = 1 then b7 else b10) k3 k13 l0 a0 b0v c0 n0 XU0 hx hZ hw hby hml hown hfx YU0 ZU0
  have NN1 := Fr.app NN0 NU1
  obtain ⟨U2, M2, l2, a2, b2v, c2, XU2, NU2, ZU2, YU2, kU2⟩ := stg_99 p0 p1 p2 p3 p4 p5 b1 b3 b13 (fun i => if i = 0 then b4 else if i = 1 then b7 else b10) k3 k13 l1 a1 b1v c1 n0 XU1 hx hZ hw hby hml hown hfx YU1 ZU1
  have NN2 := Fr.app NN1 NU2
  obtain ⟨U3, M3, l3, a3, b3v, c3, XU3, NU3, ZU3, YU3, kU3⟩ := stg_119 p0 p1 p2 p3 p4 p5 b1 b3 b13 (fun i => if i = 0 then b4 else if i = 1 then b7 else b10) k3 k13 l2 a2 b2v c2 n0 XU2 hx hZ hw hby hml hown hfx YU2 ZU2
  have NN3 := Fr.app NN2 NU3
  obtain ⟨U4, M4, l4, a4, b4v, c4, XU4, NU4, ZU4, YU4, kU4⟩ := stg_133 p0 p1 p2 p3 p4 p5 b1 b3 b13 (fun i => if i = 0 then b4 else if i = 1 then b7 else b10) k3 k13 l3 a3 b3v c3 n0 XU3 hx hZ hw hby hml hown hfx YU3 ZU3
  have NN4 := Fr.app NN3 NU4
  obtain ⟨U5, M5, l5, a5, b5v, c5, XU5, NU5, ZU5, YU5, kU5⟩ := stg_154 p0 p1 p2 p3 p4 p5 b1 b3 b13 (fun i => if i = 0 then b4 else if i = 1 then b7 else b10) k3 k13 l4 a4 b4v c4 n0 XU4 hx hZ hw hby hml hown hfx YU4 ZU4
  have NN5 := Fr.app NN4 NU5
  obtain ⟨U6, M6, l6, a6, b6v, c6, XU6, NU6, ZU6, YU6, kU6⟩ := stg_168 p0 p1 p2 p3 p4 p5 b1 b3 b13 (fun i => if i = 0 then b4 else if i = 1 then b7 else b10) k3 k13 l5 a5 b5v c5 n0 XU5 hx hZ hw hby hml hown hfx YU5 ZU5
  have NN6 := Fr.app NN5 NU6
  obtain ⟨U7, M7, l7, a7, b7v, c7, XU7, NU7, ZU7, YU7, kU7⟩ := stg_190 p0 p1 p2 p3 p4 p5 b1 b3 b13 (fun i => if i = 0 then b4 else if i = 1 then b7 else b10) k3 k13 l6 a6 b6v c6 n0 XU6 hx hZ hw hby hml hown hfx YU6 ZU6
  have NN7 := Fr.app NN6 NU7
  obtain ⟨fs, hr, hrun, hended, hW, hsame⟩ := XU7.leave (v := some (.int 1)) (fun h => by rw [Bd.returns] at h; cases h)
  refine ⟨_, _, pre0 _ ?_, hrun, hended, _, _, rfl, ?_, ⟨_, rfl⟩, hW, hsame.mono (by decide) (by decide)⟩
  · show Steps p.tables e below (s₁.setTop (mkF m 0 #[.val (.int p0), .val (.int p1), .val (.int p2), .val (.int p3), .val (.int p4), .val (.int p5), .unset, .unset, .unset, .unset] [])) _
    refine st1 _ ?_
    show Steps p.tables e below (T1.setTop (mkF m 3 #[.val (.int p0), .val (.int p1), .val (.int p2), .val (.int p3), .val (.int p4), .val (.int p5), .unset, .unset, .unset, .unset] [(.ref b1)])) _
    refine XS.dup X1.here hx rfl (hb hby at_3) rfl rfl ?_
    show Steps p.tables e below (T1.setTop (mkF m 4 #[.val (.int p0), .val (.int p1), .val (.int p2), .val (.int p3), .val (.int p4), .val (.int p5), .unset, .unset, .unset, .unset] [(.ref b1), (.ref b1)])) _
    refine st2.trans ?_
    show Steps p.tables e below (T2.setTop (mkF m 7 #[.val (.int p0), .val (.int p1), .val (.int p2), .val (.int p3), .val (.int p4), .val (.int p5), .unset, .unset, .unset, .unset] [(.ref b1)])) _
    refine XS.astore X2.here hx rfl (hb hby at_7) rfl rfl (l' := #[.val (.int p0), .val (.int p1), .val (.int p2), .val (.int p3), .val (.int p4), .val (.int p5), .val (.ref b1), .unset, .unset, .unset]) rfl ?_
    show Steps p.tables e below (T2.setTop (mkF m 9 #[.val (.int p0), .val (.int p1), .val (.int p2), .val (.int p3), .val (.int p4), .val (.int p5), .val (.ref b1), .unset, .unset, .unset] [])) _
    refine XS.iconst X2.here hx rfl (hb hby at_9) ?_
    show Steps p.tables e below (T2.setTop (mkF m 10 #[.val (.int p0), .val (.int p1), .val (.int p2), .val (.int p3), .val (.int p4), .val (.int p5), .val (.ref b1), .unset, .unset, .unset] [(.int (3 : Int32))])) _
    refine st3 _ ?_
    show Steps p.tables e below (T3.setTop (mkF m 13 #[.val (.int p0), .val (.int p1), .val (.int p2), .val (.int p3), .val (.int p4), .val (.int p5), .val (.ref b1), .unset, .unset, .unset] [(.ref b3)])) _
    refine XS.astore X3.here hx rfl (hb hby at_13) rfl rfl (l' := #[.val (.int p0), .val (.int p1), .val (.int p2), .val (.int p3), .val (.int p4), .val (.int p5), .val (.ref b1), .val (.ref b3), .unset, .unset]) rfl ?_
    show Steps p.tables e below (T3.setTop (mkF m 15 #[.val (.int p0), .val (.int p1), .val (.int p2), .val (.int p3), .val (.int p4), .val (.int p5), .val (.ref b1), .val (.ref b3), .unset, .unset] [])) _
    refine XS.aload X3.here hx rfl (hb hby at_15) rfl rfl ?_
    show Steps p.tables e below (T3.setTop (mkF m 17 #[.val (.int p0), .val (.int p1), .val (.int p2), .val (.int p3), .val (.int p4), .val (.int p5), .val (.ref b1), .val (.ref b3), .unset, .unset] [(.ref b3)])) _
    refine XS.iconst X3.here hx rfl (hb hby at_17) ?_
    show Steps p.tables e below (T3.setTop (mkF m 18 #[.val (.int p0), .val (.int p1), .val (.int p2), .val (.int p3), .val (.int p4), .val (.int p5), .val (.ref b1), .val (.ref b3), .unset, .unset] [(.int (0 : Int32)), (.ref b3)])) _
    refine st4 _ ?_
    show Steps p.tables e below (T4.setTop (mkF m 21 #[.val (.int p0), .val (.int p1), .val (.int p2), .val (.int p3), .val (.int p4), .val (.int p5), .val (.ref b1), .val (.ref b3), .unset, .unset] [(.ref b4), (.int (0 : Int32)), (.ref b3)])) _
    refine XS.dup X4.here hx rfl (hb hby at_21) rfl rfl ?_
    show Steps p.tables e below (T4.setTop (mkF m 22 #[.val (.int p0), .val (.int p1), .val (.int p2), .val (.int p3), .val (.int p4), .val (.int p5), .val (.ref b1), .val (.ref b3), .unset, .unset] [(.ref b4), (.ref b4), (.int (0 : Int32)), (.ref b3)])) _
    refine XS.aconstNull X4.here hx rfl (hb hby at_22) ?_
    show Steps p.tables e below (T4.setTop (mkF m 23 #[.val (.int p0), .val (.int p1), .val (.int p2), .val (.int p3), .val (.int p4), .val (.int p5), .val (.ref b1), .val (.ref b3), .unset, .unset] [.null, (.ref b4), (.ref b4), (.int (0 : Int32)), (.ref b3)])) _
    refine st5.trans ?_
    show Steps p.tables e below (T5.setTop (mkF m 26 #[.val (.int p0), .val (.int p1), .val (.int p2), .val (.int p3), .val (.int p4), .val (.int p5), .val (.ref b1), .val (.ref b3), .unset, .unset] [(.ref b4), (.int (0 : Int32)), (.ref b3)])) _
    refine st6 _ ?_
    show Steps p.tables e below (T6.setTop (mkF m 27 #[.val (.int p0), .val (.int p1), .val (.int p2), .val (.int p3), .val (.int p4), .val (.int p5), .val (.ref b1), .val (.ref b3), .unset, .unset] [])) _
    refine XS.aload X6.here hx rfl (hb hby at_27) rfl rfl ?_
    show Steps p.tables e below (T6.setTop (mkF m 29 #[.val (.int p0), .val (.int p1), .val (.int p2), .val (.int p3), .val (.int p4), .val (.int p5), .val (.ref b1), .val (.ref b3), .unset, .unset] [(.ref b3)])) _
    refine XS.iconst X6.here hx rfl (hb hby at_29) ?_
    show Steps p.tables e below (T6.setTop (mkF m 30 #[.val (.int p0), .val (.int p1), .val (.int p2), .val (.int p3), .val (.int p4), .val (.int p5), .val (.ref b1), .val (.ref b3), .unset, .unset] [(.int (1 : Int32)), (.ref b3)])) _
    refine st7 _ ?_
    show Steps p.tables e below (T7.setTop (mkF m 33 #[.val (.int p0), .val (.int p1), .val (.int p2), .val (.int p3), .val (.int p4), .val (.int p5), .val (.ref b1), .val (.ref b3), .unset, .unset] [(.ref b7), (.int (1 : Int32)), (.ref b3)])) _
    refine XS.dup X7.here hx rfl (hb hby at_33) rfl rfl ?_
    show Steps p.tables e below (T7.setTop (mkF m 34 #[.val (.int p0), .val (.int p1), .val (.int p2), .val (.int p3), .val (.int p4), .val (.int p5), .val (.ref b1), .val (.ref b3), .unset, .unset] [(.ref b7), (.ref b7), (.int (1 : Int32)), (.ref b3)])) _
    refine XS.aconstNull X7.here hx rfl (hb hby at_34) ?_
    show Steps p.tables e below (T7.setTop (mkF m 35 #[.val (.int p0), .val (.int p1), .val (.int p2), .val (.int p3), .val (.int p4), .val (.int p5), .val (.ref b1), .val (.ref b3), .unset, .unset] [.null, (.ref b7), (.ref b7), (.int (1 : Int32)), (.ref b3)])) _
    refine st8.trans ?_
    show Steps p.tables e below (T8.setTop (mkF m 38 #[.val (.int p0), .val (.int p1), .val (.int p2), .val (.int p3), .val (.int p4), .val (.int p5), .val (.ref b1), .val (.ref b3), .unset, .unset] [(.ref b7), (.int (1 : Int32)), (.ref b3)])) _
    refine st9 _ ?_
    show Steps p.tables e below (T9.setTop (mkF m 39 #[.val (.int p0), .val (.int p1), .val (.int p2), .val (.int p3), .val (.int p4), .val (.int p5), .val (.ref b1), .val (.ref b3), .unset, .unset] [])) _
    refine XS.aload X9.here hx rfl (hb hby at_39) rfl rfl ?_
    show Steps p.tables e below (T9.setTop (mkF m 41 #[.val (.int p0), .val (.int p1), .val (.int p2), .val (.int p3), .val (.int p4), .val (.int p5), .val (.ref b1), .val (.ref b3), .unset, .unset] [(.ref b3)])) _
    refine XS.iconst X9.here hx rfl (hb hby at_41) ?_
    show Steps p.tables e below (T9.setTop (mkF m 42 #[.val (.int p0), .val (.int p1), .val (.int p2), .val (.int p3), .val (.int p4), .val (.int p5), .val (.ref b1), .val (.ref b3), .unset, .unset] [(.int (2 : Int32)), (.ref b3)])) _
    refine st10 _ ?_
    show Steps p.tables e below (T10.setTop (mkF m 45 #[.val (.int p0), .val (.int p1), .val (.int p2), .val (.int p3), .val (.int p4), .val (.int p5), .val (.ref b1), .val (.ref b3), .unset, .unset] [(.ref b10), (.int (2 : Int32)), (.ref b3)])) _
    refine XS.dup X10.here hx rfl (hb hby at_45) rfl rfl ?_
    show Steps p.tables e below (T10.setTop (mkF m 46 #[.val (.int p0), .val (.int p1), .val (.int p2), .val (.int p3), .val (.int p4), .val (.int p5), .val (.ref b1), .val (.ref b3), .unset, .unset] [(.ref b10), (.ref b10), (.int (2 : Int32)), (.ref b3)])) _
    refine XS.aconstNull X10.here hx rfl (hb hby at_46) ?_
    show Steps p.tables e below (T10.setTop (mkF m 47 #[.val (.int p0), .val (.int p1), .val (.int p2), .val (.int p3), .val (.int p4), .val (.int p5), .val (.ref b1), .val (.ref b3), .unset, .unset] [.null, (.ref b10), (.ref b10), (.int (2 : Int32)), (.ref b3)])) _
    refine st11.trans ?_
    show Steps p.tables e below (T11.setTop (mkF m 50 #[.val (.int p0), .val (.int p1), .val (.int p2), .val (.int p3), .val (.int p4), .val (.int p5), .val (.ref b1), .val (.ref b3), .unset, .unset] [(.ref b10), (.int (2 : Int32)), (.ref b3)])) _
    refine st12 _ ?_
    show Steps p.tables e below (T12.setTop (mkF m 51 #[.val (.int p0), .val (.int p1), .val (.int p2), .val (.int p3), .val (.int p4), .val (.int p5), .val (.ref b1), .val (.ref b3), .unset, .unset] [])) _
    refine XS.iconst X12.here hx rfl (hb hby at_51) ?_
    show Steps p.tables e below (T12.setTop (mkF m 52 #[.val (.int p0), .val (.int p1), .val (.int p2), .val (.int p3), .val (.int p4), .val (.int p5), .val (.ref b1), .val (.ref b3), .unset, .unset] [(.int (4 : Int32))])) _
    refine st13 _ ?_
    show Steps p.tables e below (T13.setTop (mkF m 54 #[.val (.int p0), .val (.int p1), .val (.int p2), .val (.int p3), .val (.int p4), .val (.int p5), .val (.ref b1), .val (.ref b3), .unset, .unset] [(.ref b13)])) _
    refine XS.astore X13.here hx rfl (hb hby at_54) rfl rfl (l' := #[.val (.int p0), .val (.int p1), .val (.int p2), .val (.int p3), .val (.int p4), .val (.int p5), .val (.ref b1), .val (.ref b3), .val (.ref b13), .unset]) rfl ?_
    show Steps p.tables e below (T13.setTop (mkF m 56 #[.val (.int p0), .val (.int p1), .val (.int p2), .val (.int p3), .val (.int p4), .val (.int p5), .val (.ref b1), .val (.ref b3), .val (.ref b13), .unset] [])) _
    refine XS.iconst X13.here hx rfl (hb hby at_56) ?_
    show Steps p.tables e below (T13.setTop (mkF m 57 #[.val (.int p0), .val (.int p1), .val (.int p2), .val (.int p3), .val (.int p4), .val (.int p5), .val (.ref b1), .val (.ref b3), .val (.ref b13), .unset] [(.int (1 : Int32))])) _
    refine XS.istore X13.here hx rfl (hb hby at_57) rfl (l' := #[.val (.int p0), .val (.int p1), .val (.int p2), .val (.int p3), .val (.int p4), .val (.int p5), .val (.ref b1), .val (.ref b3), .val (.ref b13), .val (.int (1 : Int32))]) rfl ?_
    show Steps p.tables e below (T13.setTop (mkF m 59 #[.val (.int p0), .val (.int p1), .val (.int p2), .val (.int p3), .val (.int p4), .val (.int p5), .val (.ref b1), .val (.ref b3), .val (.ref b13), .val (.int (1 : Int32))] [])) _
    refine kU0 _ ?_
    show Steps p.tables e below (U0.setTop (mkF m 79 #[.val (.int p0), .val (.int p1), .val (.int p2), .val (.int p3), .val (.int p4), .val (.int p5), .val (.ref b1), .val (.ref b3), .val (.ref b13), .val (.int (1 : Int32))] [])) _
    refine kU1 _ ?_
    show Steps p.tables e below (U1.setTop (mkF m 99 #[.val (.int p0), .val (.int p1), .val (.int p2), .val (.int p3), .val (.int p4), .val (.int p5), .val (.ref b1), .val (.ref b3), .val (.ref b13), .val (.int (1 : Int32))] [])) _
    refine kU2 _ ?_
    show Steps p.tables e below (U2.setTop (mkF m 119 #[.val (.int p0), .val (.int p1), .val (.int p2), .val (.int p3), .val (.int p4), .val (.int p5), .val (.ref b1), .val (.ref b3), .val (.ref b13), .val (.int (1 : Int32))] [])) _
    refine kU3 _ ?_
    show Steps p.tables e below (U3.setTop (mkF m 133 #[.val (.int p0), .val (.int p1), .val (.int p2), .val (.int p3), .val (.int p4), .val (.int p5), .val (.ref b1), .val (.ref b3), .val (.ref b13), .val (.int (1 : Int32))] [])) _
    refine kU4 _ ?_
    show Steps p.tables e below (U4.setTop (mkF m 154 #[.val (.int p0), .val (.int p1), .val (.int p2), .val (.int p3), .val (.int p4), .val (.int p5), .val (.ref b1), .val (.ref b3), .val (.ref b13), .val (.int (1 : Int32))] [])) _
    refine kU5 _ ?_
    show Steps p.tables e below (U5.setTop (mkF m 168 #[.val (.int p0), .val (.int p1), .val (.int p2), .val (.int p3), .val (.int p4), .val (.int p5), .val (.ref b1), .val (.ref b3), .val (.ref b13), .val (.int (1 : Int32))] [])) _
    refine kU6 _ ?_
    show Steps p.tables e below (U6.setTop (mkF m 190 #[.val (.int p0), .val (.int p1), .val (.int p2), .val (.int p3), .val (.int p4), .val (.int p5), .val (.ref b1), .val (.ref b3), .val (.ref b13), .val (.int (1 : Int32))] [])) _
    refine kU7 _ ?_
    show Steps p.tables e below (U7.setTop (mkF m 204 #[.val (.int p0), .val (.int p1), .val (.int p2), .val (.int p3), .val (.int p4), .val (.int p5), .val (.ref b1), .val (.ref b3), .val (.ref b13), .val (.int (1 : Int32))] [])) _
    refine XS.iload XU7.here hx rfl (hb hby at_204) rfl ?_
    show Steps p.tables e below (U7.setTop (mkF m 206 #[.val (.int p0), .val (.int p1), .val (.int p2), .val (.int p3), .val (.int p4), .val (.int p5), .val (.ref b1), .val (.ref b3), .val (.ref b13), .val (.int (1 : Int32))] [(.int (1 : Int32))])) _
    exact retN XU7 hx (t := .boolean) Bd.returns (by simp) (hb hby at_206) hr
  · exact ⟨rfl, NN7⟩
set_option maxRecDepth 65536 in
set_option maxHeartbeats 40000000 in
theorem comes_1 {Post : Tables → Env → Array Value → State → Outcome → State → Prop} (hpost : ∀ tb e args s v u, (limb_1_1.after args s (.returned v) u = true ∧ limb_1_2.after args s (.returned v) u = true ∧ True) → FrameEnd s (.returned v) u (Jvm.fieldLocs frame_1_writes args s ++ Jvm.arrayLocs frame_1_arrays args s ++ Jvm.staticLocs frame_1_statics s) 24 128 → Post tb e args s (.returned v) u) :
    ArmFor flags0 classFile x code maxLocals ret World_1 tables_1 room_1 Calls_1 rest_1 Pre_1 Post := by
  intro l hfl _ _ p e ha hc hk s m args below hf hA hF happ hP
  obtain ⟨hcalls, hrest, hpre⟩ := hP
  obtain ⟨-, -, -, hnamed, -, -, -, hat⟩ := (Spec.applies_iff hf).mp happ
  obtain ⟨hg, hn⟩ := and_e (Cond.before_iff.mp (show (Jvm.Cond.and given_1 narrow_1).before args s = true from hpre))
  obtain ⟨gc, gr0⟩ := and_e hg
  obtain ⟨ga0, gr1⟩ := and_e gr0
  obtain ⟨ga1, gr2⟩ := and_e gr1
  obtain ⟨ga2, gr3⟩ := and_e gr2
  obtain ⟨ga3, gr4⟩ := and_e gr3
  obtain ⟨ga4, gr5⟩ := and_e gr4
  obtain ⟨w0, w1, w2, w3, w4, w5, rfl⟩ : ∃ w0 w1 w2 w3 w4 w5 : Value, args = #[w0, w1, w2, w3, w4, w5] := by
    have hs : args.size = 6 := by simpa [Cond.value, given_1] using gc
    obtain ⟨L⟩ := args
    match L, hs with
    | [w0, w1, w2, w3, w4, w5], _ => exact ⟨w0, w1, w2, w3, w4, w5, rfl⟩
  have hw := fun d (hd : d ∈ tables_1) => atoms_spec (ws := Jvm.Cond.code x code maxLocals ret :: tables_1) hat d (List.mem_cons_of_mem _ hd)
  obtain ⟨i0, ei0⟩ := is_v ga0
  obtain rfl : w0 = (.int i0) := Option.some.inj ei0
  obtain ⟨i1, ei1⟩ := is_v ga1
  obtain rfl : w1 = (.int i1) := Option.some.inj ei1
  obtain ⟨i2, ei2⟩ := is_v ga2
  obtain rfl : w2 = (.int i2) := Option.some.inj ei2
  obtain ⟨i3, ei3⟩ := is_v ga3
  obtain rfl : w3 = (.int i3) := Option.some.inj ei3
  obtain ⟨i4, ei4⟩ := is_v ga4
  obtain rfl : w4 = (.int i4) := Option.some.inj ei4
  obtain ⟨i5, ei5⟩ := is_v gr5
  obtain rfl : w5 = (.int i5) := Option.some.inj ei5
  obtain ⟨n, o, h1, h2, h3, _, L, rfl, ⟨rfl, N⟩, hq⟩ := rm0 l s _ hw tables_1 i0 i1 i2 i3 i4 i5 s.heap s.heap.size (Nat.le_refl _)  p e ha hc hk s m _ below hf ((Spec.applies_iff_loose hf).mp happ).1 ⟨rfl, State.Warmed39.refl s, rfl⟩ trivial
  refine ⟨n, _, h1, h2, h3, hpost _ _ _ _ _ _ ⟨Cond.after_iff.mpr rfl, Cond.after_iff.mpr (eq_i res_at (Term.int_eval (1)) rfl), trivial⟩ ⟨hq.1, hq.2.1, (hq.2.2.sift fun y hy => Or.inr (N y hy)).mono (by decide) (by decide)⟩⟩
theorem main_1_1 : Claimed_1_1 := comes_1 fun _ _ _ _ _ _ h hF => ⟨h.1, hF⟩
theorem main_1_2 : Claimed_1_2 := comes_1 fun _ _ _ _ _ _ h hF => ⟨h.2.1, hF⟩
end Jvm.Pilot.@@N@@
namespace Jvm.Pilot.@@N@@
open Jvm Jvm.ClassFile Sem Op Lib Jvm.Free Jvm.Stand Jvm.Pilot.@@N@@.Jvm.D
/-! MADE BY PROGRAM (witnessworld.py) out of the Statement's table words and the real class files: 11 classes; the members and pool entries that the words name. The judged class is class 1, her method 1. -/
namespace start1
open Jvm.ClassFile
def u (s : String) : CpInfo := .utf8 (stringToUtf16 s)
/-- a pool by its gaps: so many unusable entries, then the entry; so many at the end -/
def gap : Nat → List CpInfo → List CpInfo
  | 0, r => r
  | n + 1, r => .unusable :: gap n r
def poolList (es : List (Nat × CpInfo)) (last : Nat) : List CpInfo := es.foldr (fun e r => gap e.1 (e.2 :: r)) (gap last [])
def pool (es : List (Nat × CpInfo)) (last : Nat) : Array CpInfo := ⟨poolList es last⟩
def fileOf (pool : Array CpInfo) (this : Nat) (attrs : Array Attribute := #[]) (ms : Array MethodInfo := #[]) (fl : Nat := 33) (sup : Nat := 0) (ifs : Array Nat := #[]) (fds : Array FieldInfo := #[]) : ClassFile where
  minorVersion := 0
  majorVersion := 65
  constantPool := pool
  accessFlags := fl
  thisClass := this
  superClass := sup
  interfaces := ifs
  fields := fds
  methods := ms
  attributes := attrs
def plain (name : String) (sup : Option ClassId) : Class where
  name := name
  kind := .ordinary
  loader := none
  accessFlags := 33
  super := sup
  interfaces := #[]
  cf := none
  fields := #[]
  methods := #[]
  instanceTypes := #[]
  staticTypes := #[]
  resolved := #[]
  callSites := []
  init := .initialized
  statics := none
  mirror := none

def pool0 : Array CpInfo := pool [(5, u "<init>"), (0, u "()V"), (1, .class_ 10), (1, u "java/lang/Object")] 113

def k0c0 : Code := { maxStack := 0, maxLocals := 1, code := object_method_1_code, exceptionTable := #[], attributes := #[] }
def k0m0 : Method := { name := "<init>", desc := "()V", sig := { parameters := [], returnType := none }, accessFlags := 1, code := some k0c0 }
/-- java/lang/Object -/
def k0 : Class := { plain "java/lang/Object" none with
  accessFlags := 33
  interfaces := #[]
  cf := some (fileOf pool0 8 #[] #[{ accessFlags := 1, nameIndex := 5, descriptorIndex := 6, attributes := #[] }] 33 0 #[] #[])
  fields := #[]
  methods := #[k0m0]
  instanceTypes := #[]
  staticTypes := #[]
  resolved := Array.replicate 124 none
  statics := none }

def pool1 : Array CpInfo := pool [(2, .class_ 4), (0, .nameAndType 5 6), (0, u "java/lang/Object"), (0, u "<init>"), (0, u "()V"), (0, .class_ 8), (0, u "com/example/bulkwire/bulkwire/server/TurnQueue"), (0, .methodref 7 3), (0, .class_ 11), (0, u "com/example/bulkwire/bulkwire/server/TurnQueue$Place"), (0, .methodref 10 13), (0, .nameAndType 5 14), (0, u "(Lcom/example/bulkwire/bulkwire/server/Connection;)V"), (0, .methodref 16 17), (0, .class_ 18), (0, .nameAndType 19 20), (0, u "com/example/bulkwire/bulkwire/server/TurnQueuePollPinLaw"), (0, u "pick"), (0, u "(I)I"), (0, .methodref 16 22), (0, .nameAndType 23 24), (0, u "addBoth"), (0, u "(Lcom/example/bulkwire/bulkwire/server/TurnQueue;[Lcom/example/bulkwire/bulkwire/server/TurnQueue$Place;[II)V"), (0, .methodref 16 26), (0, .nameAndType 27 28), (0, u "pollMatches"), (0, u "(Lcom/example/bulkwire/bulkwire/server/TurnQueue;[Lcom/example/bulkwire/bulkwire/server/TurnQueue$Place;[I)Z"), (0, .integer 2147483647), (0, .methodref 7 31), (0, .nameAndType 32 33), (0, u "add"), (0, u "(Lcom/example/bulkwire/bulkwire/server/TurnQueue$Place;)V"), (0, .methodref 16 35), (0, .nameAndType 36 37), (0, u "contains"), (0, u "([II)Z"), (0, .methodref 7 39), (0, .nameAndType 40 41), (0, u "poll"), (0, u "()Lcom/example/bulkwire/bulkwire/server/Connection;"), (0, .methodref 7 43), (0, .nameAndType 44 45), (0, u "holds"), (0, u "(Lcom/example/bulkwire/bulkwire/server/TurnQueue$Place;)Z"), (0, .methodref 7 47), (0, .nameAndType 48 49), (0, u "isEmpty"), (0, u "()Z"), (2, u "law"), (0, u "(IIIIII)Z")] 9

def k1m0 : Method := { name := "<init>", desc := "()V", sig := { parameters := [], returnType := none }, accessFlags := 1, code := none }
def k1c1 : Code := { maxStack := 5, maxLocals := 10, code := code, exceptionTable := #[], attributes := #[] }
def k1m1 : Method := { name := "law", desc := "(IIIIII)Z", sig := { parameters := [.int, .int, .int, .int, .int, .int], returnType := some .boolean }, accessFlags := 9, code := some k1c1 }
def k1c2 : Code := { maxStack := 2, maxLocals := 1, code := method_3_code, exceptionTable := #[], attributes := #[] }
def k1m2 : Method := { name := "pick", desc := "(I)I", sig := { parameters := [.int], returnType := some .int }, accessFlags := 10, code := some k1c2 }
def k1c3 : Code := { maxStack := 4, maxLocals := 4, code := method_4_code, exceptionTable := #[], attributes := #[] }
def k1m3 : Method := { name := "addBoth", desc := "(Lcom/example/bulkwire/bulkwire/server/TurnQueue;[Lcom/example/bulkwire/bulkwire/server/TurnQueue$Place;[II)V", sig := { parameters := [(.object "com/example/bulkwire/bulkwire/server/TurnQueue"), (.array (.object "com/example/bulkwire/bulkwire/server/TurnQueue$Place")), (.array .int), .int], returnType := none }, accessFlags := 10, code := some k1c3 }
def k1c4 : Code := { maxStack := 2, maxLocals := 3, code := method_5_code, exceptionTable := #[], attributes := #[] }
def k1m4 : Method := { name := "contains", desc := "([II)Z", sig := { parameters := [(.array .int), .int], returnType := some .boolean }, accessFlags := 10, code := some k1c4 }
def k1c5 : Code := { maxStack := 4, maxLocals := 6, code := method_6_code, exceptionTable := #[], attributes := #[] }
def k1m5 : Method := { name := "pollMatches", desc := "(Lcom/example/bulkwire/bulkwire/server/TurnQueue;[Lcom/example/bulkwire/bulkwire/server/TurnQueue$Place;[I)Z", sig := { parameters := [(.object "com/example/bulkwire/bulkwire/server/TurnQueue"), (.array (.object "com/example/bulkwire/bulkwire/server/TurnQueue$Place")), (.array .int)], returnType := some .boolean }, accessFlags := 10, code := some k1c5 }
/-- com/example/bulkwire/bulkwire/server/TurnQueuePollPinLaw -/
def k1 : Class := { plain "com/example/bulkwire/bulkwire/server/TurnQueuePollPinLaw" (some 0) with
  accessFlags := 49
  interfaces := #[]
  cf := some (fileOf pool1 16 #[] #[{ accessFlags := 1, nameIndex := 5, descriptorIndex := 6, attributes := #[] }, { accessFlags := 9, nameIndex := 52, descriptorIndex := 53, attributes := #[] }, { accessFlags := 10, nameIndex := 19, descriptorIndex := 20, attributes := #[] }, { accessFlags := 10, nameIndex := 23, descriptorIndex := 24, attributes := #[] }, { accessFlags := 10, nameIndex := 36, descriptorIndex := 37, attributes := #[] }, { accessFlags := 10, nameIndex := 27, descriptorIndex := 28, attributes := #[] }] 49 2 #[] #[])
  fields := #[]
  methods := #[k1m0, k1m1, k1m2, k1m3, k1m4, k1m5]
  instanceTypes := #[]
  staticTypes := #[]
  resolved := Array.replicate 63 none
  statics := none }

def pool2 : Array CpInfo := pool [(1, .methodref 2 3), (0, .class_ 4), (0, .nameAndType 5 6), (0, u "java/lang/Object"), (0, u "<init>"), (0, u "()V"), (0, .fieldref 8 9), (0, .class_ 10), (0, .nameAndType 11 12), (0, u "com/example/bulkwire/bulkwire/server/TurnQueue$Place"), (0, u "queued"), (0, u "Z"), (0, .fieldref 14 15), (0, .class_ 16), (0, .nameAndType 17 18), (0, u "com/example/bulkwire/bulkwire/server/TurnQueue"), (0, u "last"), (0, u "Lcom/example/bulkwire/bulkwire/server/TurnQueue$Place;"), (0, .fieldref 14 20), (0, .nameAndType 21 18), (0, u "first"), (0, .fieldref 8 23), (0, .nameAndType 24 18), (0, u "next"), (0, .fieldref 8 26), (0, .nameAndType 27 28), (0, u "connection"), (0, u "Lcom/example/bulkwire/bulkwire/server/Connection;"), (2, u "add"), (0, u "(Lcom/example/bulkwire/bulkwire/server/TurnQueue$Place;)V"), (1, u "holds"), (0, u "(Lcom/example/bulkwire/bulkwire/server/TurnQueue$Place;)Z"), (0, u "poll"), (0, u "()Lcom/example/bulkwire/bulkwire/server/Connection;"), (2, u "isEmpty"), (0, u "()Z")] 5

def k2c0 : Code := { maxStack := 1, maxLocals := 1, code := prog_293_method_1_code, exceptionTable := #[], attributes := #[] }
def k2m0 : Method := { name := "<init>", desc := "()V", sig := { parameters := [], returnType := none }, accessFlags := 0, code := some k2c0 }
def k2c1 : Code := { maxStack := 2, maxLocals := 2, code := prog_293_method_2_code, exceptionTable := #[], attributes := #[] }
def k2m1 : Method := { name := "add", desc := "(Lcom/example/bulkwire/bulkwire/server/TurnQueue$Place;)V", sig := { parameters := [(.object "com/example/bulkwire/bulkwire/server/TurnQueue$Place")], returnType := none }, accessFlags := 0, code := some k2c1 }
def k2c2 : Code := { maxStack := 1, maxLocals := 2, code := prog_293_method_3_code, exceptionTable := #[], attributes := #[] }
def k2m2 : Method := { name := "holds", desc := "(Lcom/example/bulkwire/bulkwire/server/TurnQueue$Place;)Z", sig := { parameters := [(.object "com/example/bulkwire/bulkwire/server/TurnQueue$Place")], returnType := some .boolean }, accessFlags := 0, code := some k2c2 }
def k2c3 : Code := { maxStack := 2, maxLocals := 3, code := prog_293_method_4_code, exceptionTable := #[], attributes := #[] }
def k2m3 : Method := { name := "poll", desc := "()Lcom/example/bulkwire/bulkwire/server/Connection;", sig := { parameters := [], returnType := some (.object "com/example/bulkwire/bulkwire/server/Connection") }, accessFlags := 0, code := some k2c3 }
def k2c4 : Code := { maxStack := 1, maxLocals := 1, code := prog_293_method_5_code, exceptionTable := #[], attributes := #[] }
def k2m4 : Method := { name := "isEmpty", desc := "()Z", sig := { parameters := [], returnType := some .boolean }, accessFlags := 0, code := some k2c4 }
/-- com/example/bulkwire/bulkwire/server/TurnQueue -/
def k2 : Class := { plain "com/example/bulkwire/bulkwire/server/TurnQueue" (some 0) with
  accessFlags := 48
  interfaces := #[]
  cf := some (fileOf pool2 14 #[.nestMembers #[8]] #[{ accessFlags := 0, nameIndex := 5, descriptorIndex := 6, attributes := #[] }, { accessFlags := 0, nameIndex := 31, descriptorIndex := 32, attributes := #[] }, { accessFlags := 0, nameIndex := 34, descriptorIndex := 35, attributes := #[] }, { accessFlags := 0, nameIndex := 36, descriptorIndex := 37, attributes := #[] }, { accessFlags := 0, nameIndex := 40, descriptorIndex := 41, attributes := #[] }] 48 2 #[] #[{ accessFlags := 2, nameIndex := 21, descriptorIndex := 18, attributes := #[] }, { accessFlags := 2, nameIndex := 17, descriptorIndex := 18, attributes := #[] }])
  fields := #[{ name := "first", type := (.object "com/example/bulkwire/bulkwire/server/TurnQueue$Place"), accessFlags := 2, slot := 0, constantValue := 0 }, { name := "last", type := (.object "com/example/bulkwire/bulkwire/server/TurnQueue$Place"), accessFlags := 2, slot := 1, constantValue := 0 }]
  methods := #[k2m0, k2m1, k2m2, k2m3, k2m4]
  instanceTypes := #[(.object "com/example/bulkwire/bulkwire/server/TurnQueue$Place"), (.object "com/example/bulkwire/bulkwire/server/TurnQueue$Place")]
  staticTypes := #[]
  resolved := (((Array.replicate 47 none).setIfInBounds 7 (some (.field 3 1))).setIfInBounds 22 (some (.field 3 2))).setIfInBounds 25 (some (.field 3 0))
  statics := none }

def pool3 : Array CpInfo := pool [(1, .methodref 2 3), (0, .class_ 4), (0, .nameAndType 5 6), (0, u "java/lang/Object"), (0, u "<init>"), (0, u "()V"), (0, .fieldref 8 9), (0, .class_ 10), (0, .nameAndType 11 12), (0, u "com/example/bulkwire/bulkwire/server/TurnQueue$Place"), (0, u "connection"), (0, u "Lcom/example/bulkwire/bulkwire/server/Connection;"), (0, u "queued"), (0, u "Z"), (0, u "next"), (0, u "Lcom/example/bulkwire/bulkwire/server/TurnQueue$Place;"), (0, u "(Lcom/example/bulkwire/bulkwire/server/Connection;)V"), (5, .class_ 24), (0, u "com/example/bulkwire/bulkwire/server/TurnQueue")] 2

def k3c0 : Code := { maxStack := 2, maxLocals := 2, code := prog_294_method_1_code, exceptionTable := #[], attributes := #[] }
def k3m0 : Method := { name := "<init>", desc := "(Lcom/example/bulkwire/bulkwire/server/Connection;)V", sig := { parameters := [(.object "com/example/bulkwire/bulkwire/server/Connection")], returnType := none }, accessFlags := 0, code := some k3c0 }
/-- com/example/bulkwire/bulkwire/server/TurnQueue$Place -/
def k3 : Class := { plain "com/example/bulkwire/bulkwire/server/TurnQueue$Place" (some 0) with
  accessFlags := 48
  interfaces := #[]
  cf := some (fileOf pool3 8 #[.nestHost 23] #[{ accessFlags := 0, nameIndex := 5, descriptorIndex := 17, attributes := #[] }] 48 2 #[] #[{ accessFlags := 18, nameIndex := 11, descriptorIndex := 12, attributes := #[] }, { accessFlags := 2, nameIndex := 13, descriptorIndex := 14, attributes := #[] }, { accessFlags := 2, nameIndex := 15, descriptorIndex := 16, attributes := #[] }])
  fields := #[{ name := "connection", type := (.object "com/example/bulkwire/bulkwire/server/Connection"), accessFlags := 18, slot := 0, constantValue := 0 }, { name := "queued", type := .boolean, accessFlags := 2, slot := 1, constantValue := 0 }, { name := "next", type := (.object "com/example/bulkwire/bulkwire/server/TurnQueue$Place"), accessFlags := 2, slot := 2, constantValue := 0 }]
  methods := #[k3m0]
  instanceTypes := #[(.object "com/example/bulkwire/bulkwire/server/Connection"), .boolean, (.object "com/example/bulkwire/bulkwire/server/TurnQueue$Place")]
  staticTypes := #[]
  resolved := Array.replicate 27 none
  statics := none }

def pool4 : Array CpInfo := pool [(1, u "java/lang/Cloneable"), (0, .class_ 1), (0, u "java/lang/Object"), (0, .class_ 3)] 3

/-- java/lang/Cloneable -/
def k4 : Class := { plain "java/lang/Cloneable" (some 0) with
  accessFlags := 1537
  interfaces := #[]
  cf := some (fileOf pool4 2 #[] #[] 1537 4 #[] #[])
  fields := #[]
  methods := #[]
  instanceTypes := #[]
  staticTypes := #[]
  resolved := Array.replicate 8 none
  statics := none }

def pool5 : Array CpInfo := pool [(1, u "java/io/Serializable"), (0, .class_ 1), (0, u "java/lang/Object"), (0, .class_ 3)] 3

/-- java/io/Serializable -/
def k5 : Class := { plain "java/io/Serializable" (some 0) with
  accessFlags := 1537
  interfaces := #[]
  cf := some (fileOf pool5 2 #[] #[] 1537 4 #[] #[])
  fields := #[]
  methods := #[]
  instanceTypes := #[]
  staticTypes := #[]
  resolved := Array.replicate 8 none
  statics := none }

/-- the primitive byte -/
def k6 : Class := { plain "byte" none with kind := .primitive 'B', accessFlags := 0x411 }
/-- [B -/
def k7 : Class := { plain "[B" (some 0) with kind := .array 6 .byte, interfaces := #[4, 5], accessFlags := 1041 }

/-- the primitive int -/
def k8 : Class := { plain "int" none with kind := .primitive 'I', accessFlags := 0x411 }
/-- [I -/
def k9 : Class := { plain "[I" (some 0) with kind := .array 8 .int, interfaces := #[4, 5], accessFlags := 1041 }

/-- [Lcom/example/bulkwire/bulkwire/server/TurnQueue$Place; -/
def k10 : Class := { plain "[Lcom/example/bulkwire/bulkwire/server/TurnQueue$Place;" (some 0) with kind := .array 3 (.object "com/example/bulkwire/bulkwire/server/TurnQueue$Place"), interfaces := #[4, 5], accessFlags := 1041 }

def heap : Heap := #[]
def classes : Array Class := #[k0, k1, k2, k3, k4, k5, k6, k7, k8, k9, k10]
def interned : List (Array UInt16 × Addr) := []
def slotsUsed : Nat := 0
def theMethod : MethodId := ⟨1, 1⟩
def args0 : Array Value := #[.int 0, .int 1, .int 2, .int 0, .int 1, .int 31]
def aboutOver (below : List Frame) : State where
  vm := { classes := classes, interned := interned.toArray }
  heap := heap
  slotsUsed := slotsUsed
  threads := #[{ frames := .invoking theMethod args0 :: below }]
def below0 : List Frame := [.native { method := ⟨0, 0⟩, args := #[] }]
def about1 : State := aboutOver below0
def p0 : Program := .bare "" "" ""
def e0 : Env := launch0.env 0 0 0
theorem w_frames : about1.frames = Frame.invoking theMethod args0 :: below0 := rfl
set_option maxRecDepth 65536 in
theorem w_args : argsFit about1.vm theMethod args0 = true := by decide +kernel
set_option maxRecDepth 65536 in
theorem w_heap : heapFits about1 = true := by decide +kernel
set_option maxRecDepth 65536 in
theorem w_runnable : about1.curStatus? = some .runnable := by decide +kernel
set_option maxRecDepth 65536 in
theorem w_alone : about1.alone = true := by decide +kernel
set_option maxRecDepth 65536 in
theorem w_named : about1.methodNamed? x = some theMethod := by decide +kernel
set_option maxRecDepth 65536 in
theorem w_hears : about1.hears theMethod below0 = true := by decide +kernel
set_option maxRecDepth 65536 in
theorem w_ripe : about1.ripe theMethod args0 below0 = true := by decide +kernel
theorem w_running : about1.status = .running := rfl
set_option maxRecDepth 65536 in
theorem w_room : about1.hasRoom e0.platform room_1 = true :=
  launch0.hasRoom_least _ room_1 (by decide +kernel) (by decide +kernel) (by decide +kernel) (by decide +kernel) (by decide +kernel) (by decide +kernel)
theorem allAtoms_all (ts : List Jvm.Cond) (a : Array Jvm.Value) (st : Jvm.State) : (allAtoms ts).before a st = ts.all (fun c => c.before a st) := by
  induction ts with
  | nil => rfl
  | cons c t ih =>
    show (Jvm.Cond.and c (allAtoms t)).before a st = _
    rw [Jvm.Cond.before_and, ih, List.all_cons]
def words1 : List Jvm.Cond := Jvm.Cond.code x code maxLocals ret :: tables_1
/-- a 'code' word, met by the world's own term for the bytes: nothing is compared byte by byte -/
theorem code_word {y : MethodName} {bytes : ByteArray} {mx : Nat} {rt : Option FieldType} {a : Array Value} {s : State} {m : MethodId} {meth : Method} {c : Code} (h1 : s.methodNamed? y = some m) (h2 : s.vm.method? m = some meth) (h3 : meth.code = some c) (h4 : c.code = bytes)
    (h5 : (c.maxLocals == mx && c.exceptionTable.isEmpty && decide (c.maxStack ≤ mostOperands) && decide (meth.sig.returnType = rt) && !meth.locks && decide (parseMethodDescriptor y.desc = some meth.sig)) = true) : (Jvm.Cond.code y bytes mx rt).before a s = true := by
  simp only [Bool.and_eq_true, beq_iff_eq, Bool.not_eq_true', decide_eq_true_eq] at h5
  obtain ⟨⟨⟨⟨⟨g1, g2⟩, g3⟩, g4⟩, g5⟩, g6⟩ := h5
  simp [Cond.before, Cond.holds, Cond.value, h1, h2, h3, h4, g1, g2, g3, g4, g5, g6]
def isCode : Jvm.Cond → Bool
  | .code _ _ _ _ => true
  | _ => false
theorem all_split {L : List Jvm.Cond} {P : Jvm.Cond → Bool} (h1 : L.all (fun c => isCode c || P c) = true) (h2 : ∀ c ∈ L.filter isCode, P c = true) : L.all P = true := by
  refine List.all_eq_true.mpr fun c hc => ?_
  have h := List.all_eq_true.mp h1 c hc
  rcases Bool.eq_false_or_eq_true (isCode c) with hi | hi
  · exact h2 c (List.mem_filter.mpr ⟨hc, hi⟩)
  · simpa [hi] using h
set_option maxRecDepth 65536 in
theorem w_c0 : (Jvm.Cond.code x code maxLocals ret).before args0 about1 = true := code_word (m := ⟨1, 1⟩) (meth := k1m1) (c := k1c1) (by decide +kernel) rfl rfl rfl (by decide +kernel)
set_option maxRecDepth 65536 in
theorem w_c1 : (Jvm.Cond.code ({ cls := "com/example/bulkwire/bulkwire/server/TurnQueue", name := "<init>", desc := "()V" } : Jvm.MethodName) prog_293_method_1_code (1 : Nat) (Option.none : Option Jvm.ClassFile.FieldType)).before args0 about1 = true := code_word (m := ⟨2, 0⟩) (meth := k2m0) (c := k2c0) (by decide +kernel) rfl rfl rfl (by decide +kernel)
set_option maxRecDepth 65536 in
theorem w_c2 : (Jvm.Cond.code ({ cls := "java/lang/Object", name := "<init>", desc := "()V" } : Jvm.MethodName) object_method_1_code (1 : Nat) (Option.none : Option Jvm.ClassFile.FieldType)).before args0 about1 = true := code_word (m := ⟨0, 0⟩) (meth := k0m0) (c := k0c0) (by decide +kernel) rfl rfl rfl (by decide +kernel)
set_option maxRecDepth 65536 in
theorem w_c3 : (Jvm.Cond.code ({ cls := "com/example/bulkwire/bulkwire/server/TurnQueue$Place", name := "<init>", desc := "(Lcom/example/bulkwire/bulkwire/server/Connection;)V" } : Jvm.MethodName) prog_294_method_1_code (2 : Nat) (Option.none : Option Jvm.ClassFile.FieldType)).before args0 about1 = true := code_word (m := ⟨3, 0⟩) (meth := k3m0) (c := k3c0) (by decide +kernel) rfl rfl rfl (by decide +kernel)
set_option maxRecDepth 65536 in
theorem w_c4 : (Jvm.Cond.code ({ cls := "com/example/bulkwire/bulkwire/server/TurnQueuePollPinLaw", name := "pick", desc := "(I)I" } : Jvm.MethodName) method_3_code (1 : Nat) (Option.some Jvm.ClassFile.FieldType.int)).before args0 about1 = true := code_word (m := ⟨1, 2⟩) (meth := k1m2) (c := k1c2) (by decide +kernel) rfl rfl rfl (by decide +kernel)
set_option maxRecDepth 65536 in
theorem w_c5 : (Jvm.Cond.code ({ cls := "com/example/bulkwire/bulkwire/server/TurnQueuePollPinLaw", name := "addBoth", desc := "(Lcom/example/bulkwire/bulkwire/server/TurnQueue;[Lcom/example/bulkwire/bulkwire/server/TurnQueue$Place;[II)V" } : Jvm.MethodName) method_4_code (4 : Nat) (Option.none : Option Jvm.ClassFile.FieldType)).before args0 about1 = true := code_word (m := ⟨1, 3⟩) (meth := k1m3) (c := k1c3) (by decide +kernel) rfl rfl rfl (by decide +kernel)
set_option maxRecDepth 65536 in
theorem w_c6 : (Jvm.Cond.code ({ cls := "com/example/bulkwire/bulkwire/server/TurnQueue", name := "add", desc := "(Lcom/example/bulkwire/bulkwire/server/TurnQueue$Place;)V" } : Jvm.MethodName) prog_293_method_2_code (2 : Nat) (Option.none : Option Jvm.ClassFile.FieldType)).before args0 about1 = true := code_word (m := ⟨2, 1⟩) (meth := k2m1) (c := k2c1) (by decide +kernel) rfl rfl rfl (by decide +kernel)
set_option maxRecDepth 65536 in
theorem w_c7 : (Jvm.Cond.code ({ cls := "com/example/bulkwire/bulkwire/server/TurnQueuePollPinLaw", name := "contains", desc := "([II)Z" } : Jvm.MethodName) method_5_code (3 : Nat) (Option.some Jvm.ClassFile.FieldType.boolean)).before args0 about1 = true := code_word (m := ⟨1, 4⟩) (meth := k1m4) (c := k1c4) (by decide +kernel) rfl rfl rfl (by decide +kernel)
set_option maxRecDepth 65536 in
theorem w_c8 : (Jvm.Cond.code ({ cls := "com/example/bulkwire/bulkwire/server/TurnQueuePollPinLaw", name := "pollMatches", desc := "(Lcom/example/bulkwire/bulkwire/server/TurnQueue;[Lcom/example/bulkwire/bulkwire/server/TurnQueue$Place;[I)Z" } : Jvm.MethodName) method_6_code (6 : Nat) (Option.some Jvm.ClassFile.FieldType.boolean)).before args0 about1 = true := code_word (m := ⟨1, 5⟩) (meth := k1m5) (c := k1c5) (by decide +kernel) rfl rfl rfl (by decide +kernel)
set_option maxRecDepth 65536 in
theorem w_c9 : (Jvm.Cond.code ({ cls := "com/example/bulkwire/bulkwire/server/TurnQueue", name := "poll", desc := "()Lcom/example/bulkwire/bulkwire/server/Connection;" } : Jvm.MethodName) prog_293_method_4_code (3 : Nat) (Option.some (Jvm.ClassFile.FieldType.object "com/example/bulkwire/bulkwire/server/Connection"))).before args0 about1 = true := code_word (m := ⟨2, 3⟩) (meth := k2m3) (c := k2c3) (by decide +kernel) rfl rfl rfl (by decide +kernel)
set_option maxRecDepth 65536 in
theorem w_c10 : (Jvm.Cond.code ({ cls := "com/example/bulkwire/bulkwire/server/TurnQueue", name := "holds", desc := "(Lcom/example/bulkwire/bulkwire/server/TurnQueue$Place;)Z" } : Jvm.MethodName) prog_293_method_3_code (2 : Nat) (Option.some Jvm.ClassFile.FieldType.boolean)).before args0 about1 = true := code_word (m := ⟨2, 2⟩) (meth := k2m2) (c := k2c2) (by decide +kernel) rfl rfl rfl (by decide +kernel)
set_option maxRecDepth 65536 in
theorem w_c11 : (Jvm.Cond.code ({ cls := "com/example/bulkwire/bulkwire/server/TurnQueue", name := "isEmpty", desc := "()Z" } : Jvm.MethodName) prog_293_method_5_code (1 : Nat) (Option.some Jvm.ClassFile.FieldType.boolean)).before args0 about1 = true := code_word (m := ⟨2, 4⟩) (meth := k2m4) (c := k2c4) (by decide +kernel) rfl rfl rfl (by decide +kernel)
def codes1 : List Jvm.Cond := [Jvm.Cond.code x code maxLocals ret, Jvm.Cond.code ({ cls := "com/example/bulkwire/bulkwire/server/TurnQueue", name := "<init>", desc := "()V" } : Jvm.MethodName) prog_293_method_1_code (1 : Nat) (Option.none : Option Jvm.ClassFile.FieldType), Jvm.Cond.code ({ cls := "java/lang/Object", name := "<init>", desc := "()V" } : Jvm.MethodName) object_method_1_code (1 : Nat) (Option.none : Option Jvm.ClassFile.FieldType), Jvm.Cond.code ({ cls := "com/example/bulkwire/bulkwire/server/TurnQueue$Place", name := "<init>", desc := "(Lcom/example/bulkwire/bulkwire/server/Connection;)V" } : Jvm.MethodName) prog_294_method_1_code (2 : Nat) (Option.none : Option Jvm.ClassFile.FieldType), Jvm.Cond.code ({ cls := "com/example/bulkwire/bulkwire/server/TurnQueuePollPinLaw", name := "pick", desc := "(I)I" } : Jvm.MethodName) method_3_code (1 : Nat) (Option.some Jvm.ClassFile.FieldType.int), Jvm.Cond.code ({ cls := "com/example/bulkwire/bulkwire/server/TurnQueuePollPinLaw", name := "addBoth", desc := "(Lcom/example/bulkwire/bulkwire/server/TurnQueue;[Lcom/example/bulkwire/bulkwire/server/TurnQueue$Place;[II)V" } : Jvm.MethodName) method_4_code (4 : Nat) (Option.none : Option Jvm.ClassFile.FieldType), Jvm.Cond.code ({ cls := "com/example/bulkwire/bulkwire/server/TurnQueue", name := "add", desc := "(Lcom/example/bulkwire/bulkwire/server/TurnQueue$Place;)V" } : Jvm.MethodName) prog_293_method_2_code (2 : Nat) (Option.none : Option Jvm.ClassFile.FieldType), Jvm.Cond.code ({ cls := "com/example/bulkwire/bulkwire/server/TurnQueuePollPinLaw", name := "contains", desc := "([II)Z" } : Jvm.MethodName) method_5_code (3 : Nat) (Option.some Jvm.ClassFile.FieldType.boolean), Jvm.Cond.code ({ cls := "com/example/bulkwire/bulkwire/server/TurnQueuePollPinLaw", name := "pollMatches", desc := "(Lcom/example/bulkwire/bulkwire/server/TurnQueue;[Lcom/example/bulkwire/bulkwire/server/TurnQueue$Place;[I)Z" } : Jvm.MethodName) method_6_code (6 : Nat) (Option.some Jvm.ClassFile.FieldType.boolean), Jvm.Cond.code ({ cls := "com/example/bulkwire/bulkwire/server/TurnQueue", name := "poll", desc := "()Lcom/example/bulkwire/bulkwire/server/Connection;" } : Jvm.MethodName) prog_293_method_4_code (3 : Nat) (Option.some (Jvm.ClassFile.FieldType.object "com/example/bulkwire/bulkwire/server/Connection")), Jvm.Cond.code ({ cls := "com/example/bulkwire/bulkwire/server/TurnQueue", name := "holds", desc := "(Lcom/example/bulkwire/bulkwire/server/TurnQueue$Place;)Z" } : Jvm.MethodName) prog_293_method_3_code (2 : Nat) (Option.some Jvm.ClassFile.FieldType.boolean), Jvm.Cond.code ({ cls := "com/example/bulkwire/bulkwire/server/TurnQueue", name := "isEmpty", desc := "()Z" } : Jvm.MethodName) prog_293_method_5_code (1 : Nat) (Option.some Jvm.ClassFile.FieldType.boolean)]
set_option maxRecDepth 65536 in
theorem codes_eq : words1.filter isCode = codes1 := rfl
theorem w_codes : ∀ c ∈ words1.filter isCode, c.before args0 about1 = true := by
  rw [codes_eq]
  intro c hc
  simp only [codes1, List.mem_cons, List.not_mem_nil, or_false] at hc
  rcases hc with rfl | rfl | rfl | rfl | rfl | rfl | rfl | rfl | rfl | rfl | rfl | rfl
  · exact w_c0
  · exact w_c1
  · exact w_c2
  · exact w_c3
  · exact w_c4
  · exact w_c5
  · exact w_c6
  · exact w_c7
  · exact w_c8
  · exact w_c9
  · exact w_c10
  · exact w_c11
set_option maxRecDepth 65536 in
theorem w_t1 : (words1.take 24).all (fun c => isCode c || c.before args0 about1) = true := by decide +kernel
set_option maxRecDepth 65536 in
theorem w_t2 : ((words1.drop 24).take 24).all (fun c => isCode c || c.before args0 about1) = true := by decide +kernel
set_option maxRecDepth 65536 in
theorem w_t3 : ((words1.drop 24).drop 24).all (fun c => isCode c || c.before args0 about1) = true := by decide +kernel
theorem w_tables : (allAtoms (Jvm.Cond.code x code maxLocals ret :: tables_1)).before args0 about1 = true := by
  rw [allAtoms_all]
  show words1.all (fun c => c.before args0 about1) = true
  refine all_split ?_ w_codes
  rw [← List.take_append_drop 24 words1, List.all_append, w_t1, ← List.take_append_drop 24 (words1.drop 24), List.all_append, w_t2, w_t3]
  rfl
set_option maxRecDepth 65536 in
theorem w_case : (Jvm.Cond.and given_1 narrow_1).before args0 about1 = true := by decide +kernel
theorem w_applies : (headSpec (Jvm.Cond.code x code maxLocals ret :: tables_1) room_1).applies x e0.platform about1 = true :=
  (Spec.applies_iff w_frames).mpr ⟨w_running, w_runnable, w_alone, w_named, w_hears, w_ripe, w_room, w_tables⟩
theorem atStart : AtStart classFile x code maxLocals ret World_1 tables_1 room_1 Calls_1 rest_1 Pre_1 launch0 p0 e0 about1 theMethod args0 below0 :=
  ⟨lists_1, trivial, launch0.admits_env _ _ _, launch0.least_env, fairChoices_fair.cas, fairChoices_fair.clock, w_frames, w_args, w_heap, w_applies, trivial, trivial, w_case⟩
end start1
theorem witness_1 : WitnessClaimed_1 := ⟨start1.p0, start1.e0, start1.about1, start1.theMethod, start1.args0, start1.below0, start1.atStart⟩
end Jvm.Pilot.@@N@@
