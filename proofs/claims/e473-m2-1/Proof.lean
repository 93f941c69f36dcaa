import JvmDerived
import JvmDerived.Pilot.@@N@@Statement
import JvmDerived.Pilot.@@N@@Code
set_option linter.unusedVariables false
set_option linter.unusedSimpArgs false
namespace Jvm.RoadKit
open Sem ClassFile Op Lib Jvm.Stand Jvm.Free Jvm.LawKit
section New
variable {p : Program} {l : Launch} {e : Env} {R : Room} {s : State} {m : MethodId} {args : Array Value} {below : List Frame} {meth : Method} {c : Code} {T : State} {locs : List Loc} {cells slots : Nat}
theorem retI (X : Stand p l e R s m args below meth c T locs cells slots) (hx : p.tables.exec = Jvm.exec) {pc : Nat} {Ls : Array Slot} {z : Int32} {rest : List Value} (hret : meth.sig.returnType = some .int) (hd : decode c.code pc = .ok (.ireturn, 1)) {fs : List Frame}
    (hl : ∀ (f : JFrame) (acts : List Action), f.method = m → f.locked = none → f.entered = [] → (doReturn e (T.setTop f) acts (some (.int z))).1 = T.setFrames fs) : Steps p.tables e below (T.setTop (mkF m pc Ls (.int z :: rest))) (T.setFrames fs) := by
  have hm' : T.vm.method? m = some meth := X.method'
  have hn : narrow .int (.int z) = .int z := rfl
  show Steps p.tables e below (T.setTop { method := m, pc := pc, locals := Ls, stack := _ :: rest, locked := none }) _
  jvm_step X.here [X.here.top, hx, hd, hm', hret, hn]
  first | (intro acts; rw [hl _ acts rfl rfl rfl]) | rw [hl _ _ rfl rfl rfl]
  exact Steps.refl _
end New
end Jvm.RoadKit
namespace Jvm.Pilot.@@N@@
open Jvm Jvm.ClassFile Sem Op Lib Jvm.Free Jvm.Stand Jvm.LawKit Jvm.RoadKit Bundle Jvm.Pilot.@@N@@.Jvm.D
theorem own_tf (b : Bool) : b = true ∨ b = false := by cases b <;> simp
theorem own_t {b : Bool} {x y z : Int32} (h : b = true) (k : x = z) : (bif b then x else y) = z := by subst h; exact k
theorem own_f {b : Bool} {x y z : Int32} (h : b = false) (k : y = z) : (bif b then x else y) = z := by subst h; exact k
theorem own_ltT {x y : Int32} {n : Int} (hy : y.toInt = n) (h : x.toInt < n) : if_icmp.holds .lt x y = true := (tlt (Int32.lt_iff_toInt_lt.mpr (by rw [hy]; exact h))).1
theorem own_ltF {x y : Int32} {n : Int} (hy : y.toInt = n) (h : n ≤ x.toInt) : if_icmp.holds .lt x y = false := (flt (fun q => absurd (Int32.lt_iff_toInt_lt.mp q) (by rw [hy]; exact Int.not_lt.mpr h))).1
theorem own_geT {x y : Int32} {n : Int} (hy : y.toInt = n) (h : n ≤ x.toInt) : if_icmp.holds .ge x y = true := (flt (fun q => absurd (Int32.lt_iff_toInt_lt.mp q) (by rw [hy]; exact Int.not_lt.mpr h))).2.1
theorem own_geF {x y : Int32} {n : Int} (hy : y.toInt = n) (h : x.toInt < n) : if_icmp.holds .ge x y = false := (tlt (Int32.lt_iff_toInt_lt.mpr (by rw [hy]; exact h))).2.1
theorem own_gtT {x y : Int32} {n : Int} (hy : y.toInt = n) (h : n < x.toInt) : if_icmp.holds .gt x y = true := (tlt (Int32.lt_iff_toInt_lt.mpr (by rw [hy]; exact h))).2.2.1
theorem own_gtF {x y : Int32} {n : Int} (hy : y.toInt = n) (h : x.toInt ≤ n) : if_icmp.holds .gt x y = false := (flt (fun q => absurd (Int32.lt_iff_toInt_lt.mp q) (by rw [hy]; exact Int.not_lt.mpr h))).2.2.1
theorem own_leT {x y : Int32} {n : Int} (hy : y.toInt = n) (h : x.toInt ≤ n) : if_icmp.holds .le x y = true := (flt (fun q => absurd (Int32.lt_iff_toInt_lt.mp q) (by rw [hy]; exact Int.not_lt.mpr h))).2.2.2
theorem own_leF {x y : Int32} {n : Int} (hy : y.toInt = n) (h : n < x.toInt) : if_icmp.holds .le x y = false := (tlt (Int32.lt_iff_toInt_lt.mpr (by rw [hy]; exact h))).2.2.2
theorem own_eqT {x y : Int32} {n : Int} (hy : y.toInt = n) (h : x.toInt = n) : if_icmp.holds .eq x y = true := (teq (Int32.toInt_inj.mp (h.trans hy.symm))).1
theorem own_eqF {x y : Int32} {n : Int} (hy : y.toInt = n) (h : x.toInt ≠ n) : if_icmp.holds .eq x y = false := (feq (fun q => h (by rw [q]; exact hy))).1
theorem own_neT {x y : Int32} {n : Int} (hy : y.toInt = n) (h : x.toInt ≠ n) : if_icmp.holds .ne x y = true := (feq (fun q => h (by rw [q]; exact hy))).2
theorem own_neF {x y : Int32} {n : Int} (hy : y.toInt = n) (h : x.toInt = n) : if_icmp.holds .ne x y = false := (teq (Int32.toInt_inj.mp (h.trans hy.symm))).2
theorem own_pt {x y : Int32} {n : Int} (hy : y.toInt = n) (h : x.toInt = n) : x = y := Int32.toInt_inj.mp (h.trans hy.symm)
def own_Q (w : Option Value) (h0 : Heap) (n0 : Nat) (v : Option Value) (h : Heap) (L : List Loc) : Prop := v = w ∧ Fr n0 L ∧ h = h0
def own_Q0 (n0 : Nat) (v : Option Value) (L : List Loc) : Prop := v = some (.int (1 : Int32)) ∧ Fr n0 L
section OwnCall
variable {p : Program} {l : Launch} {e : Env} {R : Room} {s : State} {m : MethodId} {args : Array Value} {below : List Frame} {meth : Method} {c : Code} {T : State} {locs : List Loc} {cells slots : Nat} {Z : State} {a0 : Array Value} {h : Heap}
theorem own_callS (X : Stand p l e R s m args below meth c T locs cells slots) (hx : p.tables.exec = Jvm.exec) (hZ : Z.Warmed39 s.vm) {own : String} {index : Nat} {y : MethodName} {bytes : ByteArray} {maxL : Nat} {ret : Option FieldType} (hown : s.vm.findClass own = some m.cls)
    (w1 : (Jvm.Cond.methodLink own index y).before a0 Z = true) (w2 : (Jvm.Cond.static y).before a0 Z = true) (w3 : (Jvm.Cond.initialized y.cls).before a0 Z = true) (w4 : (Jvm.Cond.code y bytes maxL ret).before a0 Z = true) (hy : y.cls ≠ "java/lang/invoke/MethodHandle" ∧ y.cls ≠ "java/lang/invoke/VarHandle")
    {W fr lo n0 : Nat} {argsL : List Value} {r : Value}
    (hM : MetFree l y (head1 [Jvm.Cond.code y bytes maxL ret] ({ frames := fr, cells := 0, slots := 0, locals := lo } : Room)) (fun a U => a = argsL.toArray ∧ Z.Warmed39 U.vm ∧ U.heap = h) (fun _ _ _ _ _ => True) (fun _ U o U' => ∃ v L, o = .returned v ∧ own_Q (some r) h n0 v U'.heap L ∧ FrameEnd U o U' L ({ frames := fr, cells := 0, slots := 0, locals := lo } : Room).cells ({ frames := fr, cells := 0, slots := 0, locals := lo } : Room).slots))
    (hf : fr + 1 ≤ R.frames) (hl : W + (maxL + 11) + lo ≤ R.locals)
    {g : JFrame} (hg : g.method = m) (hsize : g.locals.size = c.maxLocals) {rest : List Value} (hlen : ∀ sig, parseMethodDescriptor y.desc = some sig → argsL.length = sig.parameters.length) (hstack : g.stack = argsL.reverse ++ rest) (hW : 2 * g.monitorRoom + (rest.map fun v => v.category).sum ≤ W) (hdg : decode c.code g.pc = .ok (.invokestatic index, 3))
    (hc : cells ≤ R.cells) (hs : slots ≤ R.slots) (eT : T.heap = h) (N : Fr n0 locs) :
    ∃ T' locs', Stand p l e R s m args below meth c T' locs' cells slots ∧ T'.heap = h ∧ Fr n0 locs' ∧ ∀ target, Steps p.tables e below (T'.setTop { g with pc := g.pc + 3, stack := r :: rest }) target → Steps p.tables e below (T.setTop g) target := by
  obtain ⟨v, vm1, ⟨T', L', k', n'⟩, -, X', ⟨Lc, ⟨rfl, N', e'⟩, l', y', z'⟩, st⟩ := Jvm.LawKit.callS X hx hown (mvT hZ w1) (mvT hZ w2) (mvT hZ w3) (mvT hZ w4) hy (backOf (W := W) hM hZ w4 w3 hf hl) hg hsize hlen hstack hW hdg (fun _ _ => ⟨rfl, eT, hc, hs⟩)
  dsimp only [Pt.U, Pt.locs, Pt.cells, Pt.slots] at X' l' y' z' st e'
  subst l' y' z'
  exact ⟨T', _, X', e', Fr.app N N', st⟩
end OwnCall
section OwnCallV
variable {p : Program} {l : Launch} {e : Env} {R : Room} {s : State} {m : MethodId} {args : Array Value} {below : List Frame} {meth : Method} {c : Code} {T : State} {locs : List Loc} {cells slots : Nat} {Z : State} {a0 : Array Value} {h : Heap}
theorem own_callV (X : Stand p l e R s m args below meth c T locs cells slots) (hx : p.tables.exec = Jvm.exec) (hZ : Z.Warmed39 s.vm) {own : String} {index : Nat} {y : MethodName} {bytes : ByteArray} {maxL : Nat} {ret : Option FieldType} (hown : s.vm.findClass own = some m.cls)
    (w1 : (Jvm.Cond.methodLink own index y).before a0 Z = true) (w2 : (Jvm.Cond.declares y).before a0 Z = true) (w3 : (Jvm.Cond.instanceMethod y).before a0 Z = true) (w4 : (Jvm.Cond.selects y.cls y y).before a0 Z = true) (w5 : (Jvm.Cond.initialized y.cls).before a0 Z = true) (w6 : (Jvm.Cond.code y bytes maxL ret).before a0 Z = true) (hy : y.cls ≠ "java/lang/invoke/MethodHandle" ∧ y.cls ≠ "java/lang/invoke/VarHandle")
    {W fr lo : Nat} {b : Addr} {argsL : List Value} {Q : Option Value → Heap → List Loc → Prop}
    (hM : MetFree l y (head1 [Jvm.Cond.code y bytes maxL ret] ({ frames := fr, cells := 0, slots := 0, locals := lo } : Room)) (fun a U => a = (Value.ref b :: argsL).toArray ∧ Z.Warmed39 U.vm ∧ U.heap = h) (fun _ _ _ _ _ => True) (fun _ U o U' => ∃ v L, o = .returned v ∧ Q v U'.heap L ∧ FrameEnd U o U' L ({ frames := fr, cells := 0, slots := 0, locals := lo } : Room).cells ({ frames := fr, cells := 0, slots := 0, locals := lo } : Room).slots))
    (hf : fr + 1 ≤ R.frames) (hl : W + (maxL + 11) + lo ≤ R.locals) (E : Exa Z h b y.cls)
    {g : JFrame} (hg : g.method = m) (hsize : g.locals.size = c.maxLocals) {rest : List Value} (hlen : ∀ sig, parseMethodDescriptor y.desc = some sig → argsL.length = sig.parameters.length) (hstack : g.stack = argsL.reverse ++ .ref b :: rest) (hW : 2 * g.monitorRoom + (rest.map fun v => v.category).sum ≤ W) (hdg : decode c.code g.pc = .ok (.invokevirtual index, 3))
    (hc : cells ≤ R.cells) (hs : slots ≤ R.slots) (eT : T.heap = h) :
    ∃ v T' L, Stand p l e R s m args below meth c T' (locs ++ L) cells slots ∧ Q v T'.heap L ∧ ∀ target, Steps p.tables e below (T'.setTop { g with pc := g.pc + 3, stack := v.toList ++ rest }) target → Steps p.tables e below (T.setTop g) target := by
  obtain ⟨cB, kB, q1, -, q3⟩ := isOf hZ eT E
  obtain ⟨v, vm1, ⟨T', L', k', n'⟩, -, X', ⟨Lc, hQ, l', y', z'⟩, st⟩ := X.virtualBack hx (y := y) (z := y) hown (mvT hZ w1) (mvT hZ w2) (notFace_of_selects (args := #[]) (mvT hZ w4)) (mvT hZ w4) (mvT hZ w3) hy (backOf (W := W) hM hZ w6 w5 hf hl) q1 q3 hg hsize (Steps.refl _) hlen hstack hW hdg (fun _ _ => ⟨rfl, eT, hc, hs⟩)
  dsimp only [Pt.U, Pt.locs, Pt.cells, Pt.slots] at X' l' y' z' st hQ
  subst l' y' z'
  exact ⟨v, T', Lc, X', hQ, fun target k => st.trans k⟩
theorem own_callN (X : Stand p l e R s m args below meth c T locs cells slots) (hx : p.tables.exec = Jvm.exec) (hZ : Z.Warmed39 s.vm) {own : String} {index : Nat} {y : MethodName} {bytes : ByteArray} {maxL : Nat} (hy1 : y.name = "<init>") (hown : s.vm.findClass own = some m.cls)
    (w1 : (Jvm.Cond.methodLink own index y).before a0 Z = true) (w2 : (Jvm.Cond.instanceMethod y).before a0 Z = true) (w5 : (Jvm.Cond.initialized y.cls).before a0 Z = true) (w6 : (Jvm.Cond.code y bytes maxL none).before a0 Z = true) (hy : y.cls ≠ "java/lang/invoke/MethodHandle" ∧ y.cls ≠ "java/lang/invoke/VarHandle")
    {W fr lo : Nat} {b : Addr} {argsL : List Value} {Q : Option Value → Heap → List Loc → Prop}
    (hM : MetFree l y (head1 [Jvm.Cond.code y bytes maxL none] ({ frames := fr, cells := 0, slots := 0, locals := lo } : Room)) (fun a U => a = (Value.ref b :: argsL).toArray ∧ Z.Warmed39 U.vm ∧ U.heap = h) (fun _ _ _ _ _ => True) (fun _ U o U' => ∃ v L, o = .returned v ∧ Q v U'.heap L ∧ FrameEnd U o U' L ({ frames := fr, cells := 0, slots := 0, locals := lo } : Room).cells ({ frames := fr, cells := 0, slots := 0, locals := lo } : Room).slots))
    (hf : fr + 1 ≤ R.frames) (hl : W + (maxL + 11) + lo ≤ R.locals)
    {g : JFrame} (hg : g.method = m) (hsize : g.locals.size = c.maxLocals) {rest : List Value} (hlen : ∀ sig, parseMethodDescriptor y.desc = some sig → argsL.length = sig.parameters.length) (hstack : g.stack = argsL.reverse ++ .ref b :: rest) (hW : 2 * g.monitorRoom + (rest.map fun v => v.category).sum ≤ W) (hdg : decode c.code g.pc = .ok (.invokespecial index, 3))
    (hc : cells ≤ R.cells) (hs : slots ≤ R.slots) (eT : T.heap = h) :
    ∃ v T' L, Stand p l e R s m args below meth c T' (locs ++ L) cells slots ∧ Q v T'.heap L ∧ ∀ target, Steps p.tables e below (T'.setTop { g with pc := g.pc + 3, stack := v.toList ++ rest }) target → Steps p.tables e below (T.setTop g) target := by
  obtain ⟨v, vm1, ⟨T', L', k', n'⟩, -, X', ⟨Lc, hQ, l', y', z'⟩, st⟩ := X.specialBack hx (y := y) hy1 hown (mvT hZ w1) (mvT hZ w2) (mvT hZ w6) hy (backOf (W := W) hM hZ w6 w5 hf hl) hg hsize (Steps.refl _) hlen hstack hW hdg (fun _ _ => ⟨rfl, eT, hc, hs⟩)
  dsimp only [Pt.U, Pt.locs, Pt.cells, Pt.slots] at X' l' y' z' st hQ
  subst l' y' z'
  exact ⟨v, T', Lc, X', hQ, fun target k => st.trans k⟩
end OwnCallV
/-! the counter: its three fields; the array of three chars -/
def own_PC (Z : State) (h : Heap) (a : Addr) (ln co ac : Int32) : Prop := Exa Z h a "com/example/amberwire/amberwire/core/text/PlaceCounter" ∧ Fld Z h a "com/example/amberwire/amberwire/core/text/PlaceCounter" "line" "I" (.int ln) ∧ Fld Z h a "com/example/amberwire/amberwire/core/text/PlaceCounter" "column" "I" (.int co) ∧ Fld Z h a "com/example/amberwire/amberwire/core/text/PlaceCounter" "afterCarriageReturn" "Z" (.int ac)
theorem own_neLC {Z : State} {a0 : Array Value} (hw : ∀ d ∈ tables_1, d.before a0 Z = true) : Jvm.RoadKit.slotOf Z "com/example/amberwire/amberwire/core/text/PlaceCounter" "line" "I" ≠ Jvm.RoadKit.slotOf Z "com/example/amberwire/amberwire/core/text/PlaceCounter" "column" "I" := slot_ne (C := "com/example/amberwire/amberwire/core/text/PlaceCounter") (Or.inl (hw _ (List.mem_of_getElem? (i := 21) rfl))) (Or.inl (hw _ (List.mem_of_getElem? (i := 30) rfl))) (by decide) (t := .int) (t' := .int) (by decide) (by decide)
theorem own_neLA {Z : State} {a0 : Array Value} (hw : ∀ d ∈ tables_1, d.before a0 Z = true) : Jvm.RoadKit.slotOf Z "com/example/amberwire/amberwire/core/text/PlaceCounter" "line" "I" ≠ Jvm.RoadKit.slotOf Z "com/example/amberwire/amberwire/core/text/PlaceCounter" "afterCarriageReturn" "Z" := slot_ne (C := "com/example/amberwire/amberwire/core/text/PlaceCounter") (Or.inl (hw _ (List.mem_of_getElem? (i := 21) rfl))) (Or.inl (hw _ (List.mem_of_getElem? (i := 28) rfl))) (by decide) (t := .int) (t' := .boolean) (by decide) (by decide)
theorem own_neCA {Z : State} {a0 : Array Value} (hw : ∀ d ∈ tables_1, d.before a0 Z = true) : Jvm.RoadKit.slotOf Z "com/example/amberwire/amberwire/core/text/PlaceCounter" "column" "I" ≠ Jvm.RoadKit.slotOf Z "com/example/amberwire/amberwire/core/text/PlaceCounter" "afterCarriageReturn" "Z" := slot_ne (C := "com/example/amberwire/amberwire/core/text/PlaceCounter") (Or.inl (hw _ (List.mem_of_getElem? (i := 30) rfl))) (Or.inl (hw _ (List.mem_of_getElem? (i := 28) rfl))) (by decide) (t := .int) (t' := .boolean) (by decide) (by decide)
theorem own_PC_setL {Z : State} {a0 : Array Value} (hw : ∀ d ∈ tables_1, d.before a0 Z = true) {h h' : Heap} {a : Addr} {ln co ac x : Int32} (P : own_PC Z h a ln co ac) (W : Wr h h' a (Jvm.RoadKit.slotOf Z "com/example/amberwire/amberwire/core/text/PlaceCounter" "line" "I") (.int x)) : own_PC Z h' a x co ac := ⟨P.1.wr W, P.2.1.same W, P.2.2.1.other W (Or.inr (own_neLC hw).symm), P.2.2.2.other W (Or.inr (own_neLA hw).symm)⟩
theorem own_PC_setC {Z : State} {a0 : Array Value} (hw : ∀ d ∈ tables_1, d.before a0 Z = true) {h h' : Heap} {a : Addr} {ln co ac x : Int32} (P : own_PC Z h a ln co ac) (W : Wr h h' a (Jvm.RoadKit.slotOf Z "com/example/amberwire/amberwire/core/text/PlaceCounter" "column" "I") (.int x)) : own_PC Z h' a ln x ac := ⟨P.1.wr W, P.2.1.other W (Or.inr (own_neLC hw)), P.2.2.1.same W, P.2.2.2.other W (Or.inr (own_neCA hw).symm)⟩
theorem own_PC_setA {Z : State} {a0 : Array Value} (hw : ∀ d ∈ tables_1, d.before a0 Z = true) {h h' : Heap} {a : Addr} {ln co ac x : Int32} (P : own_PC Z h a ln co ac) (W : Wr h h' a (Jvm.RoadKit.slotOf Z "com/example/amberwire/amberwire/core/text/PlaceCounter" "afterCarriageReturn" "Z") (.int x)) : own_PC Z h' a ln co x := ⟨P.1.wr W, P.2.1.other W (Or.inr (own_neLA hw)), P.2.2.1.other W (Or.inr (own_neCA hw)), P.2.2.2.same W⟩
def own_QP (Z : State) (a : Addr) (ln co ac : Int32) (h0 : Heap) (n0 : Nat) (v : Option Value) (h : Heap) (L : List Loc) : Prop := v = none ∧ Fr n0 L ∧ Keep h0 h [a] ∧ own_PC Z h a ln co ac
def own_A3 (Z : State) (h : Heap) (b : Addr) (v0 v1 v2 : Int32) : Prop := ∃ cl : Cell, Arr Z h b cl .char ∧ cl.slots.size = 3 ∧ cl.slots[0]? = some (.int v0) ∧ cl.slots[1]? = some (.int v1) ∧ cl.slots[2]? = some (.int v2)
theorem own_A3_new {Z : State} {h : Heap} {b : Addr} {k : ClassId} (A : Arr Z h b (newA k .char 3) .char) : own_A3 Z h b 0 0 0 := ⟨_, A, sz_new _ _ _, rfl, rfl, rfl⟩
theorem own_A3_keep {Z : State} {h h' : Heap} {b : Addr} {v0 v1 v2 : Int32} {ws : List Addr} (V : own_A3 Z h b v0 v1 v2) (K : Keep h h' ws) (q : b ∉ ws) : own_A3 Z h' b v0 v1 v2 := by
  obtain ⟨cl, A, r⟩ := V
  exact ⟨cl, ⟨K.2.1 b cl A.1 q, A.2⟩, r⟩
theorem own_A3_ext {Z : State} {h h' : Heap} {b : Addr} {v0 v1 v2 : Int32} (V : own_A3 Z h b v0 v1 v2) (E : Ext h h') : own_A3 Z h' b v0 v1 v2 := by
  obtain ⟨cl, A, r⟩ := V
  exact ⟨cl, A.ext E, r⟩
theorem own_set_hit {cl : Cell} {k : Nat} {x : Value} (h : k < cl.slots.size) : (cl.setSlot k x).slots[k]? = some x := by
  show (cl.slots.setIfInBounds k x)[k]? = some x
  rw [Array.getElem?_setIfInBounds, if_pos rfl, if_pos h]
theorem own_set_miss {cl : Cell} {k j : Nat} {x : Value} (h : k ≠ j) : (cl.setSlot k x).slots[j]? = cl.slots[j]? := by
  show (cl.slots.setIfInBounds k x)[j]? = cl.slots[j]?
  rw [Array.getElem?_setIfInBounds, if_neg h]
theorem own_A3_set0 {Z : State} {h h' : Heap} {b : Addr} {cl : Cell} {v1 v2 x : Int32} (A : Arr Z h b cl .char) (S : cl.slots.size = 3) (q1 : cl.slots[1]? = some (.int v1)) (q2 : cl.slots[2]? = some (.int v2)) (W : Wr h h' b (0 : Int32).toNatClampNeg (.int x)) : own_A3 Z h' b x v1 v2 := ⟨_, A.same W, (sz_set _ _ _).trans S, own_set_hit (by rw [S]; decide), (own_set_miss (by decide)).trans q1, (own_set_miss (by decide)).trans q2⟩
theorem own_A3_set1 {Z : State} {h h' : Heap} {b : Addr} {cl : Cell} {v0 v2 x : Int32} (A : Arr Z h b cl .char) (S : cl.slots.size = 3) (q0 : cl.slots[0]? = some (.int v0)) (q2 : cl.slots[2]? = some (.int v2)) (W : Wr h h' b (1 : Int32).toNatClampNeg (.int x)) : own_A3 Z h' b v0 x v2 := ⟨_, A.same W, (sz_set _ _ _).trans S, (own_set_miss (by decide)).trans q0, own_set_hit (by rw [S]; decide), (own_set_miss (by decide)).trans q2⟩
theorem own_A3_set2 {Z : State} {h h' : Heap} {b : Addr} {cl : Cell} {v0 v1 x : Int32} (A : Arr Z h b cl .char) (S : cl.slots.size = 3) (q0 : cl.slots[0]? = some (.int v0)) (q1 : cl.slots[1]? = some (.int v1)) (W : Wr h h' b (2 : Int32).toNatClampNeg (.int x)) : own_A3 Z h' b v0 v1 x := ⟨_, A.same W, (sz_set _ _ _).trans S, (own_set_miss (by decide)).trans q0, (own_set_miss (by decide)).trans q1, own_set_hit (by rw [S]; decide)⟩
/-! what pass makes of the three fields -/
def own_pL (c ln ac : Int32) : Int32 := if c = 10 then (if ac = 0 then ln + 1 else ln) else if c = 13 then ln + 1 else ln
def own_pC (c co ac : Int32) : Int32 := if c = 10 then (if ac = 0 then 0 else co) else if c = 13 then 0 else co + 1
def own_pA (c : Int32) : Int32 := if c = 13 then 1 else 0

theorem own_dP_0 : decode method_2_code 0 = .ok (.iload_n 0, 1) := by decide +kernel
theorem own_dP_1 : decode method_2_code 1 = .ok (.iconst 3, 1) := by decide +kernel
theorem own_dP_2 : decode method_2_code 2 = .ok (.iand, 1) := by decide +kernel
theorem own_dP_3 : decode method_2_code 3 = .ok (.istore_n 1, 1) := by decide +kernel
theorem own_dP_4 : decode method_2_code 4 = .ok (.iload_n 1, 1) := by decide +kernel
theorem own_dP_5 : decode method_2_code 5 = .ok (.ifCond .ne 6, 3) := by decide +kernel
theorem own_dP_8 : decode method_2_code 8 = .ok (.bipush 10, 2) := by decide +kernel
theorem own_dP_10 : decode method_2_code 10 = .ok (.ireturn, 1) := by decide +kernel
theorem own_dP_11 : decode method_2_code 11 = .ok (.iload_n 1, 1) := by decide +kernel
theorem own_dP_12 : decode method_2_code 12 = .ok (.iconst 1, 1) := by decide +kernel
theorem own_dP_13 : decode method_2_code 13 = .ok (.if_icmp .ne 6, 3) := by decide +kernel
theorem own_dP_16 : decode method_2_code 16 = .ok (.bipush 13, 2) := by decide +kernel
theorem own_dP_18 : decode method_2_code 18 = .ok (.ireturn, 1) := by decide +kernel
theorem own_dP_19 : decode method_2_code 19 = .ok (.iload_n 0, 1) := by decide +kernel
theorem own_dP_20 : decode method_2_code 20 = .ok (.iconst 2, 1) := by decide +kernel
theorem own_dP_21 : decode method_2_code 21 = .ok (.iushr, 1) := by decide +kernel
theorem own_dP_22 : decode method_2_code 22 = .ok (.i2c, 1) := by decide +kernel
theorem own_dP_23 : decode method_2_code 23 = .ok (.ireturn, 1) := by decide +kernel
theorem own_pnP : plainName "com/example/amberwire/amberwire/core/text/PlaceCounterPassPinLaw" = true := by first | (simp [plainName, overriddenIn]; done) | decide +kernel
theorem own_pdP : parseMethodDescriptor "(I)C" = some ⟨[.int], some .char⟩ := by decide +kernel
theorem own_efP (m : MethodId) (x0 : Int32) : entryFrame m #[(.int x0)] 2 = mkF m 0 #[.val (.int x0), .unset] [] := by first | (simp [entryFrame, mkF, argsToLocals, Value.category]; done) | rfl
def own_fP_19 (l0 : Int32) (l1 : Int32) : Int32 := (((((l0).toUInt32 >>> ((2 : Int32) &&& 31).toUInt32).toInt32)).toUInt32.toUInt16.toUInt32.toInt32)
def own_fP_16 (l0 : Int32) (l1 : Int32) : Int32 := (13 : Int32)
def own_fP_11 (l0 : Int32) (l1 : Int32) : Int32 := bif if_icmp.holds .ne l1 (1 : Int32) then own_fP_19 l0 l1 else own_fP_16 l0 l1
def own_fP_8 (l0 : Int32) (l1 : Int32) : Int32 := (10 : Int32)
def own_fP_0 (l0 : Int32) : Int32 := bif ifCond.holds .ne (l0 &&& (3 : Int32)) then own_fP_11 l0 (l0 &&& (3 : Int32)) else own_fP_8 l0 (l0 &&& (3 : Int32))
set_option maxRecDepth 65536 in
set_option maxHeartbeats 40000000 in
theorem own_rmP (l : Launch) (Z : State) (a0 : Array Value) (hw : ∀ d ∈ tables_1, d.before a0 Z = true) (ws : List Jvm.Cond) (p0 : Int32) (h0 : Heap) (n0 : Nat) :
    MetFree l (⟨"com/example/amberwire/amberwire/core/text/PlaceCounterPassPinLaw", "pick", "(I)C"⟩ : MethodName) (head1 (Jvm.Cond.code (⟨"com/example/amberwire/amberwire/core/text/PlaceCounterPassPinLaw", "pick", "(I)C"⟩ : MethodName) method_2_code 2 (some .char) :: ws) ({ frames := 0, cells := 0, slots := 0, locals := 0 } : Room)) (fun a U => a = #[(.int p0)] ∧ Z.Warmed39 U.vm ∧ U.heap = h0) (fun _ _ _ _ _ => True) (fun _ U o U' => ∃ v L, o = .returned v ∧ own_Q (some (.int (nar .char (own_fP_0 p0)))) h0 n0 v U'.heap L ∧ FrameEnd U o U' L ({ frames := 0, cells := 0, slots := 0, locals := 0 } : Room).cells ({ frames := 0, cells := 0, slots := 0, locals := 0 } : Room).slots) := by
  refine MetFree.of_bodySF (plainFor_of_name own_pnP) hisR ?_
  intro p e s m args below meth c s₁ Bd hml0 hP hK
  obtain ⟨rfl, hZ, hh⟩ := hP
  have hx := Bd.exec
  have hby := Bd.bytes
  have hown : s.vm.findClass "com/example/amberwire/amberwire/core/text/PlaceCounterPassPinLaw" = some m.cls := findClass_of_methodNamed Bd.named
  have X0 : Stand p l e ({ frames := 0, cells := 0, slots := 0, locals := 0 } : Room) s m #[(.int p0)] below meth c s₁ [] 0 0 := Stand.of_body Bd
  have e0 : s₁.heap = h0 := by rw [← hh, Bd.state]; rfl
  obtain ⟨r, hr0⟩ : ∃ r, r = (own_fP_0 p0) := ⟨_, rfl⟩
  obtain ⟨fs, hr, hrun, hended, hW, hsame⟩ := X0.leave (v := some (.int (nar .char r))) (fun h => by rw [Bd.returns] at h; cases h)
  have B19 : ∀ (l0 : Int32) (l1 : Int32), own_fP_19 l0 l1 = r → Steps p.tables e below (s₁.setTop (mkF m 19 #[.val (.int l0), .val (.int l1)] [])) (s₁.setFrames fs) := by
    intro l0 l1 hf
    show Steps p.tables e below (s₁.setTop (mkF m 19 #[.val (.int l0), .val (.int l1)] [])) _
    refine XS.iloadN X0.here hx rfl (hb hby own_dP_19) rfl ?_
    show Steps p.tables e below (s₁.setTop (mkF m 20 #[.val (.int l0), .val (.int l1)] [(.int l0)])) _
    refine XS.iconst X0.here hx rfl (hb hby own_dP_20) ?_
    show Steps p.tables e below (s₁.setTop (mkF m 21 #[.val (.int l0), .val (.int l1)] [(.int (2 : Int32)), (.int l0)])) _
    refine XS.iushr X0.here hx rfl (hb hby own_dP_21) rfl ?_
    show Steps p.tables e below (s₁.setTop (mkF m 22 #[.val (.int l0), .val (.int l1)] [(.int (((l0).toUInt32 >>> ((2 : Int32) &&& 31).toUInt32).toInt32))])) _
    refine XS.i2c X0.here hx rfl (hb hby own_dP_22) rfl ?_
    show Steps p.tables e below (s₁.setTop (mkF m 23 #[.val (.int l0), .val (.int l1)] [(.int (((((l0).toUInt32 >>> ((2 : Int32) &&& 31).toUInt32).toInt32)).toUInt32.toUInt16.toUInt32.toInt32))])) _
    have hf' : (((((l0).toUInt32 >>> ((2 : Int32) &&& 31).toUInt32).toInt32)).toUInt32.toUInt16.toUInt32.toInt32) = r := hf
    exact retN X0 hx (t := .char) Bd.returns (by simp) (hb hby own_dP_23) (by rw [hf']; exact hr)
  have B16 : ∀ (l0 : Int32) (l1 : Int32), own_fP_16 l0 l1 = r → Steps p.tables e below (s₁.setTop (mkF m 16 #[.val (.int l0), .val (.int l1)] [])) (s₁.setFrames fs) := by
    intro l0 l1 hf
    show Steps p.tables e below (s₁.setTop (mkF m 16 #[.val (.int l0), .val (.int l1)] [])) _
    refine XS.bipush X0.here hx rfl (hb hby own_dP_16) ?_
    show Steps p.tables e below (s₁.setTop (mkF m 18 #[.val (.int l0), .val (.int l1)] [(.int (13 : Int32))])) _
    have hf' : (13 : Int32) = r := hf
    exact retN X0 hx (t := .char) Bd.returns (by simp) (hb hby own_dP_18) (by rw [hf']; exact hr)
  have B11 : ∀ (l0 : Int32) (l1 : Int32), own_fP_11 l0 l1 = r → Steps p.tables e below (s₁.setTop (mkF m 11 #[.val (.int l0), .val (.int l1)] [])) (s₁.setFrames fs) := by
    intro l0 l1 hf
    show Steps p.tables e below (s₁.setTop (mkF m 11 #[.val (.int l0), .val (.int l1)] [])) _
    refine XS.iloadN X0.here hx rfl (hb hby own_dP_11) rfl ?_
    show Steps p.tables e below (s₁.setTop (mkF m 12 #[.val (.int l0), .val (.int l1)] [(.int l1)])) _
    refine XS.iconst X0.here hx rfl (hb hby own_dP_12) ?_
    show Steps p.tables e below (s₁.setTop (mkF m 13 #[.val (.int l0), .val (.int l1)] [(.int (1 : Int32)), (.int l1)])) _
    have hf' : (bif if_icmp.holds .ne l1 (1 : Int32) then own_fP_19 l0 l1 else own_fP_16 l0 l1) = r := hf
    rcases own_tf (if_icmp.holds .ne l1 (1 : Int32)) with hc | hc
    · rw [hc] at hf'
      refine XS.icmpYes X0.here hx rfl (pc0 := 13) (pc' := 19) rfl (hb hby own_dP_13) rfl hc (by decide) (by decide) ?_
      exact B19 l0 l1 hf'
    · rw [hc] at hf'
      refine XS.icmpNo X0.here hx rfl (hb hby own_dP_13) rfl hc ?_
      exact B16 l0 l1 hf'
  have B8 : ∀ (l0 : Int32) (l1 : Int32), own_fP_8 l0 l1 = r → Steps p.tables e below (s₁.setTop (mkF m 8 #[.val (.int l0), .val (.int l1)] [])) (s₁.setFrames fs) := by
    intro l0 l1 hf
    show Steps p.tables e below (s₁.setTop (mkF m 8 #[.val (.int l0), .val (.int l1)] [])) _
    refine XS.bipush X0.here hx rfl (hb hby own_dP_8) ?_
    show Steps p.tables e below (s₁.setTop (mkF m 10 #[.val (.int l0), .val (.int l1)] [(.int (10 : Int32))])) _
    have hf' : (10 : Int32) = r := hf
    exact retN X0 hx (t := .char) Bd.returns (by simp) (hb hby own_dP_10) (by rw [hf']; exact hr)
  have B0 : ∀ (l0 : Int32), own_fP_0 l0 = r → Steps p.tables e below (s₁.setTop (mkF m 0 #[.val (.int l0), .unset] [])) (s₁.setFrames fs) := by
    intro l0 hf
    show Steps p.tables e below (s₁.setTop (mkF m 0 #[.val (.int l0), .unset] [])) _
    refine XS.iloadN X0.here hx rfl (hb hby own_dP_0) rfl ?_
    show Steps p.tables e below (s₁.setTop (mkF m 1 #[.val (.int l0), .unset] [(.int l0)])) _
    refine XS.iconst X0.here hx rfl (hb hby own_dP_1) ?_
    show Steps p.tables e below (s₁.setTop (mkF m 2 #[.val (.int l0), .unset] [(.int (3 : Int32)), (.int l0)])) _
    refine XS.iand X0.here hx rfl (hb hby own_dP_2) rfl ?_
    show Steps p.tables e below (s₁.setTop (mkF m 3 #[.val (.int l0), .unset] [(.int (l0 &&& (3 : Int32)))])) _
    refine XS.istoreN X0.here hx rfl (hb hby own_dP_3) rfl (l' := #[.val (.int l0), .val (.int (l0 &&& (3 : Int32)))]) rfl ?_
    show Steps p.tables e below (s₁.setTop (mkF m 4 #[.val (.int l0), .val (.int (l0 &&& (3 : Int32)))] [])) _
    refine XS.iloadN X0.here hx rfl (hb hby own_dP_4) rfl ?_
    show Steps p.tables e below (s₁.setTop (mkF m 5 #[.val (.int l0), .val (.int (l0 &&& (3 : Int32)))] [(.int (l0 &&& (3 : Int32)))])) _
    have hf' : (bif ifCond.holds .ne (l0 &&& (3 : Int32)) then own_fP_11 l0 (l0 &&& (3 : Int32)) else own_fP_8 l0 (l0 &&& (3 : Int32))) = r := hf
    rcases own_tf (ifCond.holds .ne (l0 &&& (3 : Int32))) with hc | hc
    · rw [hc] at hf'
      refine XS.ifYes X0.here hx rfl (pc0 := 5) (pc' := 11) rfl (hb hby own_dP_5) rfl hc (by decide) (by decide) ?_
      exact B11 l0 (l0 &&& (3 : Int32)) hf'
    · rw [hc] at hf'
      refine XS.ifNo X0.here hx rfl (hb hby own_dP_5) rfl hc ?_
      exact B8 l0 (l0 &&& (3 : Int32)) hf'
  refine ⟨_, _, castTop (own_efP m p0) (B0 p0 hr0.symm), hrun, hended, _, _, rfl, ?_, ⟨_, rfl⟩, hW, hsame.mono (by decide) (by decide)⟩
  show own_Q _ h0 n0 _ s₁.heap _
  exact ⟨by rw [hr0], Fr.nil n0, e0⟩
theorem own_dE_0 : decode method_3_code 0 = .ok (.iload_n 0, 1) := by decide +kernel
theorem own_dE_1 : decode method_3_code 1 = .ok (.bipush 10, 2) := by decide +kernel
theorem own_dE_3 : decode method_3_code 3 = .ok (.if_icmp .eq 9, 3) := by decide +kernel
theorem own_dE_6 : decode method_3_code 6 = .ok (.iload_n 0, 1) := by decide +kernel
theorem own_dE_7 : decode method_3_code 7 = .ok (.bipush 13, 2) := by decide +kernel
theorem own_dE_9 : decode method_3_code 9 = .ok (.if_icmp .ne 7, 3) := by decide +kernel
theorem own_dE_12 : decode method_3_code 12 = .ok (.iconst 1, 1) := by decide +kernel
theorem own_dE_13 : decode method_3_code 13 = .ok (.goto 4, 3) := by decide +kernel
theorem own_dE_16 : decode method_3_code 16 = .ok (.iconst 0, 1) := by decide +kernel
theorem own_dE_17 : decode method_3_code 17 = .ok (.ireturn, 1) := by decide +kernel
theorem own_pnE : plainName "com/example/amberwire/amberwire/core/text/PlaceCounterPassPinLaw" = true := by first | (simp [plainName, overriddenIn]; done) | decide +kernel
theorem own_pdE : parseMethodDescriptor "(C)Z" = some ⟨[.char], some .boolean⟩ := by decide +kernel
theorem own_efE (m : MethodId) (x0 : Int32) : entryFrame m #[(.int x0)] 1 = mkF m 0 #[.val (.int x0)] [] := by first | (simp [entryFrame, mkF, argsToLocals, Value.category]; done) | rfl
def own_fE_17 (l0 : Int32) (s0 : Int32) : Int32 := s0
def own_fE_16 (l0 : Int32) : Int32 := own_fE_17 l0 (0 : Int32)
def own_fE_12 (l0 : Int32) : Int32 := own_fE_17 l0 (1 : Int32)
def own_fE_6 (l0 : Int32) : Int32 := bif if_icmp.holds .ne l0 (13 : Int32) then own_fE_16 l0 else own_fE_12 l0
def own_fE_0 (l0 : Int32) : Int32 := bif if_icmp.holds .eq l0 (10 : Int32) then own_fE_12 l0 else own_fE_6 l0
set_option maxRecDepth 65536 in
set_option maxHeartbeats 40000000 in
theorem own_rmE (l : Launch) (Z : State) (a0 : Array Value) (hw : ∀ d ∈ tables_1, d.before a0 Z = true) (ws : List Jvm.Cond) (p0 : Int32) (h0 : Heap) (n0 : Nat) :
    MetFree l (⟨"com/example/amberwire/amberwire/core/text/PlaceCounterPassPinLaw", "isEnd", "(C)Z"⟩ : MethodName) (head1 (Jvm.Cond.code (⟨"com/example/amberwire/amberwire/core/text/PlaceCounterPassPinLaw", "isEnd", "(C)Z"⟩ : MethodName) method_3_code 1 (some .boolean) :: ws) ({ frames := 0, cells := 0, slots := 0, locals := 0 } : Room)) (fun a U => a = #[(.int p0)] ∧ Z.Warmed39 U.vm ∧ U.heap = h0) (fun _ _ _ _ _ => True) (fun _ U o U' => ∃ v L, o = .returned v ∧ own_Q (some (.int (nar .boolean (own_fE_0 p0)))) h0 n0 v U'.heap L ∧ FrameEnd U o U' L ({ frames := 0, cells := 0, slots := 0, locals := 0 } : Room).cells ({ frames := 0, cells := 0, slots := 0, locals := 0 } : Room).slots) := by
  refine MetFree.of_bodySF (plainFor_of_name own_pnE) hisR ?_
  intro p e s m args below meth c s₁ Bd hml0 hP hK
  obtain ⟨rfl, hZ, hh⟩ := hP
  have hx := Bd.exec
  have hby := Bd.bytes
  have hown : s.vm.findClass "com/example/amberwire/amberwire/core/text/PlaceCounterPassPinLaw" = some m.cls := findClass_of_methodNamed Bd.named
  have X0 : Stand p l e ({ frames := 0, cells := 0, slots := 0, locals := 0 } : Room) s m #[(.int p0)] below meth c s₁ [] 0 0 := Stand.of_body Bd
  have e0 : s₁.heap = h0 := by rw [← hh, Bd.state]; rfl
  obtain ⟨r, hr0⟩ : ∃ r, r = (own_fE_0 p0) := ⟨_, rfl⟩
  obtain ⟨fs, hr, hrun, hended, hW, hsame⟩ := X0.leave (v := some (.int (nar .boolean r))) (fun h => by rw [Bd.returns] at h; cases h)
  have B17 : ∀ (l0 : Int32) (s0 : Int32), own_fE_17 l0 s0 = r → Steps p.tables e below (s₁.setTop (mkF m 17 #[.val (.int l0)] [(.int s0)])) (s₁.setFrames fs) := by
    intro l0 s0 hf
    show Steps p.tables e below (s₁.setTop (mkF m 17 #[.val (.int l0)] [(.int s0)])) _
    have hf' : s0 = r := hf
    exact retN X0 hx (t := .boolean) Bd.returns (by simp) (hb hby own_dE_17) (by rw [hf']; exact hr)
  have B16 : ∀ (l0 : Int32), own_fE_16 l0 = r → Steps p.tables e below (s₁.setTop (mkF m 16 #[.val (.int l0)] [])) (s₁.setFrames fs) := by
    intro l0 hf
    show Steps p.tables e below (s₁.setTop (mkF m 16 #[.val (.int l0)] [])) _
    refine XS.iconst X0.here hx rfl (hb hby own_dE_16) ?_
    have hf' : own_fE_17 l0 (0 : Int32) = r := hf
    exact B17 l0 (0 : Int32) hf'
  have B12 : ∀ (l0 : Int32), own_fE_12 l0 = r → Steps p.tables e below (s₁.setTop (mkF m 12 #[.val (.int l0)] [])) (s₁.setFrames fs) := by
    intro l0 hf
    show Steps p.tables e below (s₁.setTop (mkF m 12 #[.val (.int l0)] [])) _
    refine XS.iconst X0.here hx rfl (hb hby own_dE_12) ?_
    show Steps p.tables e below (s₁.setTop (mkF m 13 #[.val (.int l0)] [(.int (1 : Int32))])) _
    refine XS.goto X0.here hx rfl (pc0 := 13) (pc' := 17) rfl (hb hby own_dE_13) (by decide) (by decide) ?_
    have hf' : own_fE_17 l0 (1 : Int32) = r := hf
    exact B17 l0 (1 : Int32) hf'
  have B6 : ∀ (l0 : Int32), own_fE_6 l0 = r → Steps p.tables e below (s₁.setTop (mkF m 6 #[.val (.int l0)] [])) (s₁.setFrames fs) := by
    intro l0 hf
    show Steps p.tables e below (s₁.setTop (mkF m 6 #[.val (.int l0)] [])) _
    refine XS.iloadN X0.here hx rfl (hb hby own_dE_6) rfl ?_
    show Steps p.tables e below (s₁.setTop (mkF m 7 #[.val (.int l0)] [(.int l0)])) _
    refine XS.bipush X0.here hx rfl (hb hby own_dE_7) ?_
    show Steps p.tables e below (s₁.setTop (mkF m 9 #[.val (.int l0)] [(.int (13 : Int32)), (.int l0)])) _
    have hf' : (bif if_icmp.holds .ne l0 (13 : Int32) then own_fE_16 l0 else own_fE_12 l0) = r := hf
    rcases own_tf (if_icmp.holds .ne l0 (13 : Int32)) with hc | hc
    · rw [hc] at hf'
      refine XS.icmpYes X0.here hx rfl (pc0 := 9) (pc' := 16) rfl (hb hby own_dE_9) rfl hc (by decide) (by decide) ?_
      exact B16 l0 hf'
    · rw [hc] at hf'
      refine XS.icmpNo X0.here hx rfl (hb hby own_dE_9) rfl hc ?_
      exact B12 l0 hf'
  have B0 : ∀ (l0 : Int32), own_fE_0 l0 = r → Steps p.tables e below (s₁.setTop (mkF m 0 #[.val (.int l0)] [])) (s₁.setFrames fs) := by
    intro l0 hf
    show Steps p.tables e below (s₁.setTop (mkF m 0 #[.val (.int l0)] [])) _
    refine XS.iloadN X0.here hx rfl (hb hby own_dE_0) rfl ?_
    show Steps p.tables e below (s₁.setTop (mkF m 1 #[.val (.int l0)] [(.int l0)])) _
    refine XS.bipush X0.here hx rfl (hb hby own_dE_1) ?_
    show Steps p.tables e below (s₁.setTop (mkF m 3 #[.val (.int l0)] [(.int (10 : Int32)), (.int l0)])) _
    have hf' : (bif if_icmp.holds .eq l0 (10 : Int32) then own_fE_12 l0 else own_fE_6 l0) = r := hf
    rcases own_tf (if_icmp.holds .eq l0 (10 : Int32)) with hc | hc
    · rw [hc] at hf'
      refine XS.icmpYes X0.here hx rfl (pc0 := 3) (pc' := 12) rfl (hb hby own_dE_3) rfl hc (by decide) (by decide) ?_
      exact B12 l0 hf'
    · rw [hc] at hf'
      refine XS.icmpNo X0.here hx rfl (hb hby own_dE_3) rfl hc ?_
      exact B6 l0 hf'
  refine ⟨_, _, castTop (own_efE m p0) (B0 p0 hr0.symm), hrun, hended, _, _, rfl, ?_, ⟨_, rfl⟩, hW, hsame.mono (by decide) (by decide)⟩
  show own_Q _ h0 n0 _ s₁.heap _
  exact ⟨by rw [hr0], Fr.nil n0, e0⟩
theorem own_dEL_0 : decode method_4_code 0 = .ok (.iload_n 1, 1) := by decide +kernel
theorem own_dEL_1 : decode method_4_code 1 = .ok (.bipush 13, 2) := by decide +kernel
theorem own_dEL_3 : decode method_4_code 3 = .ok (.if_icmp .ne 5, 3) := by decide +kernel
theorem own_dEL_6 : decode method_4_code 6 = .ok (.iconst 1, 1) := by decide +kernel
theorem own_dEL_7 : decode method_4_code 7 = .ok (.ireturn, 1) := by decide +kernel
theorem own_dEL_8 : decode method_4_code 8 = .ok (.iload_n 1, 1) := by decide +kernel
theorem own_dEL_9 : decode method_4_code 9 = .ok (.bipush 10, 2) := by decide +kernel
theorem own_dEL_11 : decode method_4_code 11 = .ok (.if_icmp .ne 13, 3) := by decide +kernel
theorem own_dEL_14 : decode method_4_code 14 = .ok (.iload_n 0, 1) := by decide +kernel
theorem own_dEL_15 : decode method_4_code 15 = .ok (.bipush 13, 2) := by decide +kernel
theorem own_dEL_17 : decode method_4_code 17 = .ok (.if_icmp .eq 7, 3) := by decide +kernel
theorem own_dEL_20 : decode method_4_code 20 = .ok (.iconst 1, 1) := by decide +kernel
theorem own_dEL_21 : decode method_4_code 21 = .ok (.goto 4, 3) := by decide +kernel
theorem own_dEL_24 : decode method_4_code 24 = .ok (.iconst 0, 1) := by decide +kernel
theorem own_dEL_25 : decode method_4_code 25 = .ok (.ireturn, 1) := by decide +kernel
theorem own_pnEL : plainName "com/example/amberwire/amberwire/core/text/PlaceCounterPassPinLaw" = true := by first | (simp [plainName, overriddenIn]; done) | decide +kernel
theorem own_pdEL : parseMethodDescriptor "(CC)Z" = some ⟨[.char, .char], some .boolean⟩ := by decide +kernel
theorem own_efEL (m : MethodId) (x0 : Int32) (x1 : Int32) : entryFrame m #[(.int x0), (.int x1)] 2 = mkF m 0 #[.val (.int x0), .val (.int x1)] [] := by first | (simp [entryFrame, mkF, argsToLocals, Value.category]; done) | rfl
def own_fEL_25 (l0 : Int32) (l1 : Int32) (s0 : Int32) : Int32 := s0
def own_fEL_24 (l0 : Int32) (l1 : Int32) : Int32 := own_fEL_25 l0 l1 (0 : Int32)
def own_fEL_20 (l0 : Int32) (l1 : Int32) : Int32 := own_fEL_25 l0 l1 (1 : Int32)
def own_fEL_14 (l0 : Int32) (l1 : Int32) : Int32 := bif if_icmp.holds .eq l0 (13 : Int32) then own_fEL_24 l0 l1 else own_fEL_20 l0 l1
def own_fEL_8 (l0 : Int32) (l1 : Int32) : Int32 := bif if_icmp.holds .ne l1 (10 : Int32) then own_fEL_24 l0 l1 else own_fEL_14 l0 l1
def own_fEL_6 (l0 : Int32) (l1 : Int32) : Int32 := (1 : Int32)
def own_fEL_0 (l0 : Int32) (l1 : Int32) : Int32 := bif if_icmp.holds .ne l1 (13 : Int32) then own_fEL_8 l0 l1 else own_fEL_6 l0 l1
set_option maxRecDepth 65536 in
set_option maxHeartbeats 40000000 in
theorem own_rmEL (l : Launch) (Z : State) (a0 : Array Value) (hw : ∀ d ∈ tables_1, d.before a0 Z = true) (ws : List Jvm.Cond) (p0 p1 : Int32) (h0 : Heap) (n0 : Nat) :
    MetFree l (⟨"com/example/amberwire/amberwire/core/text/PlaceCounterPassPinLaw", "endsLine", "(CC)Z"⟩ : MethodName) (head1 (Jvm.Cond.code (⟨"com/example/amberwire/amberwire/core/text/PlaceCounterPassPinLaw", "endsLine", "(CC)Z"⟩ : MethodName) method_4_code 2 (some .boolean) :: ws) ({ frames := 0, cells := 0, slots := 0, locals := 0 } : Room)) (fun a U => a = #[(.int p0), (.int p1)] ∧ Z.Warmed39 U.vm ∧ U.heap = h0) (fun _ _ _ _ _ => True) (fun _ U o U' => ∃ v L, o = .returned v ∧ own_Q (some (.int (nar .boolean (own_fEL_0 p0 p1)))) h0 n0 v U'.heap L ∧ FrameEnd U o U' L ({ frames := 0, cells := 0, slots := 0, locals := 0 } : Room).cells ({ frames := 0, cells := 0, slots := 0, locals := 0 } : Room).slots) := by
  refine MetFree.of_bodySF (plainFor_of_name own_pnEL) hisR ?_
  intro p e s m args below meth c s₁ Bd hml0 hP hK
  obtain ⟨rfl, hZ, hh⟩ := hP
  have hx := Bd.exec
  have hby := Bd.bytes
  have hown : s.vm.findClass "com/example/amberwire/amberwire/core/text/PlaceCounterPassPinLaw" = some m.cls := findClass_of_methodNamed Bd.named
  have X0 : Stand p l e ({ frames := 0, cells := 0, slots := 0, locals := 0 } : Room) s m #[(.int p0), (.int p1)] below meth c s₁ [] 0 0 := Stand.of_body Bd
  have e0 : s₁.heap = h0 := by rw [← hh, Bd.state]; rfl
  obtain ⟨r, hr0⟩ : ∃ r, r = (own_fEL_0 p0 p1) := ⟨_, rfl⟩
  obtain ⟨fs, hr, hrun, hended, hW, hsame⟩ := X0.leave (v := some (.int (nar .boolean r))) (fun h => by rw [Bd.returns] at h; cases h)
  have B25 : ∀ (l0 : Int32) (l1 : Int32) (s0 : Int32), own_fEL_25 l0 l1 s0 = r → Steps p.tables e below (s₁.setTop (mkF m 25 #[.val (.int l0), .val (.int l1)] [(.int s0)])) (s₁.setFrames fs) := by
    intro l0 l1 s0 hf
    show Steps p.tables e below (s₁.setTop (mkF m 25 #[.val (.int l0), .val (.int l1)] [(.int s0)])) _
    have hf' : s0 = r := hf
    exact retN X0 hx (t := .boolean) Bd.returns (by simp) (hb hby own_dEL_25) (by rw [hf']; exact hr)
  have B24 : ∀ (l0 : Int32) (l1 : Int32), own_fEL_24 l0 l1 = r → Steps p.tables e below (s₁.setTop (mkF m 24 #[.val (.int l0), .val (.int l1)] [])) (s₁.setFrames fs) := by
    intro l0 l1 hf
    show Steps p.tables e below (s₁.setTop (mkF m 24 #[.val (.int l0), .val (.int l1)] [])) _
    refine XS.iconst X0.here hx rfl (hb hby own_dEL_24) ?_
    have hf' : own_fEL_25 l0 l1 (0 : Int32) = r := hf
    exact B25 l0 l1 (0 : Int32) hf'
  have B20 : ∀ (l0 : Int32) (l1 : Int32), own_fEL_20 l0 l1 = r → Steps p.tables e below (s₁.setTop (mkF m 20 #[.val (.int l0), .val (.int l1)] [])) (s₁.setFrames fs) := by
    intro l0 l1 hf
    show Steps p.tables e below (s₁.setTop (mkF m 20 #[.val (.int l0), .val (.int l1)] [])) _
    refine XS.iconst X0.here hx rfl (hb hby own_dEL_20) ?_
    show Steps p.tables e below (s₁.setTop (mkF m 21 #[.val (.int l0), .val (.int l1)] [(.int (1 : Int32))])) _
    refine XS.goto X0.here hx rfl (pc0 := 21) (pc' := 25) rfl (hb hby own_dEL_21) (by decide) (by decide) ?_
    have hf' : own_fEL_25 l0 l1 (1 : Int32) = r := hf
    exact B25 l0 l1 (1 : Int32) hf'
  have B14 : ∀ (l0 : Int32) (l1 : Int32), own_fEL_14 l0 l1 = r → Steps p.tables e below (s₁.setTop (mkF m 14 #[.val (.int l0), .val (.int l1)] [])) (s₁.setFrames fs) := by
    intro l0 l1 hf
    show Steps p.tables e below (s₁.setTop (mkF m 14 #[.val (.int l0), .val (.int l1)] [])) _
    refine XS.iloadN X0.here hx rfl (hb hby own_dEL_14) rfl ?_
    show Steps p.tables e below (s₁.setTop (mkF m 15 #[.val (.int l0), .val (.int l1)] [(.int l0)])) _
    refine XS.bipush X0.here hx rfl (hb hby own_dEL_15) ?_
    show Steps p.tables e below (s₁.setTop (mkF m 17 #[.val (.int l0), .val (.int l1)] [(.int (13 : Int32)), (.int l0)])) _
    have hf' : (bif if_icmp.holds .eq l0 (13 : Int32) then own_fEL_24 l0 l1 else own_fEL_20 l0 l1) = r := hf
    rcases own_tf (if_icmp.holds .eq l0 (13 : Int32)) with hc | hc
    · rw [hc] at hf'
      refine XS.icmpYes X0.here hx rfl (pc0 := 17) (pc' := 24) rfl (hb hby own_dEL_17) rfl hc (by decide) (by decide) ?_
      exact B24 l0 l1 hf'
    · rw [hc] at hf'
      refine XS.icmpNo X0.here hx rfl (hb hby own_dEL_17) rfl hc ?_
      exact B20 l0 l1 hf'
  have B8 : ∀ (l0 : Int32) (l1 : Int32), own_fEL_8 l0 l1 = r → Steps p.tables e below (s₁.setTop (mkF m 8 #[.val (.int l0), .val (.int l1)] [])) (s₁.setFrames fs) := by
    intro l0 l1 hf
    show Steps p.tables e below (s₁.setTop (mkF m 8 #[.val (.int l0), .val (.int l1)] [])) _
    refine XS.iloadN X0.here hx rfl (hb hby own_dEL_8) rfl ?_
    show Steps p.tables e below (s₁.setTop (mkF m 9 #[.val (.int l0), .val (.int l1)] [(.int l1)])) _
    refine XS.bipush X0.here hx rfl (hb hby own_dEL_9) ?_
    show Steps p.tables e below (s₁.setTop (mkF m 11 #[.val (.int l0), .val (.int l1)] [(.int (10 : Int32)), (.int l1)])) _
    have hf' : (bif if_icmp.holds .ne l1 (10 : Int32) then own_fEL_24 l0 l1 else own_fEL_14 l0 l1) = r := hf
    rcases own_tf (if_icmp.holds .ne l1 (10 : Int32)) with hc | hc
    · rw [hc] at hf'
      refine XS.icmpYes X0.here hx rfl (pc0 := 11) (pc' := 24) rfl (hb hby own_dEL_11) rfl hc (by decide) (by decide) ?_
      exact B24 l0 l1 hf'
    · rw [hc] at hf'
      refine XS.icmpNo X0.here hx rfl (hb hby own_dEL_11) rfl hc ?_
      exact B14 l0 l1 hf'
  have B6 : ∀ (l0 : Int32) (l1 : Int32), own_fEL_6 l0 l1 = r → Steps p.tables e below (s₁.setTop (mkF m 6 #[.val (.int l0), .val (.int l1)] [])) (s₁.setFrames fs) := by
    intro l0 l1 hf
    show Steps p.tables e below (s₁.setTop (mkF m 6 #[.val (.int l0), .val (.int l1)] [])) _
    refine XS.iconst X0.here hx rfl (hb hby own_dEL_6) ?_
    show Steps p.tables e below (s₁.setTop (mkF m 7 #[.val (.int l0), .val (.int l1)] [(.int (1 : Int32))])) _
    have hf' : (1 : Int32) = r := hf
    exact retN X0 hx (t := .boolean) Bd.returns (by simp) (hb hby own_dEL_7) (by rw [hf']; exact hr)
  have B0 : ∀ (l0 : Int32) (l1 : Int32), own_fEL_0 l0 l1 = r → Steps p.tables e below (s₁.setTop (mkF m 0 #[.val (.int l0), .val (.int l1)] [])) (s₁.setFrames fs) := by
    intro l0 l1 hf
    show Steps p.tables e below (s₁.setTop (mkF m 0 #[.val (.int l0), .val (.int l1)] [])) _
    refine XS.iloadN X0.here hx rfl (hb hby own_dEL_0) rfl ?_
    show Steps p.tables e below (s₁.setTop (mkF m 1 #[.val (.int l0), .val (.int l1)] [(.int l1)])) _
    refine XS.bipush X0.here hx rfl (hb hby own_dEL_1) ?_
    show Steps p.tables e below (s₁.setTop (mkF m 3 #[.val (.int l0), .val (.int l1)] [(.int (13 : Int32)), (.int l1)])) _
    have hf' : (bif if_icmp.holds .ne l1 (13 : Int32) then own_fEL_8 l0 l1 else own_fEL_6 l0 l1) = r := hf
    rcases own_tf (if_icmp.holds .ne l1 (13 : Int32)) with hc | hc
    · rw [hc] at hf'
      refine XS.icmpYes X0.here hx rfl (pc0 := 3) (pc' := 8) rfl (hb hby own_dEL_3) rfl hc (by decide) (by decide) ?_
      exact B8 l0 l1 hf'
    · rw [hc] at hf'
      refine XS.icmpNo X0.here hx rfl (hb hby own_dEL_3) rfl hc ?_
      exact B6 l0 l1 hf'
  refine ⟨_, _, castTop (own_efEL m p0 p1) (B0 p0 p1 hr0.symm), hrun, hended, _, _, rfl, ?_, ⟨_, rfl⟩, hW, hsame.mono (by decide) (by decide)⟩
  show own_Q _ h0 n0 _ s₁.heap _
  exact ⟨by rw [hr0], Fr.nil n0, e0⟩
theorem own_dI_0 : decode prog_161_method_1_code 0 = .ok (.aload_n 0, 1) := by decide +kernel
theorem own_dI_1 : decode prog_161_method_1_code 1 = .ok (.invokespecial 1, 3) := by decide +kernel
theorem own_dI_4 : decode prog_161_method_1_code 4 = .ok (.aload_n 0, 1) := by decide +kernel
theorem own_dI_5 : decode prog_161_method_1_code 5 = .ok (.iconst 1, 1) := by decide +kernel
theorem own_dI_6 : decode prog_161_method_1_code 6 = .ok (.putfield 7, 3) := by decide +kernel
theorem own_dI_9 : decode prog_161_method_1_code 9 = .ok (.return_, 1) := by decide +kernel
theorem own_pnI : plainName "com/example/amberwire/amberwire/core/text/PlaceCounter" = true := by first | (simp [plainName, overriddenIn]; done) | decide +kernel
theorem own_pdI : parseMethodDescriptor "()V" = some ⟨[], none⟩ := by decide +kernel
theorem own_efI (m : MethodId) (x0 : Addr) : entryFrame m #[(.ref x0)] 1 = mkF m 0 #[.val (.ref x0)] [] := by first | (simp [entryFrame, mkF, argsToLocals, Value.category]; done) | rfl
set_option maxRecDepth 65536 in
set_option maxHeartbeats 40000000 in
theorem own_rmI (l : Launch) (Z : State) (a0 : Array Value) (hw : ∀ d ∈ tables_1, d.before a0 Z = true) (ws : List Jvm.Cond) (a1 : Addr) (h0 : Heap) (n0 : Nat) (ln co ac : Int32) (P0 : own_PC Z h0 a1 ln co ac) (ga : n0 ≤ a1) :
    MetFree l (⟨"com/example/amberwire/amberwire/core/text/PlaceCounter", "<init>", "()V"⟩ : MethodName) (head1 (Jvm.Cond.code (⟨"com/example/amberwire/amberwire/core/text/PlaceCounter", "<init>", "()V"⟩ : MethodName) prog_161_method_1_code 1 none :: ws) ({ frames := 1, cells := 0, slots := 0, locals := 12 } : Room)) (fun a U => a = #[(.ref a1)] ∧ Z.Warmed39 U.vm ∧ U.heap = h0) (fun _ _ _ _ _ => True) (fun _ U o U' => ∃ v L, o = .returned v ∧ own_QP Z a1 1 co ac h0 n0 v U'.heap L ∧ FrameEnd U o U' L ({ frames := 1, cells := 0, slots := 0, locals := 12 } : Room).cells ({ frames := 1, cells := 0, slots := 0, locals := 12 } : Room).slots) := by
  refine MetFree.of_bodySF (plainFor_of_name own_pnI) hisR ?_
  intro p e s m args below meth c s₁ Bd hml0 hP hK
  obtain ⟨rfl, hZ, hh⟩ := hP
  have hx := Bd.exec
  have hby := Bd.bytes
  have hml : c.maxLocals = 1 := hml0
  have hown : s.vm.findClass "com/example/amberwire/amberwire/core/text/PlaceCounter" = some m.cls := findClass_of_methodNamed Bd.named
  have hnm := (name_of_methodNamed Bd.named Bd.method).1
  have X0 : Stand p l e ({ frames := 1, cells := 0, slots := 0, locals := 12 } : Room) s m #[(.ref a1)] below meth c s₁ [] 0 0 := Stand.of_body Bd
  have e0 : s₁.heap = h0 := by rw [← hh, Bd.state]; rfl
  have N0 := Fr.nil n0
  have pre0 : ∀ t, Steps p.tables e below (s₁.setTop (mkF m 0 #[.val (.ref a1)] [])) t → Steps p.tables e below (s₁.setTop (entryFrame m #[(.ref a1)] 1)) t := fun t k => castTop (own_efI m a1) k
  have K0 := Keep.refl h0 [a1]
  obtain ⟨T1, X1, e1, st1⟩ := initO X0 hx hZ hown (hw _ (List.mem_of_getElem? (i := 17) rfl)) (hw _ (List.mem_of_getElem? (i := 18) rfl)) (hw _ (List.mem_of_getElem? (i := 19) rfl)) e0 (g := (mkF m 1 #[.val (.ref a1)] [(.ref a1)])) rfl (by rw [hml]; rfl) rfl (hb hby own_dI_1) (by decide) (W := 0) (by show 2 * 0 + _ ≤ _; exact Nat.le_of_eq rfl) (by decide)
  obtain ⟨T2, h2, X2, e2, W2, st2⟩ := putF X1 hx hZ hown (host := "") (Or.inl (hw _ (List.mem_of_getElem? (i := 20) rfl))) Via.refl e1 P0.2.1 P0.1 (Or.inl (hw _ (List.mem_of_getElem? (i := 21) rfl))) (hw _ (List.mem_of_getElem? (i := 12) rfl)) (ty := .int) (by decide) rfl rfl (g := (mkF m 6 #[.val (.ref a1)] [(.int (1 : Int32)), (.ref a1)])) rfl rfl (hb hby own_dI_6)
  have P2 := own_PC_setL hw P0 W2
  have K2 := K0.wr W2 (Or.inl (List.mem_singleton.mpr rfl))
  have N2 := Fr.snoc X2 N0 ga
  obtain ⟨fs, hr, hrun, hended, hW, hsame⟩ := X2.leave (v := none) (fun _ => rfl)
  refine ⟨_, _, pre0 _ ?_, hrun, hended, _, _, rfl, ?_, ⟨_, rfl⟩, hW, hsame.mono (by decide) (by decide)⟩
  · show Steps p.tables e below (s₁.setTop (mkF m 0 #[.val (.ref a1)] [])) _
    refine XS.aloadN X0.here hx rfl (hb hby own_dI_0) rfl rfl ?_
    show Steps p.tables e below (s₁.setTop (mkF m 1 #[.val (.ref a1)] [(.ref a1)])) _
    refine st1 _ ?_
    show Steps p.tables e below (T1.setTop (mkF m 4 #[.val (.ref a1)] [])) _
    refine XS.aloadN X1.here hx rfl (hb hby own_dI_4) rfl rfl ?_
    show Steps p.tables e below (T1.setTop (mkF m 5 #[.val (.ref a1)] [(.ref a1)])) _
    refine XS.iconst X1.here hx rfl (hb hby own_dI_5) ?_
    show Steps p.tables e below (T1.setTop (mkF m 6 #[.val (.ref a1)] [(.int (1 : Int32)), (.ref a1)])) _
    refine st2 _ ?_
    show Steps p.tables e below (T2.setTop (mkF m 9 #[.val (.ref a1)] [])) _
    exact X2.returnOut hx Bd.returns (hb hby own_dI_9) hr
  · show own_QP Z a1 1 co ac h0 n0 _ T2.heap _
    rw [e2]
    exact ⟨rfl, N2, K2, P2⟩
theorem own_dLN_0 : decode prog_161_method_5_code 0 = .ok (.aload_n 0, 1) := by decide +kernel
theorem own_dLN_1 : decode prog_161_method_5_code 1 = .ok (.getfield 7, 3) := by decide +kernel
theorem own_dLN_4 : decode prog_161_method_5_code 4 = .ok (.ireturn, 1) := by decide +kernel
theorem own_pnLN : plainName "com/example/amberwire/amberwire/core/text/PlaceCounter" = true := by first | (simp [plainName, overriddenIn]; done) | decide +kernel
theorem own_pdLN : parseMethodDescriptor "()I" = some ⟨[], some .int⟩ := by decide +kernel
theorem own_efLN (m : MethodId) (x0 : Addr) : entryFrame m #[(.ref x0)] 1 = mkF m 0 #[.val (.ref x0)] [] := by first | (simp [entryFrame, mkF, argsToLocals, Value.category]; done) | rfl
set_option maxRecDepth 65536 in
set_option maxHeartbeats 40000000 in
theorem own_rmLN (l : Launch) (Z : State) (a0 : Array Value) (hw : ∀ d ∈ tables_1, d.before a0 Z = true) (ws : List Jvm.Cond) (a1 : Addr) (h0 : Heap) (n0 : Nat) (ln co ac : Int32) (P0 : own_PC Z h0 a1 ln co ac) :
    MetFree l (⟨"com/example/amberwire/amberwire/core/text/PlaceCounter", "line", "()I"⟩ : MethodName) (head1 (Jvm.Cond.code (⟨"com/example/amberwire/amberwire/core/text/PlaceCounter", "line", "()I"⟩ : MethodName) prog_161_method_5_code 1 (some .int) :: ws) ({ frames := 0, cells := 0, slots := 0, locals := 0 } : Room)) (fun a U => a = #[(.ref a1)] ∧ Z.Warmed39 U.vm ∧ U.heap = h0) (fun _ _ _ _ _ => True) (fun _ U o U' => ∃ v L, o = .returned v ∧ own_Q (some (.int ln)) h0 n0 v U'.heap L ∧ FrameEnd U o U' L ({ frames := 0, cells := 0, slots := 0, locals := 0 } : Room).cells ({ frames := 0, cells := 0, slots := 0, locals := 0 } : Room).slots) := by
  refine MetFree.of_bodySF (plainFor_of_name own_pnLN) hisR ?_
  intro p e s m args below meth c s₁ Bd hml0 hP hK
  obtain ⟨rfl, hZ, hh⟩ := hP
  have hx := Bd.exec
  have hby := Bd.bytes
  have hml : c.maxLocals = 1 := hml0
  have hown : s.vm.findClass "com/example/amberwire/amberwire/core/text/PlaceCounter" = some m.cls := findClass_of_methodNamed Bd.named
  have hnm := (name_of_methodNamed Bd.named Bd.method).1
  have X0 : Stand p l e ({ frames := 0, cells := 0, slots := 0, locals := 0 } : Room) s m #[(.ref a1)] below meth c s₁ [] 0 0 := Stand.of_body Bd
  have e0 : s₁.heap = h0 := by rw [← hh, Bd.state]; rfl
  have N0 := Fr.nil n0
  have pre0 : ∀ t, Steps p.tables e below (s₁.setTop (mkF m 0 #[.val (.ref a1)] [])) t → Steps p.tables e below (s₁.setTop (entryFrame m #[(.ref a1)] 1)) t := fun t k => castTop (own_efLN m a1) k
  obtain ⟨T1, X1, e1, st1⟩ := getF X0 hx hZ hown (host := "") (Or.inl (hw _ (List.mem_of_getElem? (i := 20) rfl))) Via.refl e0 P0.2.1 (g := (mkF m 1 #[.val (.ref a1)] [(.ref a1)])) rfl rfl (hb hby own_dLN_1)
  obtain ⟨fs, hr, hrun, hended, hW, hsame⟩ := X1.leave (v := some (.int ln)) (fun h => by rw [Bd.returns] at h; cases h)
  refine ⟨_, _, pre0 _ ?_, hrun, hended, _, _, rfl, ?_, ⟨_, rfl⟩, hW, hsame.mono (by decide) (by decide)⟩
  · show Steps p.tables e below (s₁.setTop (mkF m 0 #[.val (.ref a1)] [])) _
    refine XS.aloadN X0.here hx rfl (hb hby own_dLN_0) rfl rfl ?_
    show Steps p.tables e below (s₁.setTop (mkF m 1 #[.val (.ref a1)] [(.ref a1)])) _
    refine st1 _ ?_
    show Steps p.tables e below (T1.setTop (mkF m 4 #[.val (.ref a1)] [(.int ln)])) _
    exact retI X1 hx Bd.returns (hb hby own_dLN_4) hr
  · show own_Q _ h0 n0 _ T1.heap _
    exact ⟨rfl, N0, e1⟩
theorem own_dCN_0 : decode prog_161_method_6_code 0 = .ok (.aload_n 0, 1) := by decide +kernel
theorem own_dCN_1 : decode prog_161_method_6_code 1 = .ok (.getfield 17, 3) := by decide +kernel
theorem own_dCN_4 : decode prog_161_method_6_code 4 = .ok (.ireturn, 1) := by decide +kernel
theorem own_pnCN : plainName "com/example/amberwire/amberwire/core/text/PlaceCounter" = true := by first | (simp [plainName, overriddenIn]; done) | decide +kernel
theorem own_pdCN : parseMethodDescriptor "()I" = some ⟨[], some .int⟩ := by decide +kernel
theorem own_efCN (m : MethodId) (x0 : Addr) : entryFrame m #[(.ref x0)] 1 = mkF m 0 #[.val (.ref x0)] [] := by first | (simp [entryFrame, mkF, argsToLocals, Value.category]; done) | rfl
set_option maxRecDepth 65536 in
set_option maxHeartbeats 40000000 in
theorem own_rmCN (l : Launch) (Z : State) (a0 : Array Value) (hw : ∀ d ∈ tables_1, d.before a0 Z = true) (ws : List Jvm.Cond) (a1 : Addr) (h0 : Heap) (n0 : Nat) (ln co ac : Int32) (P0 : own_PC Z h0 a1 ln co ac) :
    MetFree l (⟨"com/example/amberwire/amberwire/core/text/PlaceCounter", "column", "()I"⟩ : MethodName) (head1 (Jvm.Cond.code (⟨"com/example/amberwire/amberwire/core/text/PlaceCounter", "column", "()I"⟩ : MethodName) prog_161_method_6_code 1 (some .int) :: ws) ({ frames := 0, cells := 0, slots := 0, locals := 0 } : Room)) (fun a U => a = #[(.ref a1)] ∧ Z.Warmed39 U.vm ∧ U.heap = h0) (fun _ _ _ _ _ => True) (fun _ U o U' => ∃ v L, o = .returned v ∧ own_Q (some (.int co)) h0 n0 v U'.heap L ∧ FrameEnd U o U' L ({ frames := 0, cells := 0, slots := 0, locals := 0 } : Room).cells ({ frames := 0, cells := 0, slots := 0, locals := 0 } : Room).slots) := by
  refine MetFree.of_bodySF (plainFor_of_name own_pnCN) hisR ?_
  intro p e s m args below meth c s₁ Bd hml0 hP hK
  obtain ⟨rfl, hZ, hh⟩ := hP
  have hx := Bd.exec
  have hby := Bd.bytes
  have hml : c.maxLocals = 1 := hml0
  have hown : s.vm.findClass "com/example/amberwire/amberwire/core/text/PlaceCounter" = some m.cls := findClass_of_methodNamed Bd.named
  have hnm := (name_of_methodNamed Bd.named Bd.method).1
  have X0 : Stand p l e ({ frames := 0, cells := 0, slots := 0, locals := 0 } : Room) s m #[(.ref a1)] below meth c s₁ [] 0 0 := Stand.of_body Bd
  have e0 : s₁.heap = h0 := by rw [← hh, Bd.state]; rfl
  have N0 := Fr.nil n0
  have pre0 : ∀ t, Steps p.tables e below (s₁.setTop (mkF m 0 #[.val (.ref a1)] [])) t → Steps p.tables e below (s₁.setTop (entryFrame m #[(.ref a1)] 1)) t := fun t k => castTop (own_efCN m a1) k
  obtain ⟨T1, X1, e1, st1⟩ := getF X0 hx hZ hown (host := "") (Or.inl (hw _ (List.mem_of_getElem? (i := 29) rfl))) Via.refl e0 P0.2.2.1 (g := (mkF m 1 #[.val (.ref a1)] [(.ref a1)])) rfl rfl (hb hby own_dCN_1)
  obtain ⟨fs, hr, hrun, hended, hW, hsame⟩ := X1.leave (v := some (.int co)) (fun h => by rw [Bd.returns] at h; cases h)
  refine ⟨_, _, pre0 _ ?_, hrun, hended, _, _, rfl, ?_, ⟨_, rfl⟩, hW, hsame.mono (by decide) (by decide)⟩
  · show Steps p.tables e below (s₁.setTop (mkF m 0 #[.val (.ref a1)] [])) _
    refine XS.aloadN X0.here hx rfl (hb hby own_dCN_0) rfl rfl ?_
    show Steps p.tables e below (s₁.setTop (mkF m 1 #[.val (.ref a1)] [(.ref a1)])) _
    refine st1 _ ?_
    show Steps p.tables e below (T1.setTop (mkF m 4 #[.val (.ref a1)] [(.int co)])) _
    exact retI X1 hx Bd.returns (hb hby own_dCN_4) hr
  · show own_Q _ h0 n0 _ T1.heap _
    exact ⟨rfl, N0, e1⟩
theorem own_dPS_0 : decode prog_161_method_2_code 0 = .ok (.iload_n 1, 1) := by decide +kernel
theorem own_dPS_1 : decode prog_161_method_2_code 1 = .ok (.bipush 10, 2) := by decide +kernel
theorem own_dPS_3 : decode prog_161_method_2_code 3 = .ok (.if_icmp .ne 14, 3) := by decide +kernel
theorem own_dPS_6 : decode prog_161_method_2_code 6 = .ok (.aload_n 0, 1) := by decide +kernel
theorem own_dPS_7 : decode prog_161_method_2_code 7 = .ok (.getfield 13, 3) := by decide +kernel
theorem own_dPS_10 : decode prog_161_method_2_code 10 = .ok (.ifCond .eq 7, 3) := by decide +kernel
theorem own_dPS_13 : decode prog_161_method_2_code 13 = .ok (.iconst 1, 1) := by decide +kernel
theorem own_dPS_14 : decode prog_161_method_2_code 14 = .ok (.goto 4, 3) := by decide +kernel
theorem own_dPS_17 : decode prog_161_method_2_code 17 = .ok (.iconst 0, 1) := by decide +kernel
theorem own_dPS_18 : decode prog_161_method_2_code 18 = .ok (.istore_n 2, 1) := by decide +kernel
theorem own_dPS_19 : decode prog_161_method_2_code 19 = .ok (.aload_n 0, 1) := by decide +kernel
theorem own_dPS_20 : decode prog_161_method_2_code 20 = .ok (.iload_n 1, 1) := by decide +kernel
theorem own_dPS_21 : decode prog_161_method_2_code 21 = .ok (.bipush 13, 2) := by decide +kernel
theorem own_dPS_23 : decode prog_161_method_2_code 23 = .ok (.if_icmp .ne 7, 3) := by decide +kernel
theorem own_dPS_26 : decode prog_161_method_2_code 26 = .ok (.iconst 1, 1) := by decide +kernel
theorem own_dPS_27 : decode prog_161_method_2_code 27 = .ok (.goto 4, 3) := by decide +kernel
theorem own_dPS_30 : decode prog_161_method_2_code 30 = .ok (.iconst 0, 1) := by decide +kernel
theorem own_dPS_31 : decode prog_161_method_2_code 31 = .ok (.putfield 13, 3) := by decide +kernel
theorem own_dPS_34 : decode prog_161_method_2_code 34 = .ok (.iload_n 2, 1) := by decide +kernel
theorem own_dPS_35 : decode prog_161_method_2_code 35 = .ok (.ifCond .eq 4, 3) := by decide +kernel
theorem own_dPS_38 : decode prog_161_method_2_code 38 = .ok (.return_, 1) := by decide +kernel
theorem own_dPS_39 : decode prog_161_method_2_code 39 = .ok (.iload_n 1, 1) := by decide +kernel
theorem own_dPS_40 : decode prog_161_method_2_code 40 = .ok (.bipush 10, 2) := by decide +kernel
theorem own_dPS_42 : decode prog_161_method_2_code 42 = .ok (.if_icmp .eq 9, 3) := by decide +kernel
theorem own_dPS_45 : decode prog_161_method_2_code 45 = .ok (.iload_n 1, 1) := by decide +kernel
theorem own_dPS_46 : decode prog_161_method_2_code 46 = .ok (.bipush 13, 2) := by decide +kernel
theorem own_dPS_48 : decode prog_161_method_2_code 48 = .ok (.if_icmp .ne 21, 3) := by decide +kernel
theorem own_dPS_51 : decode prog_161_method_2_code 51 = .ok (.aload_n 0, 1) := by decide +kernel
theorem own_dPS_52 : decode prog_161_method_2_code 52 = .ok (.dup, 1) := by decide +kernel
theorem own_dPS_53 : decode prog_161_method_2_code 53 = .ok (.getfield 7, 3) := by decide +kernel
theorem own_dPS_56 : decode prog_161_method_2_code 56 = .ok (.iconst 1, 1) := by decide +kernel
theorem own_dPS_57 : decode prog_161_method_2_code 57 = .ok (.iadd, 1) := by decide +kernel
theorem own_dPS_58 : decode prog_161_method_2_code 58 = .ok (.putfield 7, 3) := by decide +kernel
theorem own_dPS_61 : decode prog_161_method_2_code 61 = .ok (.aload_n 0, 1) := by decide +kernel
theorem own_dPS_62 : decode prog_161_method_2_code 62 = .ok (.iconst 0, 1) := by decide +kernel
theorem own_dPS_63 : decode prog_161_method_2_code 63 = .ok (.putfield 17, 3) := by decide +kernel
theorem own_dPS_66 : decode prog_161_method_2_code 66 = .ok (.goto 13, 3) := by decide +kernel
theorem own_dPS_69 : decode prog_161_method_2_code 69 = .ok (.aload_n 0, 1) := by decide +kernel
theorem own_dPS_70 : decode prog_161_method_2_code 70 = .ok (.dup, 1) := by decide +kernel
theorem own_dPS_71 : decode prog_161_method_2_code 71 = .ok (.getfield 17, 3) := by decide +kernel
theorem own_dPS_74 : decode prog_161_method_2_code 74 = .ok (.iconst 1, 1) := by decide +kernel
theorem own_dPS_75 : decode prog_161_method_2_code 75 = .ok (.iadd, 1) := by decide +kernel
theorem own_dPS_76 : decode prog_161_method_2_code 76 = .ok (.putfield 17, 3) := by decide +kernel
theorem own_dPS_79 : decode prog_161_method_2_code 79 = .ok (.return_, 1) := by decide +kernel
theorem own_pnPS : plainName "com/example/amberwire/amberwire/core/text/PlaceCounter" = true := by first | (simp [plainName, overriddenIn]; done) | decide +kernel
theorem own_pdPS : parseMethodDescriptor "(C)V" = some ⟨[.char], none⟩ := by decide +kernel
theorem own_efPS (m : MethodId) (x0 : Addr) (x1 : Int32) : entryFrame m #[(.ref x0), (.int x1)] 3 = mkF m 0 #[.val (.ref x0), .val (.int x1), .unset] [] := by first | (simp [entryFrame, mkF, argsToLocals, Value.category]; done) | rfl
set_option maxRecDepth 65536 in
set_option maxHeartbeats 40000000 in
theorem own_rmPS (l : Launch) (Z : State) (a0 : Array Value) (hw : ∀ d ∈ tables_1, d.before a0 Z = true) (ws : List Jvm.Cond) (a1 : Addr) (p0 : Int32) (h0 : Heap) (n0 : Nat) (ln co ac : Int32) (P0 : own_PC Z h0 a1 ln co ac) (ga : n0 ≤ a1) :
    MetFree l (⟨"com/example/amberwire/amberwire/core/text/PlaceCounter", "pass", "(C)V"⟩ : MethodName) (head1 (Jvm.Cond.code (⟨"com/example/amberwire/amberwire/core/text/PlaceCounter", "pass", "(C)V"⟩ : MethodName) prog_161_method_2_code 3 none :: ws) ({ frames := 0, cells := 0, slots := 0, locals := 0 } : Room)) (fun a U => a = #[(.ref a1), (.int p0)] ∧ Z.Warmed39 U.vm ∧ U.heap = h0) (fun _ _ _ _ _ => True) (fun _ U o U' => ∃ v L, o = .returned v ∧ own_QP Z a1 (own_pL p0 ln ac) (own_pC p0 co ac) (own_pA p0) h0 n0 v U'.heap L ∧ FrameEnd U o U' L ({ frames := 0, cells := 0, slots := 0, locals := 0 } : Room).cells ({ frames := 0, cells := 0, slots := 0, locals := 0 } : Room).slots) := by
  refine MetFree.of_bodySF (plainFor_of_name own_pnPS) hisR ?_
  intro p e s m args below meth c s₁ Bd hml0 hP hK
  obtain ⟨rfl, hZ, hh⟩ := hP
  have hx := Bd.exec
  have hby := Bd.bytes
  have hml : c.maxLocals = 3 := hml0
  have hown : s.vm.findClass "com/example/amberwire/amberwire/core/text/PlaceCounter" = some m.cls := findClass_of_methodNamed Bd.named
  have hnm := (name_of_methodNamed Bd.named Bd.method).1
  have X0 : Stand p l e ({ frames := 0, cells := 0, slots := 0, locals := 0 } : Room) s m #[(.ref a1), (.int p0)] below meth c s₁ [] 0 0 := Stand.of_body Bd
  have e0 : s₁.heap = h0 := by rw [← hh, Bd.state]; rfl
  have N0 := Fr.nil n0
  have pre0 : ∀ t, Steps p.tables e below (s₁.setTop (mkF m 0 #[.val (.ref a1), .val (.int p0), .unset] [])) t → Steps p.tables e below (s₁.setTop (entryFrame m #[(.ref a1), (.int p0)] 3)) t := fun t k => castTop (own_efPS m a1 p0) k
  have K0 := Keep.refl h0 [a1]
  by_cases h10 : p0 = (10 : Int32)
  · have h13 : ¬ (p0 = (13 : Int32)) := by rw [h10]; decide
    by_cases hac : ac = (0 : Int32)
    · obtain ⟨T1, X1, e1, st1⟩ := getF X0 hx hZ hown (host := "") (Or.inl (hw _ (List.mem_of_getElem? (i := 27) rfl))) Via.refl e0 P0.2.2.2 (g := (mkF m 7 #[.val (.ref a1), .val (.int p0), .unset] [(.ref a1)])) rfl rfl (hb hby own_dPS_7)
      obtain ⟨T2, h2, X2, e2, W2, st2⟩ := putF X1 hx hZ hown (host := "") (Or.inl (hw _ (List.mem_of_getElem? (i := 27) rfl))) Via.refl e1 P0.2.2.2 P0.1 (Or.inl (hw _ (List.mem_of_getElem? (i := 28) rfl))) (hw _ (List.mem_of_getElem? (i := 12) rfl)) (ty := .boolean) (by decide) rfl rfl (g := (mkF m 31 #[.val (.ref a1), .val (.int p0), .val (.int (0 : Int32))] [(.int (0 : Int32)), (.ref a1)])) rfl rfl (hb hby own_dPS_31)
      have P2 := own_PC_setA hw P0 W2
      have K2 := K0.wr W2 (Or.inl (List.mem_singleton.mpr rfl))
      have N2 := Fr.snoc X2 N0 ga
      obtain ⟨T3, X3, e3, st3⟩ := getF X2 hx hZ hown (host := "") (Or.inl (hw _ (List.mem_of_getElem? (i := 20) rfl))) Via.refl e2 P2.2.1 (g := (mkF m 53 #[.val (.ref a1), .val (.int p0), .val (.int (0 : Int32))] [(.ref a1), (.ref a1)])) rfl rfl (hb hby own_dPS_53)
      obtain ⟨T4, h4, X4, e4, W4, st4⟩ := putF X3 hx hZ hown (host := "") (Or.inl (hw _ (List.mem_of_getElem? (i := 20) rfl))) Via.refl e3 P2.2.1 P2.1 (Or.inl (hw _ (List.mem_of_getElem? (i := 21) rfl))) (hw _ (List.mem_of_getElem? (i := 12) rfl)) (ty := .int) (by decide) rfl rfl (g := (mkF m 58 #[.val (.ref a1), .val (.int p0), .val (.int (0 : Int32))] [(.int (ln + (1 : Int32))), (.ref a1)])) rfl rfl (hb hby own_dPS_58)
      have P4 := own_PC_setL hw P2 W4
      have K4 := K2.wr W4 (Or.inl (List.mem_singleton.mpr rfl))
      have N4 := Fr.snoc X4 N2 ga
      obtain ⟨T5, h5, X5, e5, W5, st5⟩ := putF X4 hx hZ hown (host := "") (Or.inl (hw _ (List.mem_of_getElem? (i := 29) rfl))) Via.refl e4 P4.2.2.1 P4.1 (Or.inl (hw _ (List.mem_of_getElem? (i := 30) rfl))) (hw _ (List.mem_of_getElem? (i := 12) rfl)) (ty := .int) (by decide) rfl rfl (g := (mkF m 63 #[.val (.ref a1), .val (.int p0), .val (.int (0 : Int32))] [(.int (0 : Int32)), (.ref a1)])) rfl rfl (hb hby own_dPS_63)
      have P5 := own_PC_setC hw P4 W5
      have K5 := K4.wr W5 (Or.inl (List.mem_singleton.mpr rfl))
      have N5 := Fr.snoc X5 N4 ga
      have q1 : own_pL p0 ln ac = (ln + (1 : Int32)) := by unfold own_pL; rw [if_pos h10, if_pos hac]
      have q2 : own_pC p0 co ac = (0 : Int32) := by unfold own_pC; rw [if_pos h10, if_pos hac]
      have q3 : own_pA p0 = (0 : Int32) := by unfold own_pA; rw [if_neg h13]
      rw [q1, q2, q3]
      obtain ⟨fs, hr, hrun, hended, hW, hsame⟩ := X5.leave (v := none) (fun _ => rfl)
      refine ⟨_, _, pre0 _ ?_, hrun, hended, _, _, rfl, ?_, ⟨_, rfl⟩, hW, hsame.mono (by decide) (by decide)⟩
      · show Steps p.tables e below (s₁.setTop (mkF m 0 #[.val (.ref a1), .val (.int p0), .unset] [])) _
        refine XS.iloadN X0.here hx rfl (hb hby own_dPS_0) rfl ?_
        show Steps p.tables e below (s₁.setTop (mkF m 1 #[.val (.ref a1), .val (.int p0), .unset] [(.int p0)])) _
        refine XS.bipush X0.here hx rfl (hb hby own_dPS_1) ?_
        show Steps p.tables e below (s₁.setTop (mkF m 3 #[.val (.ref a1), .val (.int p0), .unset] [(.int (10 : Int32)), (.int p0)])) _
        refine XS.icmpNo X0.here hx rfl (hb hby own_dPS_3) rfl (teq h10).2 ?_
        show Steps p.tables e below (s₁.setTop (mkF m 6 #[.val (.ref a1), .val (.int p0), .unset] [])) _
        refine XS.aloadN X0.here hx rfl (hb hby own_dPS_6) rfl rfl ?_
        show Steps p.tables e below (s₁.setTop (mkF m 7 #[.val (.ref a1), .val (.int p0), .unset] [(.ref a1)])) _
        refine st1 _ ?_
        show Steps p.tables e below (T1.setTop (mkF m 10 #[.val (.ref a1), .val (.int p0), .unset] [(.int ac)])) _
        refine XS.ifYes X1.here hx rfl (pc0 := 10) (pc' := 17) rfl (hb hby own_dPS_10) rfl ((if0 _ _).trans (teq hac).1) (by decide) (by decide) ?_
        show Steps p.tables e below (T1.setTop (mkF m 17 #[.val (.ref a1), .val (.int p0), .unset] [])) _
        refine XS.iconst X1.here hx rfl (hb hby own_dPS_17) ?_
        show Steps p.tables e below (T1.setTop (mkF m 18 #[.val (.ref a1), .val (.int p0), .unset] [(.int (0 : Int32))])) _
        refine XS.istoreN X1.here hx rfl (hb hby own_dPS_18) rfl (l' := #[.val (.ref a1), .val (.int p0), .val (.int (0 : Int32))]) rfl ?_
        show Steps p.tables e below (T1.setTop (mkF m 19 #[.val (.ref a1), .val (.int p0), .val (.int (0 : Int32))] [])) _
        refine XS.aloadN X1.here hx rfl (hb hby own_dPS_19) rfl rfl ?_
        show Steps p.tables e below (T1.setTop (mkF m 20 #[.val (.ref a1), .val (.int p0), .val (.int (0 : Int32))] [(.ref a1)])) _
        refine XS.iloadN X1.here hx rfl (hb hby own_dPS_20) rfl ?_
        show Steps p.tables e below (T1.setTop (mkF m 21 #[.val (.ref a1), .val (.int p0), .val (.int (0 : Int32))] [(.int p0), (.ref a1)])) _
        refine XS.bipush X1.here hx rfl (hb hby own_dPS_21) ?_
        show Steps p.tables e below (T1.setTop (mkF m 23 #[.val (.ref a1), .val (.int p0), .val (.int (0 : Int32))] [(.int (13 : Int32)), (.int p0), (.ref a1)])) _
        refine XS.icmpYes X1.here hx rfl (pc0 := 23) (pc' := 30) rfl (hb hby own_dPS_23) rfl (feq h13).2 (by decide) (by decide) ?_
        show Steps p.tables e below (T1.setTop (mkF m 30 #[.val (.ref a1), .val (.int p0), .val (.int (0 : Int32))] [(.ref a1)])) _
        refine XS.iconst X1.here hx rfl (hb hby own_dPS_30) ?_
        show Steps p.tables e below (T1.setTop (mkF m 31 #[.val (.ref a1), .val (.int p0), .val (.int (0 : Int32))] [(.int (0 : Int32)), (.ref a1)])) _
        refine st2 _ ?_
        show Steps p.tables e below (T2.setTop (mkF m 34 #[.val (.ref a1), .val (.int p0), .val (.int (0 : Int32))] [])) _
        refine XS.iloadN X2.here hx rfl (hb hby own_dPS_34) rfl ?_
        show Steps p.tables e below (T2.setTop (mkF m 35 #[.val (.ref a1), .val (.int p0), .val (.int (0 : Int32))] [(.int (0 : Int32))])) _
        refine XS.ifYes X2.here hx rfl (pc0 := 35) (pc' := 39) rfl (hb hby own_dPS_35) rfl (by decide) (by decide) (by decide) ?_
        show Steps p.tables e below (T2.setTop (mkF m 39 #[.val (.ref a1), .val (.int p0), .val (.int (0 : Int32))] [])) _
        refine XS.iloadN X2.here hx rfl (hb hby own_dPS_39) rfl ?_
        show Steps p.tables e below (T2.setTop (mkF m 40 #[.val (.ref a1), .val (.int p0), .val (.int (0 : Int32))] [(.int p0)])) _
        refine XS.bipush X2.here hx rfl (hb hby own_dPS_40) ?_
        show Steps p.tables e below (T2.setTop (mkF m 42 #[.val (.ref a1), .val (.int p0), .val (.int (0 : Int32))] [(.int (10 : Int32)), (.int p0)])) _
        refine XS.icmpYes X2.here hx rfl (pc0 := 42) (pc' := 51) rfl (hb hby own_dPS_42) rfl (teq h10).1 (by decide) (by decide) ?_
        show Steps p.tables e below (T2.setTop (mkF m 51 #[.val (.ref a1), .val (.int p0), .val (.int (0 : Int32))] [])) _
        refine XS.aloadN X2.here hx rfl (hb hby own_dPS_51) rfl rfl ?_
        show Steps p.tables e below (T2.setTop (mkF m 52 #[.val (.ref a1), .val (.int p0), .val (.int (0 : Int32))] [(.ref a1)])) _
        refine XS.dup X2.here hx rfl (hb hby own_dPS_52) rfl rfl ?_
        show Steps p.tables e below (T2.setTop (mkF m 53 #[.val (.ref a1), .val (.int p0), .val (.int (0 : Int32))] [(.ref a1), (.ref a1)])) _
        refine st3 _ ?_
        show Steps p.tables e below (T3.setTop (mkF m 56 #[.val (.ref a1), .val (.int p0), .val (.int (0 : Int32))] [(.int ln), (.ref a1)])) _
        refine XS.iconst X3.here hx rfl (hb hby own_dPS_56) ?_
        show Steps p.tables e below (T3.setTop (mkF m 57 #[.val (.ref a1), .val (.int p0), .val (.int (0 : Int32))] [(.int (1 : Int32)), (.int ln), (.ref a1)])) _
        refine XS.iadd X3.here hx rfl (hb hby own_dPS_57) rfl ?_
        show Steps p.tables e below (T3.setTop (mkF m 58 #[.val (.ref a1), .val (.int p0), .val (.int (0 : Int32))] [(.int (ln + (1 : Int32))), (.ref a1)])) _
        refine st4 _ ?_
        show Steps p.tables e below (T4.setTop (mkF m 61 #[.val (.ref a1), .val (.int p0), .val (.int (0 : Int32))] [])) _
        refine XS.aloadN X4.here hx rfl (hb hby own_dPS_61) rfl rfl ?_
        show Steps p.tables e below (T4.setTop (mkF m 62 #[.val (.ref a1), .val (.int p0), .val (.int (0 : Int32))] [(.ref a1)])) _
        refine XS.iconst X4.here hx rfl (hb hby own_dPS_62) ?_
        show Steps p.tables e below (T4.setTop (mkF m 63 #[.val (.ref a1), .val (.int p0), .val (.int (0 : Int32))] [(.int (0 : Int32)), (.ref a1)])) _
        refine st5 _ ?_
        show Steps p.tables e below (T5.setTop (mkF m 66 #[.val (.ref a1), .val (.int p0), .val (.int (0 : Int32))] [])) _
        refine XS.goto X5.here hx rfl (pc0 := 66) (pc' := 79) rfl (hb hby own_dPS_66) (by decide) (by decide) ?_
        show Steps p.tables e below (T5.setTop (mkF m 79 #[.val (.ref a1), .val (.int p0), .val (.int (0 : Int32))] [])) _
        exact X5.returnOut hx Bd.returns (hb hby own_dPS_79) hr
      · show own_QP Z a1 _ _ _ h0 n0 _ T5.heap _
        rw [e5]
        exact ⟨rfl, N5, K5, P5⟩
    · obtain ⟨T1, X1, e1, st1⟩ := getF X0 hx hZ hown (host := "") (Or.inl (hw _ (List.mem_of_getElem? (i := 27) rfl))) Via.refl e0 P0.2.2.2 (g := (mkF m 7 #[.val (.ref a1), .val (.int p0), .unset] [(.ref a1)])) rfl rfl (hb hby own_dPS_7)
      obtain ⟨T2, h2, X2, e2, W2, st2⟩ := putF X1 hx hZ hown (host := "") (Or.inl (hw _ (List.mem_of_getElem? (i := 27) rfl))) Via.refl e1 P0.2.2.2 P0.1 (Or.inl (hw _ (List.mem_of_getElem? (i := 28) rfl))) (hw _ (List.mem_of_getElem? (i := 12) rfl)) (ty := .boolean) (by decide) rfl rfl (g := (mkF m 31 #[.val (.ref a1), .val (.int p0), .val (.int (1 : Int32))] [(.int (0 : Int32)), (.ref a1)])) rfl rfl (hb hby own_dPS_31)
      have P2 := own_PC_setA hw P0 W2
      have K2 := K0.wr W2 (Or.inl (List.mem_singleton.mpr rfl))
      have N2 := Fr.snoc X2 N0 ga
      have q1 : own_pL p0 ln ac = ln := by unfold own_pL; rw [if_pos h10, if_neg hac]
      have q2 : own_pC p0 co ac = co := by unfold own_pC; rw [if_pos h10, if_neg hac]
      have q3 : own_pA p0 = (0 : Int32) := by unfold own_pA; rw [if_neg h13]
      rw [q1, q2, q3]
      obtain ⟨fs, hr, hrun, hended, hW, hsame⟩ := X2.leave (v := none) (fun _ => rfl)
      refine ⟨_, _, pre0 _ ?_, hrun, hended, _, _, rfl, ?_, ⟨_, rfl⟩, hW, hsame.mono (by decide) (by decide)⟩
      · show Steps p.tables e below (s₁.setTop (mkF m 0 #[.val (.ref a1), .val (.int p0), .unset] [])) _
        refine XS.iloadN X0.here hx rfl (hb hby own_dPS_0) rfl ?_
        show Steps p.tables e below (s₁.setTop (mkF m 1 #[.val (.ref a1), .val (.int p0), .unset] [(.int p0)])) _
        refine XS.bipush X0.here hx rfl (hb hby own_dPS_1) ?_
        show Steps p.tables e below (s₁.setTop (mkF m 3 #[.val (.ref a1), .val (.int p0), .unset] [(.int (10 : Int32)), (.int p0)])) _
        refine XS.icmpNo X0.here hx rfl (hb hby own_dPS_3) rfl (teq h10).2 ?_
        show Steps p.tables e below (s₁.setTop (mkF m 6 #[.val (.ref a1), .val (.int p0), .unset] [])) _
        refine XS.aloadN X0.here hx rfl (hb hby own_dPS_6) rfl rfl ?_
        show Steps p.tables e below (s₁.setTop (mkF m 7 #[.val (.ref a1), .val (.int p0), .unset] [(.ref a1)])) _
        refine st1 _ ?_
        show Steps p.tables e below (T1.setTop (mkF m 10 #[.val (.ref a1), .val (.int p0), .unset] [(.int ac)])) _
        refine XS.ifNo X1.here hx rfl (hb hby own_dPS_10) rfl ((if0 _ _).trans (feq hac).1) ?_
        show Steps p.tables e below (T1.setTop (mkF m 13 #[.val (.ref a1), .val (.int p0), .unset] [])) _
        refine XS.iconst X1.here hx rfl (hb hby own_dPS_13) ?_
        show Steps p.tables e below (T1.setTop (mkF m 14 #[.val (.ref a1), .val (.int p0), .unset] [(.int (1 : Int32))])) _
        refine XS.goto X1.here hx rfl (pc0 := 14) (pc' := 18) rfl (hb hby own_dPS_14) (by decide) (by decide) ?_
        show Steps p.tables e below (T1.setTop (mkF m 18 #[.val (.ref a1), .val (.int p0), .unset] [(.int (1 : Int32))])) _
        refine XS.istoreN X1.here hx rfl (hb hby own_dPS_18) rfl (l' := #[.val (.ref a1), .val (.int p0), .val (.int (1 : Int32))]) rfl ?_
        show Steps p.tables e below (T1.setTop (mkF m 19 #[.val (.ref a1), .val (.int p0), .val (.int (1 : Int32))] [])) _
        refine XS.aloadN X1.here hx rfl (hb hby own_dPS_19) rfl rfl ?_
        show Steps p.tables e below (T1.setTop (mkF m 20 #[.val (.ref a1), .val (.int p0), .val (.int (1 : Int32))] [(.ref a1)])) _
        refine XS.iloadN X1.here hx rfl (hb hby own_dPS_20) rfl ?_
        show Steps p.tables e below (T1.setTop (mkF m 21 #[.val (.ref a1), .val (.int p0), .val (.int (1 : Int32))] [(.int p0), (.ref a1)])) _
        refine XS.bipush X1.here hx rfl (hb hby own_dPS_21) ?_
        show Steps p.tables e below (T1.setTop (mkF m 23 #[.val (.ref a1), .val (.int p0), .val (.int (1 : Int32))] [(.int (13 : Int32)), (.int p0), (.ref a1)])) _
        refine XS.icmpYes X1.here hx rfl (pc0 := 23) (pc' := 30) rfl (hb hby own_dPS_23) rfl (feq h13).2 (by decide) (by decide) ?_
        show Steps p.tables e below (T1.setTop (mkF m 30 #[.val (.ref a1), .val (.int p0), .val (.int (1 : Int32))] [(.ref a1)])) _
        refine XS.iconst X1.here hx rfl (hb hby own_dPS_30) ?_
        show Steps p.tables e below (T1.setTop (mkF m 31 #[.val (.ref a1), .val (.int p0), .val (.int (1 : Int32))] [(.int (0 : Int32)), (.ref a1)])) _
        refine st2 _ ?_
        show Steps p.tables e below (T2.setTop (mkF m 34 #[.val (.ref a1), .val (.int p0), .val (.int (1 : Int32))] [])) _
        refine XS.iloadN X2.here hx rfl (hb hby own_dPS_34) rfl ?_
        show Steps p.tables e below (T2.setTop (mkF m 35 #[.val (.ref a1), .val (.int p0), .val (.int (1 : Int32))] [(.int (1 : Int32))])) _
        refine XS.ifNo X2.here hx rfl (hb hby own_dPS_35) rfl (by decide) ?_
        show Steps p.tables e below (T2.setTop (mkF m 38 #[.val (.ref a1), .val (.int p0), .val (.int (1 : Int32))] [])) _
        exact X2.returnOut hx Bd.returns (hb hby own_dPS_38) hr
      · show own_QP Z a1 _ _ _ h0 n0 _ T2.heap _
        rw [e2]
        exact ⟨rfl, N2, K2, P2⟩
  · by_cases h13 : p0 = (13 : Int32)
    · obtain ⟨T1, h1, X1, e1, W1, st1⟩ := putF X0 hx hZ hown (host := "") (Or.inl (hw _ (List.mem_of_getElem? (i := 27) rfl))) Via.refl e0 P0.2.2.2 P0.1 (Or.inl (hw _ (List.mem_of_getElem? (i := 28) rfl))) (hw _ (List.mem_of_getElem? (i := 12) rfl)) (ty := .boolean) (by decide) rfl rfl (g := (mkF m 31 #[.val (.ref a1), .val (.int p0), .val (.int (0 : Int32))] [(.int (1 : Int32)), (.ref a1)])) rfl rfl (hb hby own_dPS_31)
      have P1 := own_PC_setA hw P0 W1
      have K1 := K0.wr W1 (Or.inl (List.mem_singleton.mpr rfl))
      have N1 := Fr.snoc X1 N0 ga
      obtain ⟨T2, X2, e2, st2⟩ := getF X1 hx hZ hown (host := "") (Or.inl (hw _ (List.mem_of_getElem? (i := 20) rfl))) Via.refl e1 P1.2.1 (g := (mkF m 53 #[.val (.ref a1), .val (.int p0), .val (.int (0 : Int32))] [(.ref a1), (.ref a1)])) rfl rfl (hb hby own_dPS_53)
      obtain ⟨T3, h3, X3, e3, W3, st3⟩ := putF X2 hx hZ hown (host := "") (Or.inl (hw _ (List.mem_of_getElem? (i := 20) rfl))) Via.refl e2 P1.2.1 P1.1 (Or.inl (hw _ (List.mem_of_getElem? (i := 21) rfl))) (hw _ (List.mem_of_getElem? (i := 12) rfl)) (ty := .int) (by decide) rfl rfl (g := (mkF m 58 #[.val (.ref a1), .val (.int p0), .val (.int (0 : Int32))] [(.int (ln + (1 : Int32))), (.ref a1)])) rfl rfl (hb hby own_dPS_58)
      have P3 := own_PC_setL hw P1 W3
      have K3 := K1.wr W3 (Or.inl (List.mem_singleton.mpr rfl))
      have N3 := Fr.snoc X3 N1 ga
      obtain ⟨T4, h4, X4, e4, W4, st4⟩ := putF X3 hx hZ hown (host := "") (Or.inl (hw _ (List.mem_of_getElem? (i := 29) rfl))) Via.refl e3 P3.2.2.1 P3.1 (Or.inl (hw _ (List.mem_of_getElem? (i := 30) rfl))) (hw _ (List.mem_of_getElem? (i := 12) rfl)) (ty := .int) (by decide) rfl rfl (g := (mkF m 63 #[.val (.ref a1), .val (.int p0), .val (.int (0 : Int32))] [(.int (0 : Int32)), (.ref a1)])) rfl rfl (hb hby own_dPS_63)
      have P4 := own_PC_setC hw P3 W4
      have K4 := K3.wr W4 (Or.inl (List.mem_singleton.mpr rfl))
      have N4 := Fr.snoc X4 N3 ga
      have q1 : own_pL p0 ln ac = (ln + (1 : Int32)) := by unfold own_pL; rw [if_neg h10, if_pos h13]
      have q2 : own_pC p0 co ac = (0 : Int32) := by unfold own_pC; rw [if_neg h10, if_pos h13]
      have q3 : own_pA p0 = (1 : Int32) := by unfold own_pA; rw [if_pos h13]
      rw [q1, q2, q3]
      obtain ⟨fs, hr, hrun, hended, hW, hsame⟩ := X4.leave (v := none) (fun _ => rfl)
      refine ⟨_, _, pre0 _ ?_, hrun, hended, _, _, rfl, ?_, ⟨_, rfl⟩, hW, hsame.mono (by decide) (by decide)⟩
      · show Steps p.tables e below (s₁.setTop (mkF m 0 #[.val (.ref a1), .val (.int p0), .unset] [])) _
        refine XS.iloadN X0.here hx rfl (hb hby own_dPS_0) rfl ?_
        show Steps p.tables e below (s₁.setTop (mkF m 1 #[.val (.ref a1), .val (.int p0), .unset] [(.int p0)])) _
        refine XS.bipush X0.here hx rfl (hb hby own_dPS_1) ?_
        show Steps p.tables e below (s₁.setTop (mkF m 3 #[.val (.ref a1), .val (.int p0), .unset] [(.int (10 : Int32)), (.int p0)])) _
        refine XS.icmpYes X0.here hx rfl (pc0 := 3) (pc' := 17) rfl (hb hby own_dPS_3) rfl (feq h10).2 (by decide) (by decide) ?_
        show Steps p.tables e below (s₁.setTop (mkF m 17 #[.val (.ref a1), .val (.int p0), .unset] [])) _
        refine XS.iconst X0.here hx rfl (hb hby own_dPS_17) ?_
        show Steps p.tables e below (s₁.setTop (mkF m 18 #[.val (.ref a1), .val (.int p0), .unset] [(.int (0 : Int32))])) _
        refine XS.istoreN X0.here hx rfl (hb hby own_dPS_18) rfl (l' := #[.val (.ref a1), .val (.int p0), .val (.int (0 : Int32))]) rfl ?_
        show Steps p.tables e below (s₁.setTop (mkF m 19 #[.val (.ref a1), .val (.int p0), .val (.int (0 : Int32))] [])) _
        refine XS.aloadN X0.here hx rfl (hb hby own_dPS_19) rfl rfl ?_
        show Steps p.tables e below (s₁.setTop (mkF m 20 #[.val (.ref a1), .val (.int p0), .val (.int (0 : Int32))] [(.ref a1)])) _
        refine XS.iloadN X0.here hx rfl (hb hby own_dPS_20) rfl ?_
        show Steps p.tables e below (s₁.setTop (mkF m 21 #[.val (.ref a1), .val (.int p0), .val (.int (0 : Int32))] [(.int p0), (.ref a1)])) _
        refine XS.bipush X0.here hx rfl (hb hby own_dPS_21) ?_
        show Steps p.tables e below (s₁.setTop (mkF m 23 #[.val (.ref a1), .val (.int p0), .val (.int (0 : Int32))] [(.int (13 : Int32)), (.int p0), (.ref a1)])) _
        refine XS.icmpNo X0.here hx rfl (hb hby own_dPS_23) rfl (teq h13).2 ?_
        show Steps p.tables e below (s₁.setTop (mkF m 26 #[.val (.ref a1), .val (.int p0), .val (.int (0 : Int32))] [(.ref a1)])) _
        refine XS.iconst X0.here hx rfl (hb hby own_dPS_26) ?_
        show Steps p.tables e below (s₁.setTop (mkF m 27 #[.val (.ref a1), .val (.int p0), .val (.int (0 : Int32))] [(.int (1 : Int32)), (.ref a1)])) _
        refine XS.goto X0.here hx rfl (pc0 := 27) (pc' := 31) rfl (hb hby own_dPS_27) (by decide) (by decide) ?_
        show Steps p.tables e below (s₁.setTop (mkF m 31 #[.val (.ref a1), .val (.int p0), .val (.int (0 : Int32))] [(.int (1 : Int32)), (.ref a1)])) _
        refine st1 _ ?_
        show Steps p.tables e below (T1.setTop (mkF m 34 #[.val (.ref a1), .val (.int p0), .val (.int (0 : Int32))] [])) _
        refine XS.iloadN X1.here hx rfl (hb hby own_dPS_34) rfl ?_
        show Steps p.tables e below (T1.setTop (mkF m 35 #[.val (.ref a1), .val (.int p0), .val (.int (0 : Int32))] [(.int (0 : Int32))])) _
        refine XS.ifYes X1.here hx rfl (pc0 := 35) (pc' := 39) rfl (hb hby own_dPS_35) rfl (by decide) (by decide) (by decide) ?_
        show Steps p.tables e below (T1.setTop (mkF m 39 #[.val (.ref a1), .val (.int p0), .val (.int (0 : Int32))] [])) _
        refine XS.iloadN X1.here hx rfl (hb hby own_dPS_39) rfl ?_
        show Steps p.tables e below (T1.setTop (mkF m 40 #[.val (.ref a1), .val (.int p0), .val (.int (0 : Int32))] [(.int p0)])) _
        refine XS.bipush X1.here hx rfl (hb hby own_dPS_40) ?_
        show Steps p.tables e below (T1.setTop (mkF m 42 #[.val (.ref a1), .val (.int p0), .val (.int (0 : Int32))] [(.int (10 : Int32)), (.int p0)])) _
        refine XS.icmpNo X1.here hx rfl (hb hby own_dPS_42) rfl (feq h10).1 ?_
        show Steps p.tables e below (T1.setTop (mkF m 45 #[.val (.ref a1), .val (.int p0), .val (.int (0 : Int32))] [])) _
        refine XS.iloadN X1.here hx rfl (hb hby own_dPS_45) rfl ?_
        show Steps p.tables e below (T1.setTop (mkF m 46 #[.val (.ref a1), .val (.int p0), .val (.int (0 : Int32))] [(.int p0)])) _
        refine XS.bipush X1.here hx rfl (hb hby own_dPS_46) ?_
        show Steps p.tables e below (T1.setTop (mkF m 48 #[.val (.ref a1), .val (.int p0), .val (.int (0 : Int32))] [(.int (13 : Int32)), (.int p0)])) _
        refine XS.icmpNo X1.here hx rfl (hb hby own_dPS_48) rfl (teq h13).2 ?_
        show Steps p.tables e below (T1.setTop (mkF m 51 #[.val (.ref a1), .val (.int p0), .val (.int (0 : Int32))] [])) _
        refine XS.aloadN X1.here hx rfl (hb hby own_dPS_51) rfl rfl ?_
        show Steps p.tables e below (T1.setTop (mkF m 52 #[.val (.ref a1), .val (.int p0), .val (.int (0 : Int32))] [(.ref a1)])) _
        refine XS.dup X1.here hx rfl (hb hby own_dPS_52) rfl rfl ?_
        show Steps p.tables e below (T1.setTop (mkF m 53 #[.val (.ref a1), .val (.int p0), .val (.int (0 : Int32))] [(.ref a1), (.ref a1)])) _
        refine st2 _ ?_
        show Steps p.tables e below (T2.setTop (mkF m 56 #[.val (.ref a1), .val (.int p0), .val (.int (0 : Int32))] [(.int ln), (.ref a1)])) _
        refine XS.iconst X2.here hx rfl (hb hby own_dPS_56) ?_
        show Steps p.tables e below (T2.setTop (mkF m 57 #[.val (.ref a1), .val (.int p0), .val (.int (0 : Int32))] [(.int (1 : Int32)), (.int ln), (.ref a1)])) _
        refine XS.iadd X2.here hx rfl (hb hby own_dPS_57) rfl ?_
        show Steps p.tables e below (T2.setTop (mkF m 58 #[.val (.ref a1), .val (.int p0), .val (.int (0 : Int32))] [(.int (ln + (1 : Int32))), (.ref a1)])) _
        refine st3 _ ?_
        show Steps p.tables e below (T3.setTop (mkF m 61 #[.val (.ref a1), .val (.int p0), .val (.int (0 : Int32))] [])) _
        refine XS.aloadN X3.here hx rfl (hb hby own_dPS_61) rfl rfl ?_
        show Steps p.tables e below (T3.setTop (mkF m 62 #[.val (.ref a1), .val (.int p0), .val (.int (0 : Int32))] [(.ref a1)])) _
        refine XS.iconst X3.here hx rfl (hb hby own_dPS_62) ?_
        show Steps p.tables e below (T3.setTop (mkF m 63 #[.val (.ref a1), .val (.int p0), .val (.int (0 : Int32))] [(.int (0 : Int32)), (.ref a1)])) _
        refine st4 _ ?_
        show Steps p.tables e below (T4.setTop (mkF m 66 #[.val (.ref a1), .val (.int p0), .val (.int (0 : Int32))] [])) _
        refine XS.goto X4.here hx rfl (pc0 := 66) (pc' := 79) rfl (hb hby own_dPS_66) (by decide) (by decide) ?_
        show Steps p.tables e below (T4.setTop (mkF m 79 #[.val (.ref a1), .val (.int p0), .val (.int (0 : Int32))] [])) _
        exact X4.returnOut hx Bd.returns (hb hby own_dPS_79) hr
      · show own_QP Z a1 _ _ _ h0 n0 _ T4.heap _
        rw [e4]
        exact ⟨rfl, N4, K4, P4⟩
    · obtain ⟨T1, h1, X1, e1, W1, st1⟩ := putF X0 hx hZ hown (host := "") (Or.inl (hw _ (List.mem_of_getElem? (i := 27) rfl))) Via.refl e0 P0.2.2.2 P0.1 (Or.inl (hw _ (List.mem_of_getElem? (i := 28) rfl))) (hw _ (List.mem_of_getElem? (i := 12) rfl)) (ty := .boolean) (by decide) rfl rfl (g := (mkF m 31 #[.val (.ref a1), .val (.int p0), .val (.int (0 : Int32))] [(.int (0 : Int32)), (.ref a1)])) rfl rfl (hb hby own_dPS_31)
      have P1 := own_PC_setA hw P0 W1
      have K1 := K0.wr W1 (Or.inl (List.mem_singleton.mpr rfl))
      have N1 := Fr.snoc X1 N0 ga
      obtain ⟨T2, X2, e2, st2⟩ := getF X1 hx hZ hown (host := "") (Or.inl (hw _ (List.mem_of_getElem? (i := 29) rfl))) Via.refl e1 P1.2.2.1 (g := (mkF m 71 #[.val (.ref a1), .val (.int p0), .val (.int (0 : Int32))] [(.ref a1), (.ref a1)])) rfl rfl (hb hby own_dPS_71)
      obtain ⟨T3, h3, X3, e3, W3, st3⟩ := putF X2 hx hZ hown (host := "") (Or.inl (hw _ (List.mem_of_getElem? (i := 29) rfl))) Via.refl e2 P1.2.2.1 P1.1 (Or.inl (hw _ (List.mem_of_getElem? (i := 30) rfl))) (hw _ (List.mem_of_getElem? (i := 12) rfl)) (ty := .int) (by decide) rfl rfl (g := (mkF m 76 #[.val (.ref a1), .val (.int p0), .val (.int (0 : Int32))] [(.int (co + (1 : Int32))), (.ref a1)])) rfl rfl (hb hby own_dPS_76)
      have P3 := own_PC_setC hw P1 W3
      have K3 := K1.wr W3 (Or.inl (List.mem_singleton.mpr rfl))
      have N3 := Fr.snoc X3 N1 ga
      have q1 : own_pL p0 ln ac = ln := by unfold own_pL; rw [if_neg h10, if_neg h13]
      have q2 : own_pC p0 co ac = (co + (1 : Int32)) := by unfold own_pC; rw [if_neg h10, if_neg h13]
      have q3 : own_pA p0 = (0 : Int32) := by unfold own_pA; rw [if_neg h13]
      rw [q1, q2, q3]
      obtain ⟨fs, hr, hrun, hended, hW, hsame⟩ := X3.leave (v := none) (fun _ => rfl)
      refine ⟨_, _, pre0 _ ?_, hrun, hended, _, _, rfl, ?_, ⟨_, rfl⟩, hW, hsame.mono (by decide) (by decide)⟩
      · show Steps p.tables e below (s₁.setTop (mkF m 0 #[.val (.ref a1), .val (.int p0), .unset] [])) _
        refine XS.iloadN X0.here hx rfl (hb hby own_dPS_0) rfl ?_
        show Steps p.tables e below (s₁.setTop (mkF m 1 #[.val (.ref a1), .val (.int p0), .unset] [(.int p0)])) _
        refine XS.bipush X0.here hx rfl (hb hby own_dPS_1) ?_
        show Steps p.tables e below (s₁.setTop (mkF m 3 #[.val (.ref a1), .val (.int p0), .unset] [(.int (10 : Int32)), (.int p0)])) _
        refine XS.icmpYes X0.here hx rfl (pc0 := 3) (pc' := 17) rfl (hb hby own_dPS_3) rfl (feq h10).2 (by decide) (by decide) ?_
        show Steps p.tables e below (s₁.setTop (mkF m 17 #[.val (.ref a1), .val (.int p0), .unset] [])) _
        refine XS.iconst X0.here hx rfl (hb hby own_dPS_17) ?_
        show Steps p.tables e below (s₁.setTop (mkF m 18 #[.val (.ref a1), .val (.int p0), .unset] [(.int (0 : Int32))])) _
        refine XS.istoreN X0.here hx rfl (hb hby own_dPS_18) rfl (l' := #[.val (.ref a1), .val (.int p0), .val (.int (0 : Int32))]) rfl ?_
        show Steps p.tables e below (s₁.setTop (mkF m 19 #[.val (.ref a1), .val (.int p0), .val (.int (0 : Int32))] [])) _
        refine XS.aloadN X0.here hx rfl (hb hby own_dPS_19) rfl rfl ?_
        show Steps p.tables e below (s₁.setTop (mkF m 20 #[.val (.ref a1), .val (.int p0), .val (.int (0 : Int32))] [(.ref a1)])) _
        refine XS.iloadN X0.here hx rfl (hb hby own_dPS_20) rfl ?_
        show Steps p.tables e below (s₁.setTop (mkF m 21 #[.val (.ref a1), .val (.int p0), .val (.int (0 : Int32))] [(.int p0), (.ref a1)])) _
        refine XS.bipush X0.here hx rfl (hb hby own_dPS_21) ?_
        show Steps p.tables e below (s₁.setTop (mkF m 23 #[.val (.ref a1), .val (.int p0), .val (.int (0 : Int32))] [(.int (13 : Int32)), (.int p0), (.ref a1)])) _
        refine XS.icmpYes X0.here hx rfl (pc0 := 23) (pc' := 30) rfl (hb hby own_dPS_23) rfl (feq h13).2 (by decide) (by decide) ?_
        show Steps p.tables e below (s₁.setTop (mkF m 30 #[.val (.ref a1), .val (.int p0), .val (.int (0 : Int32))] [(.ref a1)])) _
        refine XS.iconst X0.here hx rfl (hb hby own_dPS_30) ?_
        show Steps p.tables e below (s₁.setTop (mkF m 31 #[.val (.ref a1), .val (.int p0), .val (.int (0 : Int32))] [(.int (0 : Int32)), (.ref a1)])) _
        refine st1 _ ?_
        show Steps p.tables e below (T1.setTop (mkF m 34 #[.val (.ref a1), .val (.int p0), .val (.int (0 : Int32))] [])) _
        refine XS.iloadN X1.here hx rfl (hb hby own_dPS_34) rfl ?_
        show Steps p.tables e below (T1.setTop (mkF m 35 #[.val (.ref a1), .val (.int p0), .val (.int (0 : Int32))] [(.int (0 : Int32))])) _
        refine XS.ifYes X1.here hx rfl (pc0 := 35) (pc' := 39) rfl (hb hby own_dPS_35) rfl (by decide) (by decide) (by decide) ?_
        show Steps p.tables e below (T1.setTop (mkF m 39 #[.val (.ref a1), .val (.int p0), .val (.int (0 : Int32))] [])) _
        refine XS.iloadN X1.here hx rfl (hb hby own_dPS_39) rfl ?_
        show Steps p.tables e below (T1.setTop (mkF m 40 #[.val (.ref a1), .val (.int p0), .val (.int (0 : Int32))] [(.int p0)])) _
        refine XS.bipush X1.here hx rfl (hb hby own_dPS_40) ?_
        show Steps p.tables e below (T1.setTop (mkF m 42 #[.val (.ref a1), .val (.int p0), .val (.int (0 : Int32))] [(.int (10 : Int32)), (.int p0)])) _
        refine XS.icmpNo X1.here hx rfl (hb hby own_dPS_42) rfl (feq h10).1 ?_
        show Steps p.tables e below (T1.setTop (mkF m 45 #[.val (.ref a1), .val (.int p0), .val (.int (0 : Int32))] [])) _
        refine XS.iloadN X1.here hx rfl (hb hby own_dPS_45) rfl ?_
        show Steps p.tables e below (T1.setTop (mkF m 46 #[.val (.ref a1), .val (.int p0), .val (.int (0 : Int32))] [(.int p0)])) _
        refine XS.bipush X1.here hx rfl (hb hby own_dPS_46) ?_
        show Steps p.tables e below (T1.setTop (mkF m 48 #[.val (.ref a1), .val (.int p0), .val (.int (0 : Int32))] [(.int (13 : Int32)), (.int p0)])) _
        refine XS.icmpYes X1.here hx rfl (pc0 := 48) (pc' := 69) rfl (hb hby own_dPS_48) rfl (feq h13).2 (by decide) (by decide) ?_
        show Steps p.tables e below (T1.setTop (mkF m 69 #[.val (.ref a1), .val (.int p0), .val (.int (0 : Int32))] [])) _
        refine XS.aloadN X1.here hx rfl (hb hby own_dPS_69) rfl rfl ?_
        show Steps p.tables e below (T1.setTop (mkF m 70 #[.val (.ref a1), .val (.int p0), .val (.int (0 : Int32))] [(.ref a1)])) _
        refine XS.dup X1.here hx rfl (hb hby own_dPS_70) rfl rfl ?_
        show Steps p.tables e below (T1.setTop (mkF m 71 #[.val (.ref a1), .val (.int p0), .val (.int (0 : Int32))] [(.ref a1), (.ref a1)])) _
        refine st2 _ ?_
        show Steps p.tables e below (T2.setTop (mkF m 74 #[.val (.ref a1), .val (.int p0), .val (.int (0 : Int32))] [(.int co), (.ref a1)])) _
        refine XS.iconst X2.here hx rfl (hb hby own_dPS_74) ?_
        show Steps p.tables e below (T2.setTop (mkF m 75 #[.val (.ref a1), .val (.int p0), .val (.int (0 : Int32))] [(.int (1 : Int32)), (.int co), (.ref a1)])) _
        refine XS.iadd X2.here hx rfl (hb hby own_dPS_75) rfl ?_
        show Steps p.tables e below (T2.setTop (mkF m 76 #[.val (.ref a1), .val (.int p0), .val (.int (0 : Int32))] [(.int (co + (1 : Int32))), (.ref a1)])) _
        refine st3 _ ?_
        show Steps p.tables e below (T3.setTop (mkF m 79 #[.val (.ref a1), .val (.int p0), .val (.int (0 : Int32))] [])) _
        exact X3.returnOut hx Bd.returns (hb hby own_dPS_79) hr
      · show own_QP Z a1 _ _ _ h0 n0 _ T3.heap _
        rw [e3]
        exact ⟨rfl, N3, K3, P3⟩
theorem own_dCO_0 : decode method_5_code 0 = .ok (.iload_n 1, 1) := by decide +kernel
theorem own_dCO_1 : decode method_5_code 1 = .ok (.iconst 1, 1) := by decide +kernel
theorem own_dCO_2 : decode method_5_code 2 = .ok (.if_icmp .lt 16, 3) := by decide +kernel
theorem own_dCO_5 : decode method_5_code 5 = .ok (.aload_n 0, 1) := by decide +kernel
theorem own_dCO_6 : decode method_5_code 6 = .ok (.iload_n 1, 1) := by decide +kernel
theorem own_dCO_7 : decode method_5_code 7 = .ok (.iconst 1, 1) := by decide +kernel
theorem own_dCO_8 : decode method_5_code 8 = .ok (.isub, 1) := by decide +kernel
theorem own_dCO_9 : decode method_5_code 9 = .ok (.caload, 1) := by decide +kernel
theorem own_dCO_10 : decode method_5_code 10 = .ok (.invokestatic 7, 3) := by decide +kernel
theorem own_dCO_13 : decode method_5_code 13 = .ok (.ifCond .eq 5, 3) := by decide +kernel
theorem own_dCO_16 : decode method_5_code 16 = .ok (.iconst 0, 1) := by decide +kernel
theorem own_dCO_17 : decode method_5_code 17 = .ok (.ireturn, 1) := by decide +kernel
theorem own_dCO_18 : decode method_5_code 18 = .ok (.iload_n 1, 1) := by decide +kernel
theorem own_dCO_19 : decode method_5_code 19 = .ok (.iconst 2, 1) := by decide +kernel
theorem own_dCO_20 : decode method_5_code 20 = .ok (.if_icmp .lt 16, 3) := by decide +kernel
theorem own_dCO_23 : decode method_5_code 23 = .ok (.aload_n 0, 1) := by decide +kernel
theorem own_dCO_24 : decode method_5_code 24 = .ok (.iload_n 1, 1) := by decide +kernel
theorem own_dCO_25 : decode method_5_code 25 = .ok (.iconst 2, 1) := by decide +kernel
theorem own_dCO_26 : decode method_5_code 26 = .ok (.isub, 1) := by decide +kernel
theorem own_dCO_27 : decode method_5_code 27 = .ok (.caload, 1) := by decide +kernel
theorem own_dCO_28 : decode method_5_code 28 = .ok (.invokestatic 7, 3) := by decide +kernel
theorem own_dCO_31 : decode method_5_code 31 = .ok (.ifCond .eq 5, 3) := by decide +kernel
theorem own_dCO_34 : decode method_5_code 34 = .ok (.iconst 1, 1) := by decide +kernel
theorem own_dCO_35 : decode method_5_code 35 = .ok (.ireturn, 1) := by decide +kernel
theorem own_dCO_36 : decode method_5_code 36 = .ok (.iload_n 1, 1) := by decide +kernel
theorem own_dCO_37 : decode method_5_code 37 = .ok (.iconst 3, 1) := by decide +kernel
theorem own_dCO_38 : decode method_5_code 38 = .ok (.if_icmp .lt 16, 3) := by decide +kernel
theorem own_dCO_41 : decode method_5_code 41 = .ok (.aload_n 0, 1) := by decide +kernel
theorem own_dCO_42 : decode method_5_code 42 = .ok (.iload_n 1, 1) := by decide +kernel
theorem own_dCO_43 : decode method_5_code 43 = .ok (.iconst 3, 1) := by decide +kernel
theorem own_dCO_44 : decode method_5_code 44 = .ok (.isub, 1) := by decide +kernel
theorem own_dCO_45 : decode method_5_code 45 = .ok (.caload, 1) := by decide +kernel
theorem own_dCO_46 : decode method_5_code 46 = .ok (.invokestatic 7, 3) := by decide +kernel
theorem own_dCO_49 : decode method_5_code 49 = .ok (.ifCond .eq 5, 3) := by decide +kernel
theorem own_dCO_52 : decode method_5_code 52 = .ok (.iconst 2, 1) := by decide +kernel
theorem own_dCO_53 : decode method_5_code 53 = .ok (.ireturn, 1) := by decide +kernel
theorem own_dCO_54 : decode method_5_code 54 = .ok (.iload_n 1, 1) := by decide +kernel
theorem own_dCO_55 : decode method_5_code 55 = .ok (.ireturn, 1) := by decide +kernel
theorem own_pnCO : plainName "com/example/amberwire/amberwire/core/text/PlaceCounterPassPinLaw" = true := by first | (simp [plainName, overriddenIn]; done) | decide +kernel
theorem own_pdCO : parseMethodDescriptor "([CI)I" = some ⟨[(.array .char), .int], some .int⟩ := by decide +kernel
theorem own_efCO (m : MethodId) (x0 : Addr) (x1 : Int32) : entryFrame m #[(.ref x0), (.int x1)] 2 = mkF m 0 #[.val (.ref x0), .val (.int x1)] [] := by first | (simp [entryFrame, mkF, argsToLocals, Value.category]; done) | rfl
def own_col1 (v0 v1 v2 : Int32) : Int32 := (bif ifCond.holds .eq (nar .boolean (own_fE_0 v0)) then (1 : Int32) else (0 : Int32))
set_option maxRecDepth 65536 in
set_option maxHeartbeats 40000000 in
theorem own_rmCO1 (l : Launch) (Z : State) (a0 : Array Value) (hw : ∀ d ∈ tables_1, d.before a0 Z = true) (ws : List Jvm.Cond) (b1 : Addr) (h0 : Heap) (n0 : Nat) (v0 v1 v2 : Int32) (V : own_A3 Z h0 b1 v0 v1 v2) :
    MetFree l (⟨"com/example/amberwire/amberwire/core/text/PlaceCounterPassPinLaw", "col", "([CI)I"⟩ : MethodName) (head1 (Jvm.Cond.code (⟨"com/example/amberwire/amberwire/core/text/PlaceCounterPassPinLaw", "col", "([CI)I"⟩ : MethodName) method_5_code 2 (some .int) :: ws) ({ frames := 1, cells := 0, slots := 0, locals := 12 } : Room)) (fun a U => a = #[(.ref b1), (.int (1 : Int32))] ∧ Z.Warmed39 U.vm ∧ U.heap = h0) (fun _ _ _ _ _ => True) (fun _ U o U' => ∃ v L, o = .returned v ∧ own_Q (some (.int (own_col1 v0 v1 v2))) h0 n0 v U'.heap L ∧ FrameEnd U o U' L ({ frames := 1, cells := 0, slots := 0, locals := 12 } : Room).cells ({ frames := 1, cells := 0, slots := 0, locals := 12 } : Room).slots) := by
  refine MetFree.of_bodySF (plainFor_of_name own_pnCO) hisR ?_
  intro p e s m args below meth c s₁ Bd hml0 hP hK
  obtain ⟨rfl, hZ, hh⟩ := hP
  have hx := Bd.exec
  have hby := Bd.bytes
  have hml : c.maxLocals = 2 := hml0
  have hown : s.vm.findClass "com/example/amberwire/amberwire/core/text/PlaceCounterPassPinLaw" = some m.cls := findClass_of_methodNamed Bd.named
  have hnm := (name_of_methodNamed Bd.named Bd.method).1
  have X0 : Stand p l e ({ frames := 1, cells := 0, slots := 0, locals := 12 } : Room) s m #[(.ref b1), (.int (1 : Int32))] below meth c s₁ [] 0 0 := Stand.of_body Bd
  have e0 : s₁.heap = h0 := by rw [← hh, Bd.state]; rfl
  have N0 := Fr.nil n0
  have pre0 : ∀ t, Steps p.tables e below (s₁.setTop (mkF m 0 #[.val (.ref b1), .val (.int (1 : Int32))] [])) t → Steps p.tables e below (s₁.setTop (entryFrame m #[(.ref b1), (.int (1 : Int32))] 2)) t := fun t k => castTop (own_efCO m b1 (1 : Int32)) k
  obtain ⟨cl, A, S3, y0, y1, y2⟩ := V
  obtain ⟨T1, L1, X1, e1, N1, st1⟩ := own_callS X0 hx hZ (y := (⟨"com/example/amberwire/amberwire/core/text/PlaceCounterPassPinLaw", "isEnd", "(C)Z"⟩ : MethodName)) hown (hw _ (List.mem_of_getElem? (i := 5) rfl)) (hw _ (List.mem_of_getElem? (i := 6) rfl)) (hw _ (List.mem_of_getElem? (i := 2) rfl)) (hw _ (List.mem_of_getElem? (i := 7) rfl)) (by decide) (W := 0) (own_rmE l Z a0 hw [] v0 h0 n0) (by decide) (by decide) (g := (mkF m 10 #[.val (.ref b1), .val (.int (1 : Int32))] [(.int v0)])) rfl (by rw [hml]; rfl) (rest := []) (lenOf own_pdE rfl) rfl (by show 2 * 0 + _ ≤ _; exact Nat.le_of_eq rfl) (hb hby own_dCO_10) (by decide) (by decide) e0 N0
  rcases own_tf (ifCond.holds .eq (nar .boolean (own_fE_0 v0))) with hc0 | hc0
  · have qv : own_col1 v0 v1 v2 = (1 : Int32) := (own_t hc0 rfl)
    obtain ⟨fs, hr, hrun, hended, hW, hsame⟩ := X1.leave (v := some (.int (1 : Int32))) (fun h => by rw [Bd.returns] at h; cases h)
    refine ⟨_, _, pre0 _ ?_, hrun, hended, _, _, rfl, ?_, ⟨_, rfl⟩, hW, hsame.mono (by decide) (by decide)⟩
    · show Steps p.tables e below (s₁.setTop (mkF m 0 #[.val (.ref b1), .val (.int (1 : Int32))] [])) _
      refine XS.iloadN X0.here hx rfl (hb hby own_dCO_0) rfl ?_
      show Steps p.tables e below (s₁.setTop (mkF m 1 #[.val (.ref b1), .val (.int (1 : Int32))] [(.int (1 : Int32))])) _
      refine XS.iconst X0.here hx rfl (hb hby own_dCO_1) ?_
      show Steps p.tables e below (s₁.setTop (mkF m 2 #[.val (.ref b1), .val (.int (1 : Int32))] [(.int (1 : Int32)), (.int (1 : Int32))])) _
      refine XS.icmpNo X0.here hx rfl (hb hby own_dCO_2) rfl (by decide) ?_
      show Steps p.tables e below (s₁.setTop (mkF m 5 #[.val (.ref b1), .val (.int (1 : Int32))] [])) _
      refine XS.aloadN X0.here hx rfl (hb hby own_dCO_5) rfl rfl ?_
      show Steps p.tables e below (s₁.setTop (mkF m 6 #[.val (.ref b1), .val (.int (1 : Int32))] [(.ref b1)])) _
      refine XS.iloadN X0.here hx rfl (hb hby own_dCO_6) rfl ?_
      show Steps p.tables e below (s₁.setTop (mkF m 7 #[.val (.ref b1), .val (.int (1 : Int32))] [(.int (1 : Int32)), (.ref b1)])) _
      refine XS.iconst X0.here hx rfl (hb hby own_dCO_7) ?_
      show Steps p.tables e below (s₁.setTop (mkF m 8 #[.val (.ref b1), .val (.int (1 : Int32))] [(.int (1 : Int32)), (.int (1 : Int32)), (.ref b1)])) _
      refine XS.isub X0.here hx rfl (hb hby own_dCO_8) rfl ?_
      show Steps p.tables e below (s₁.setTop (mkF m 9 #[.val (.ref b1), .val (.int (1 : Int32))] [(.int ((1 : Int32) - (1 : Int32))), (.ref b1)])) _
      refine X0.caload hx (j := ((1 : Int32) - (1 : Int32))) (v := .int v0) (by rw [e0]; exact A.1) (State.isArrayOf_alike hZ.alike A.2.1) A.2.2 (by rw [S3]; decide) y0 (g := (mkF m 9 #[.val (.ref b1), .val (.int (1 : Int32))] [(.int ((1 : Int32) - (1 : Int32))), (.ref b1)])) rfl rfl (hb hby own_dCO_9) _ ?_
      show Steps p.tables e below (s₁.setTop (mkF m 10 #[.val (.ref b1), .val (.int (1 : Int32))] [(.int v0)])) _
      refine st1 _ ?_
      show Steps p.tables e below (T1.setTop (mkF m 13 #[.val (.ref b1), .val (.int (1 : Int32))] [(.int (nar .boolean (own_fE_0 v0)))])) _
      refine XS.ifYes X1.here hx rfl (pc0 := 13) (pc' := 18) rfl (hb hby own_dCO_13) rfl hc0 (by decide) (by decide) ?_
      show Steps p.tables e below (T1.setTop (mkF m 18 #[.val (.ref b1), .val (.int (1 : Int32))] [])) _
      refine XS.iloadN X1.here hx rfl (hb hby own_dCO_18) rfl ?_
      show Steps p.tables e below (T1.setTop (mkF m 19 #[.val (.ref b1), .val (.int (1 : Int32))] [(.int (1 : Int32))])) _
      refine XS.iconst X1.here hx rfl (hb hby own_dCO_19) ?_
      show Steps p.tables e below (T1.setTop (mkF m 20 #[.val (.ref b1), .val (.int (1 : Int32))] [(.int (2 : Int32)), (.int (1 : Int32))])) _
      refine XS.icmpYes X1.here hx rfl (pc0 := 20) (pc' := 36) rfl (hb hby own_dCO_20) rfl (by decide) (by decide) (by decide) ?_
      show Steps p.tables e below (T1.setTop (mkF m 36 #[.val (.ref b1), .val (.int (1 : Int32))] [])) _
      refine XS.iloadN X1.here hx rfl (hb hby own_dCO_36) rfl ?_
      show Steps p.tables e below (T1.setTop (mkF m 37 #[.val (.ref b1), .val (.int (1 : Int32))] [(.int (1 : Int32))])) _
      refine XS.iconst X1.here hx rfl (hb hby own_dCO_37) ?_
      show Steps p.tables e below (T1.setTop (mkF m 38 #[.val (.ref b1), .val (.int (1 : Int32))] [(.int (3 : Int32)), (.int (1 : Int32))])) _
      refine XS.icmpYes X1.here hx rfl (pc0 := 38) (pc' := 54) rfl (hb hby own_dCO_38) rfl (by decide) (by decide) (by decide) ?_
      show Steps p.tables e below (T1.setTop (mkF m 54 #[.val (.ref b1), .val (.int (1 : Int32))] [])) _
      refine XS.iloadN X1.here hx rfl (hb hby own_dCO_54) rfl ?_
      show Steps p.tables e below (T1.setTop (mkF m 55 #[.val (.ref b1), .val (.int (1 : Int32))] [(.int (1 : Int32))])) _
      exact retI X1 hx Bd.returns (hb hby own_dCO_55) hr
    · show own_Q _ h0 n0 _ T1.heap _
      exact ⟨by rw [qv], N1, e1⟩
  · have qv : own_col1 v0 v1 v2 = (0 : Int32) := (own_f hc0 rfl)
    obtain ⟨fs, hr, hrun, hended, hW, hsame⟩ := X1.leave (v := some (.int (0 : Int32))) (fun h => by rw [Bd.returns] at h; cases h)
    refine ⟨_, _, pre0 _ ?_, hrun, hended, _, _, rfl, ?_, ⟨_, rfl⟩, hW, hsame.mono (by decide) (by decide)⟩
    · show Steps p.tables e below (s₁.setTop (mkF m 0 #[.val (.ref b1), .val (.int (1 : Int32))] [])) _
      refine XS.iloadN X0.here hx rfl (hb hby own_dCO_0) rfl ?_
      show Steps p.tables e below (s₁.setTop (mkF m 1 #[.val (.ref b1), .val (.int (1 : Int32))] [(.int (1 : Int32))])) _
      refine XS.iconst X0.here hx rfl (hb hby own_dCO_1) ?_
      show Steps p.tables e below (s₁.setTop (mkF m 2 #[.val (.ref b1), .val (.int (1 : Int32))] [(.int (1 : Int32)), (.int (1 : Int32))])) _
      refine XS.icmpNo X0.here hx rfl (hb hby own_dCO_2) rfl (by decide) ?_
      show Steps p.tables e below (s₁.setTop (mkF m 5 #[.val (.ref b1), .val (.int (1 : Int32))] [])) _
      refine XS.aloadN X0.here hx rfl (hb hby own_dCO_5) rfl rfl ?_
      show Steps p.tables e below (s₁.setTop (mkF m 6 #[.val (.ref b1), .val (.int (1 : Int32))] [(.ref b1)])) _
      refine XS.iloadN X0.here hx rfl (hb hby own_dCO_6) rfl ?_
      show Steps p.tables e below (s₁.setTop (mkF m 7 #[.val (.ref b1), .val (.int (1 : Int32))] [(.int (1 : Int32)), (.ref b1)])) _
      refine XS.iconst X0.here hx rfl (hb hby own_dCO_7) ?_
      show Steps p.tables e below (s₁.setTop (mkF m 8 #[.val (.ref b1), .val (.int (1 : Int32))] [(.int (1 : Int32)), (.int (1 : Int32)), (.ref b1)])) _
      refine XS.isub X0.here hx rfl (hb hby own_dCO_8) rfl ?_
      show Steps p.tables e below (s₁.setTop (mkF m 9 #[.val (.ref b1), .val (.int (1 : Int32))] [(.int ((1 : Int32) - (1 : Int32))), (.ref b1)])) _
      refine X0.caload hx (j := ((1 : Int32) - (1 : Int32))) (v := .int v0) (by rw [e0]; exact A.1) (State.isArrayOf_alike hZ.alike A.2.1) A.2.2 (by rw [S3]; decide) y0 (g := (mkF m 9 #[.val (.ref b1), .val (.int (1 : Int32))] [(.int ((1 : Int32) - (1 : Int32))), (.ref b1)])) rfl rfl (hb hby own_dCO_9) _ ?_
      show Steps p.tables e below (s₁.setTop (mkF m 10 #[.val (.ref b1), .val (.int (1 : Int32))] [(.int v0)])) _
      refine st1 _ ?_
      show Steps p.tables e below (T1.setTop (mkF m 13 #[.val (.ref b1), .val (.int (1 : Int32))] [(.int (nar .boolean (own_fE_0 v0)))])) _
      refine XS.ifNo X1.here hx rfl (hb hby own_dCO_13) rfl hc0 ?_
      show Steps p.tables e below (T1.setTop (mkF m 16 #[.val (.ref b1), .val (.int (1 : Int32))] [])) _
      refine XS.iconst X1.here hx rfl (hb hby own_dCO_16) ?_
      show Steps p.tables e below (T1.setTop (mkF m 17 #[.val (.ref b1), .val (.int (1 : Int32))] [(.int (0 : Int32))])) _
      exact retI X1 hx Bd.returns (hb hby own_dCO_17) hr
    · show own_Q _ h0 n0 _ T1.heap _
      exact ⟨by rw [qv], N1, e1⟩
def own_col2 (v0 v1 v2 : Int32) : Int32 := (bif ifCond.holds .eq (nar .boolean (own_fE_0 v1)) then (bif ifCond.holds .eq (nar .boolean (own_fE_0 v0)) then (2 : Int32) else (1 : Int32)) else (0 : Int32))
set_option maxRecDepth 65536 in
set_option maxHeartbeats 40000000 in
theorem own_rmCO2 (l : Launch) (Z : State) (a0 : Array Value) (hw : ∀ d ∈ tables_1, d.before a0 Z = true) (ws : List Jvm.Cond) (b1 : Addr) (h0 : Heap) (n0 : Nat) (v0 v1 v2 : Int32) (V : own_A3 Z h0 b1 v0 v1 v2) :
    MetFree l (⟨"com/example/amberwire/amberwire/core/text/PlaceCounterPassPinLaw", "col", "([CI)I"⟩ : MethodName) (head1 (Jvm.Cond.code (⟨"com/example/amberwire/amberwire/core/text/PlaceCounterPassPinLaw", "col", "([CI)I"⟩ : MethodName) method_5_code 2 (some .int) :: ws) ({ frames := 1, cells := 0, slots := 0, locals := 12 } : Room)) (fun a U => a = #[(.ref b1), (.int (2 : Int32))] ∧ Z.Warmed39 U.vm ∧ U.heap = h0) (fun _ _ _ _ _ => True) (fun _ U o U' => ∃ v L, o = .returned v ∧ own_Q (some (.int (own_col2 v0 v1 v2))) h0 n0 v U'.heap L ∧ FrameEnd U o U' L ({ frames := 1, cells := 0, slots := 0, locals := 12 } : Room).cells ({ frames := 1, cells := 0, slots := 0, locals := 12 } : Room).slots) := by
  refine MetFree.of_bodySF (plainFor_of_name own_pnCO) hisR ?_
  intro p e s m args below meth c s₁ Bd hml0 hP hK
  obtain ⟨rfl, hZ, hh⟩ := hP
  have hx := Bd.exec
  have hby := Bd.bytes
  have hml : c.maxLocals = 2 := hml0
  have hown : s.vm.findClass "com/example/amberwire/amberwire/core/text/PlaceCounterPassPinLaw" = some m.cls := findClass_of_methodNamed Bd.named
  have hnm := (name_of_methodNamed Bd.named Bd.method).1
  have X0 : Stand p l e ({ frames := 1, cells := 0, slots := 0, locals := 12 } : Room) s m #[(.ref b1), (.int (2 : Int32))] below meth c s₁ [] 0 0 := Stand.of_body Bd
  have e0 : s₁.heap = h0 := by rw [← hh, Bd.state]; rfl
  have N0 := Fr.nil n0
  have pre0 : ∀ t, Steps p.tables e below (s₁.setTop (mkF m 0 #[.val (.ref b1), .val (.int (2 : Int32))] [])) t → Steps p.tables e below (s₁.setTop (entryFrame m #[(.ref b1), (.int (2 : Int32))] 2)) t := fun t k => castTop (own_efCO m b1 (2 : Int32)) k
  obtain ⟨cl, A, S3, y0, y1, y2⟩ := V
  obtain ⟨T1, L1, X1, e1, N1, st1⟩ := own_callS X0 hx hZ (y := (⟨"com/example/amberwire/amberwire/core/text/PlaceCounterPassPinLaw", "isEnd", "(C)Z"⟩ : MethodName)) hown (hw _ (List.mem_of_getElem? (i := 5) rfl)) (hw _ (List.mem_of_getElem? (i := 6) rfl)) (hw _ (List.mem_of_getElem? (i := 2) rfl)) (hw _ (List.mem_of_getElem? (i := 7) rfl)) (by decide) (W := 0) (own_rmE l Z a0 hw [] v1 h0 n0) (by decide) (by decide) (g := (mkF m 10 #[.val (.ref b1), .val (.int (2 : Int32))] [(.int v1)])) rfl (by rw [hml]; rfl) (rest := []) (lenOf own_pdE rfl) rfl (by show 2 * 0 + _ ≤ _; exact Nat.le_of_eq rfl) (hb hby own_dCO_10) (by decide) (by decide) e0 N0
  rcases own_tf (ifCond.holds .eq (nar .boolean (own_fE_0 v1))) with hc0 | hc0
  · obtain ⟨T2, L2, X2, e2, N2, st2⟩ := own_callS X1 hx hZ (y := (⟨"com/example/amberwire/amberwire/core/text/PlaceCounterPassPinLaw", "isEnd", "(C)Z"⟩ : MethodName)) hown (hw _ (List.mem_of_getElem? (i := 5) rfl)) (hw _ (List.mem_of_getElem? (i := 6) rfl)) (hw _ (List.mem_of_getElem? (i := 2) rfl)) (hw _ (List.mem_of_getElem? (i := 7) rfl)) (by decide) (W := 0) (own_rmE l Z a0 hw [] v0 h0 n0) (by decide) (by decide) (g := (mkF m 28 #[.val (.ref b1), .val (.int (2 : Int32))] [(.int v0)])) rfl (by rw [hml]; rfl) (rest := []) (lenOf own_pdE rfl) rfl (by show 2 * 0 + _ ≤ _; exact Nat.le_of_eq rfl) (hb hby own_dCO_28) (by decide) (by decide) e1 N1
    rcases own_tf (ifCond.holds .eq (nar .boolean (own_fE_0 v0))) with hc1 | hc1
    · have qv : own_col2 v0 v1 v2 = (2 : Int32) := (own_t hc0 (own_t hc1 rfl))
      obtain ⟨fs, hr, hrun, hended, hW, hsame⟩ := X2.leave (v := some (.int (2 : Int32))) (fun h => by rw [Bd.returns] at h; cases h)
      refine ⟨_, _, pre0 _ ?_, hrun, hended, _, _, rfl, ?_, ⟨_, rfl⟩, hW, hsame.mono (by decide) (by decide)⟩
      · show Steps p.tables e below (s₁.setTop (mkF m 0 #[.val (.ref b1), .val (.int (2 : Int32))] [])) _
        refine XS.iloadN X0.here hx rfl (hb hby own_dCO_0) rfl ?_
        show Steps p.tables e below (s₁.setTop (mkF m 1 #[.val (.ref b1), .val (.int (2 : Int32))] [(.int (2 : Int32))])) _
        refine XS.iconst X0.here hx rfl (hb hby own_dCO_1) ?_
        show Steps p.tables e below (s₁.setTop (mkF m 2 #[.val (.ref b1), .val (.int (2 : Int32))] [(.int (1 : Int32)), (.int (2 : Int32))])) _
        refine XS.icmpNo X0.here hx rfl (hb hby own_dCO_2) rfl (by decide) ?_
        show Steps p.tables e below (s₁.setTop (mkF m 5 #[.val (.ref b1), .val (.int (2 : Int32))] [])) _
        refine XS.aloadN X0.here hx rfl (hb hby own_dCO_5) rfl rfl ?_
        show Steps p.tables e below (s₁.setTop (mkF m 6 #[.val (.ref b1), .val (.int (2 : Int32))] [(.ref b1)])) _
        refine XS.iloadN X0.here hx rfl (hb hby own_dCO_6) rfl ?_
        show Steps p.tables e below (s₁.setTop (mkF m 7 #[.val (.ref b1), .val (.int (2 : Int32))] [(.int (2 : Int32)), (.ref b1)])) _
        refine XS.iconst X0.here hx rfl (hb hby own_dCO_7) ?_
        show Steps p.tables e below (s₁.setTop (mkF m 8 #[.val (.ref b1), .val (.int (2 : Int32))] [(.int (1 : Int32)), (.int (2 : Int32)), (.ref b1)])) _
        refine XS.isub X0.here hx rfl (hb hby own_dCO_8) rfl ?_
        show Steps p.tables e below (s₁.setTop (mkF m 9 #[.val (.ref b1), .val (.int (2 : Int32))] [(.int ((2 : Int32) - (1 : Int32))), (.ref b1)])) _
        refine X0.caload hx (j := ((2 : Int32) - (1 : Int32))) (v := .int v1) (by rw [e0]; exact A.1) (State.isArrayOf_alike hZ.alike A.2.1) A.2.2 (by rw [S3]; decide) y1 (g := (mkF m 9 #[.val (.ref b1), .val (.int (2 : Int32))] [(.int ((2 : Int32) - (1 : Int32))), (.ref b1)])) rfl rfl (hb hby own_dCO_9) _ ?_
        show Steps p.tables e below (s₁.setTop (mkF m 10 #[.val (.ref b1), .val (.int (2 : Int32))] [(.int v1)])) _
        refine st1 _ ?_
        show Steps p.tables e below (T1.setTop (mkF m 13 #[.val (.ref b1), .val (.int (2 : Int32))] [(.int (nar .boolean (own_fE_0 v1)))])) _
        refine XS.ifYes X1.here hx rfl (pc0 := 13) (pc' := 18) rfl (hb hby own_dCO_13) rfl hc0 (by decide) (by decide) ?_
        show Steps p.tables e below (T1.setTop (mkF m 18 #[.val (.ref b1), .val (.int (2 : Int32))] [])) _
        refine XS.iloadN X1.here hx rfl (hb hby own_dCO_18) rfl ?_
        show Steps p.tables e below (T1.setTop (mkF m 19 #[.val (.ref b1), .val (.int (2 : Int32))] [(.int (2 : Int32))])) _
        refine XS.iconst X1.here hx rfl (hb hby own_dCO_19) ?_
        show Steps p.tables e below (T1.setTop (mkF m 20 #[.val (.ref b1), .val (.int (2 : Int32))] [(.int (2 : Int32)), (.int (2 : Int32))])) _
        refine XS.icmpNo X1.here hx rfl (hb hby own_dCO_20) rfl (by decide) ?_
        show Steps p.tables e below (T1.setTop (mkF m 23 #[.val (.ref b1), .val (.int (2 : Int32))] [])) _
        refine XS.aloadN X1.here hx rfl (hb hby own_dCO_23) rfl rfl ?_
        show Steps p.tables e below (T1.setTop (mkF m 24 #[.val (.ref b1), .val (.int (2 : Int32))] [(.ref b1)])) _
        refine XS.iloadN X1.here hx rfl (hb hby own_dCO_24) rfl ?_
        show Steps p.tables e below (T1.setTop (mkF m 25 #[.val (.ref b1), .val (.int (2 : Int32))] [(.int (2 : Int32)), (.ref b1)])) _
        refine XS.iconst X1.here hx rfl (hb hby own_dCO_25) ?_
        show Steps p.tables e below (T1.setTop (mkF m 26 #[.val (.ref b1), .val (.int (2 : Int32))] [(.int (2 : Int32)), (.int (2 : Int32)), (.ref b1)])) _
        refine XS.isub X1.here hx rfl (hb hby own_dCO_26) rfl ?_
        show Steps p.tables e below (T1.setTop (mkF m 27 #[.val (.ref b1), .val (.int (2 : Int32))] [(.int ((2 : Int32) - (2 : Int32))), (.ref b1)])) _
        refine X1.caload hx (j := ((2 : Int32) - (2 : Int32))) (v := .int v0) (by rw [e1]; exact A.1) (State.isArrayOf_alike hZ.alike A.2.1) A.2.2 (by rw [S3]; decide) y0 (g := (mkF m 27 #[.val (.ref b1), .val (.int (2 : Int32))] [(.int ((2 : Int32) - (2 : Int32))), (.ref b1)])) rfl rfl (hb hby own_dCO_27) _ ?_
        show Steps p.tables e below (T1.setTop (mkF m 28 #[.val (.ref b1), .val (.int (2 : Int32))] [(.int v0)])) _
        refine st2 _ ?_
        show Steps p.tables e below (T2.setTop (mkF m 31 #[.val (.ref b1), .val (.int (2 : Int32))] [(.int (nar .boolean (own_fE_0 v0)))])) _
        refine XS.ifYes X2.here hx rfl (pc0 := 31) (pc' := 36) rfl (hb hby own_dCO_31) rfl hc1 (by decide) (by decide) ?_
        show Steps p.tables e below (T2.setTop (mkF m 36 #[.val (.ref b1), .val (.int (2 : Int32))] [])) _
        refine XS.iloadN X2.here hx rfl (hb hby own_dCO_36) rfl ?_
        show Steps p.tables e below (T2.setTop (mkF m 37 #[.val (.ref b1), .val (.int (2 : Int32))] [(.int (2 : Int32))])) _
        refine XS.iconst X2.here hx rfl (hb hby own_dCO_37) ?_
        show Steps p.tables e below (T2.setTop (mkF m 38 #[.val (.ref b1), .val (.int (2 : Int32))] [(.int (3 : Int32)), (.int (2 : Int32))])) _
        refine XS.icmpYes X2.here hx rfl (pc0 := 38) (pc' := 54) rfl (hb hby own_dCO_38) rfl (by decide) (by decide) (by decide) ?_
        show Steps p.tables e below (T2.setTop (mkF m 54 #[.val (.ref b1), .val (.int (2 : Int32))] [])) _
        refine XS.iloadN X2.here hx rfl (hb hby own_dCO_54) rfl ?_
        show Steps p.tables e below (T2.setTop (mkF m 55 #[.val (.ref b1), .val (.int (2 : Int32))] [(.int (2 : Int32))])) _
        exact retI X2 hx Bd.returns (hb hby own_dCO_55) hr
      · show own_Q _ h0 n0 _ T2.heap _
        exact ⟨by rw [qv], N2, e2⟩
    · have qv : own_col2 v0 v1 v2 = (1 : Int32) := (own_t hc0 (own_f hc1 rfl))
      obtain ⟨fs, hr, hrun, hended, hW, hsame⟩ := X2.leave (v := some (.int (1 : Int32))) (fun h => by rw [Bd.returns] at h; cases h)
      refine ⟨_, _, pre0 _ ?_, hrun, hended, _, _, rfl, ?_, ⟨_, rfl⟩, hW, hsame.mono (by decide) (by decide)⟩
      · show Steps p.tables e below (s₁.setTop (mkF m 0 #[.val (.ref b1), .val (.int (2 : Int32))] [])) _
        refine XS.iloadN X0.here hx rfl (hb hby own_dCO_0) rfl ?_
        show Steps p.tables e below (s₁.setTop (mkF m 1 #[.val (.ref b1), .val (.int (2 : Int32))] [(.int (2 : Int32))])) _
        refine XS.iconst X0.here hx rfl (hb hby own_dCO_1) ?_
        show Steps p.tables e below (s₁.setTop (mkF m 2 #[.val (.ref b1), .val (.int (2 : Int32))] [(.int (1 : Int32)), (.int (2 : Int32))])) _
        refine XS.icmpNo X0.here hx rfl (hb hby own_dCO_2) rfl (by decide) ?_
        show Steps p.tables e below (s₁.setTop (mkF m 5 #[.val (.ref b1), .val (.int (2 : Int32))] [])) _
        refine XS.aloadN X0.here hx rfl (hb hby own_dCO_5) rfl rfl ?_
        show Steps p.tables e below (s₁.setTop (mkF m 6 #[.val (.ref b1), .val (.int (2 : Int32))] [(.ref b1)])) _
        refine XS.iloadN X0.here hx rfl (hb hby own_dCO_6) rfl ?_
        show Steps p.tables e below (s₁.setTop (mkF m 7 #[.val (.ref b1), .val (.int (2 : Int32))] [(.int (2 : Int32)), (.ref b1)])) _
        refine XS.iconst X0.here hx rfl (hb hby own_dCO_7) ?_
        show Steps p.tables e below (s₁.setTop (mkF m 8 #[.val (.ref b1), .val (.int (2 : Int32))] [(.int (1 : Int32)), (.int (2 : Int32)), (.ref b1)])) _
        refine XS.isub X0.here hx rfl (hb hby own_dCO_8) rfl ?_
        show Steps p.tables e below (s₁.setTop (mkF m 9 #[.val (.ref b1), .val (.int (2 : Int32))] [(.int ((2 : Int32) - (1 : Int32))), (.ref b1)])) _
        refine X0.caload hx (j := ((2 : Int32) - (1 : Int32))) (v := .int v1) (by rw [e0]; exact A.1) (State.isArrayOf_alike hZ.alike A.2.1) A.2.2 (by rw [S3]; decide) y1 (g := (mkF m 9 #[.val (.ref b1), .val (.int (2 : Int32))] [(.int ((2 : Int32) - (1 : Int32))), (.ref b1)])) rfl rfl (hb hby own_dCO_9) _ ?_
        show Steps p.tables e below (s₁.setTop (mkF m 10 #[.val (.ref b1), .val (.int (2 : Int32))] [(.int v1)])) _
        refine st1 _ ?_
        show Steps p.tables e below (T1.setTop (mkF m 13 #[.val (.ref b1), .val (.int (2 : Int32))] [(.int (nar .boolean (own_fE_0 v1)))])) _
        refine XS.ifYes X1.here hx rfl (pc0 := 13) (pc' := 18) rfl (hb hby own_dCO_13) rfl hc0 (by decide) (by decide) ?_
        show Steps p.tables e below (T1.setTop (mkF m 18 #[.val (.ref b1), .val (.int (2 : Int32))] [])) _
        refine XS.iloadN X1.here hx rfl (hb hby own_dCO_18) rfl ?_
        show Steps p.tables e below (T1.setTop (mkF m 19 #[.val (.ref b1), .val (.int (2 : Int32))] [(.int (2 : Int32))])) _
        refine XS.iconst X1.here hx rfl (hb hby own_dCO_19) ?_
        show Steps p.tables e below (T1.setTop (mkF m 20 #[.val (.ref b1), .val (.int (2 : Int32))] [(.int (2 : Int32)), (.int (2 : Int32))])) _
        refine XS.icmpNo X1.here hx rfl (hb hby own_dCO_20) rfl (by decide) ?_
        show Steps p.tables e below (T1.setTop (mkF m 23 #[.val (.ref b1), .val (.int (2 : Int32))] [])) _
        refine XS.aloadN X1.here hx rfl (hb hby own_dCO_23) rfl rfl ?_
        show Steps p.tables e below (T1.setTop (mkF m 24 #[.val (.ref b1), .val (.int (2 : Int32))] [(.ref b1)])) _
        refine XS.iloadN X1.here hx rfl (hb hby own_dCO_24) rfl ?_
        show Steps p.tables e below (T1.setTop (mkF m 25 #[.val (.ref b1), .val (.int (2 : Int32))] [(.int (2 : Int32)), (.ref b1)])) _
        refine XS.iconst X1.here hx rfl (hb hby own_dCO_25) ?_
        show Steps p.tables e below (T1.setTop (mkF m 26 #[.val (.ref b1), .val (.int (2 : Int32))] [(.int (2 : Int32)), (.int (2 : Int32)), (.ref b1)])) _
        refine XS.isub X1.here hx rfl (hb hby own_dCO_26) rfl ?_
        show Steps p.tables e below (T1.setTop (mkF m 27 #[.val (.ref b1), .val (.int (2 : Int32))] [(.int ((2 : Int32) - (2 : Int32))), (.ref b1)])) _
        refine X1.caload hx (j := ((2 : Int32) - (2 : Int32))) (v := .int v0) (by rw [e1]; exact A.1) (State.isArrayOf_alike hZ.alike A.2.1) A.2.2 (by rw [S3]; decide) y0 (g := (mkF m 27 #[.val (.ref b1), .val (.int (2 : Int32))] [(.int ((2 : Int32) - (2 : Int32))), (.ref b1)])) rfl rfl (hb hby own_dCO_27) _ ?_
        show Steps p.tables e below (T1.setTop (mkF m 28 #[.val (.ref b1), .val (.int (2 : Int32))] [(.int v0)])) _
        refine st2 _ ?_
        show Steps p.tables e below (T2.setTop (mkF m 31 #[.val (.ref b1), .val (.int (2 : Int32))] [(.int (nar .boolean (own_fE_0 v0)))])) _
        refine XS.ifNo X2.here hx rfl (hb hby own_dCO_31) rfl hc1 ?_
        show Steps p.tables e below (T2.setTop (mkF m 34 #[.val (.ref b1), .val (.int (2 : Int32))] [])) _
        refine XS.iconst X2.here hx rfl (hb hby own_dCO_34) ?_
        show Steps p.tables e below (T2.setTop (mkF m 35 #[.val (.ref b1), .val (.int (2 : Int32))] [(.int (1 : Int32))])) _
        exact retI X2 hx Bd.returns (hb hby own_dCO_35) hr
      · show own_Q _ h0 n0 _ T2.heap _
        exact ⟨by rw [qv], N2, e2⟩
  · have qv : own_col2 v0 v1 v2 = (0 : Int32) := (own_f hc0 rfl)
    obtain ⟨fs, hr, hrun, hended, hW, hsame⟩ := X1.leave (v := some (.int (0 : Int32))) (fun h => by rw [Bd.returns] at h; cases h)
    refine ⟨_, _, pre0 _ ?_, hrun, hended, _, _, rfl, ?_, ⟨_, rfl⟩, hW, hsame.mono (by decide) (by decide)⟩
    · show Steps p.tables e below (s₁.setTop (mkF m 0 #[.val (.ref b1), .val (.int (2 : Int32))] [])) _
      refine XS.iloadN X0.here hx rfl (hb hby own_dCO_0) rfl ?_
      show Steps p.tables e below (s₁.setTop (mkF m 1 #[.val (.ref b1), .val (.int (2 : Int32))] [(.int (2 : Int32))])) _
      refine XS.iconst X0.here hx rfl (hb hby own_dCO_1) ?_
      show Steps p.tables e below (s₁.setTop (mkF m 2 #[.val (.ref b1), .val (.int (2 : Int32))] [(.int (1 : Int32)), (.int (2 : Int32))])) _
      refine XS.icmpNo X0.here hx rfl (hb hby own_dCO_2) rfl (by decide) ?_
      show Steps p.tables e below (s₁.setTop (mkF m 5 #[.val (.ref b1), .val (.int (2 : Int32))] [])) _
      refine XS.aloadN X0.here hx rfl (hb hby own_dCO_5) rfl rfl ?_
      show Steps p.tables e below (s₁.setTop (mkF m 6 #[.val (.ref b1), .val (.int (2 : Int32))] [(.ref b1)])) _
      refine XS.iloadN X0.here hx rfl (hb hby own_dCO_6) rfl ?_
      show Steps p.tables e below (s₁.setTop (mkF m 7 #[.val (.ref b1), .val (.int (2 : Int32))] [(.int (2 : Int32)), (.ref b1)])) _
      refine XS.iconst X0.here hx rfl (hb hby own_dCO_7) ?_
      show Steps p.tables e below (s₁.setTop (mkF m 8 #[.val (.ref b1), .val (.int (2 : Int32))] [(.int (1 : Int32)), (.int (2 : Int32)), (.ref b1)])) _
      refine XS.isub X0.here hx rfl (hb hby own_dCO_8) rfl ?_
      show Steps p.tables e below (s₁.setTop (mkF m 9 #[.val (.ref b1), .val (.int (2 : Int32))] [(.int ((2 : Int32) - (1 : Int32))), (.ref b1)])) _
      refine X0.caload hx (j := ((2 : Int32) - (1 : Int32))) (v := .int v1) (by rw [e0]; exact A.1) (State.isArrayOf_alike hZ.alike A.2.1) A.2.2 (by rw [S3]; decide) y1 (g := (mkF m 9 #[.val (.ref b1), .val (.int (2 : Int32))] [(.int ((2 : Int32) - (1 : Int32))), (.ref b1)])) rfl rfl (hb hby own_dCO_9) _ ?_
      show Steps p.tables e below (s₁.setTop (mkF m 10 #[.val (.ref b1), .val (.int (2 : Int32))] [(.int v1)])) _
      refine st1 _ ?_
      show Steps p.tables e below (T1.setTop (mkF m 13 #[.val (.ref b1), .val (.int (2 : Int32))] [(.int (nar .boolean (own_fE_0 v1)))])) _
      refine XS.ifNo X1.here hx rfl (hb hby own_dCO_13) rfl hc0 ?_
      show Steps p.tables e below (T1.setTop (mkF m 16 #[.val (.ref b1), .val (.int (2 : Int32))] [])) _
      refine XS.iconst X1.here hx rfl (hb hby own_dCO_16) ?_
      show Steps p.tables e below (T1.setTop (mkF m 17 #[.val (.ref b1), .val (.int (2 : Int32))] [(.int (0 : Int32))])) _
      exact retI X1 hx Bd.returns (hb hby own_dCO_17) hr
    · show own_Q _ h0 n0 _ T1.heap _
      exact ⟨by rw [qv], N1, e1⟩
def own_col3 (v0 v1 v2 : Int32) : Int32 := (bif ifCond.holds .eq (nar .boolean (own_fE_0 v2)) then (bif ifCond.holds .eq (nar .boolean (own_fE_0 v1)) then (bif ifCond.holds .eq (nar .boolean (own_fE_0 v0)) then (3 : Int32) else (2 : Int32)) else (1 : Int32)) else (0 : Int32))
set_option maxRecDepth 65536 in
set_option maxHeartbeats 40000000 in
theorem own_rmCO3 (l : Launch) (Z : State) (a0 : Array Value) (hw : ∀ d ∈ tables_1, d.before a0 Z = true) (ws : List Jvm.Cond) (b1 : Addr) (h0 : Heap) (n0 : Nat) (v0 v1 v2 : Int32) (V : own_A3 Z h0 b1 v0 v1 v2) :
    MetFree l (⟨"com/example/amberwire/amberwire/core/text/PlaceCounterPassPinLaw", "col", "([CI)I"⟩ : MethodName) (head1 (Jvm.Cond.code (⟨"com/example/amberwire/amberwire/core/text/PlaceCounterPassPinLaw", "col", "([CI)I"⟩ : MethodName) method_5_code 2 (some .int) :: ws) ({ frames := 1, cells := 0, slots := 0, locals := 12 } : Room)) (fun a U => a = #[(.ref b1), (.int (3 : Int32))] ∧ Z.Warmed39 U.vm ∧ U.heap = h0) (fun _ _ _ _ _ => True) (fun _ U o U' => ∃ v L, o = .returned v ∧ own_Q (some (.int (own_col3 v0 v1 v2))) h0 n0 v U'.heap L ∧ FrameEnd U o U' L ({ frames := 1, cells := 0, slots := 0, locals := 12 } : Room).cells ({ frames := 1, cells := 0, slots := 0, locals := 12 } : Room).slots) := by
  refine MetFree.of_bodySF (plainFor_of_name own_pnCO) hisR ?_
  intro p e s m args below meth c s₁ Bd hml0 hP hK
  obtain ⟨rfl, hZ, hh⟩ := hP
  have hx := Bd.exec
  have hby := Bd.bytes
  have hml : c.maxLocals = 2 := hml0
  have hown : s.vm.findClass "com/example/amberwire/amberwire/core/text/PlaceCounterPassPinLaw" = some m.cls := findClass_of_methodNamed Bd.named
  have hnm := (name_of_methodNamed Bd.named Bd.method).1
  have X0 : Stand p l e ({ frames := 1, cells := 0, slots := 0, locals := 12 } : Room) s m #[(.ref b1), (.int (3 : Int32))] below meth c s₁ [] 0 0 := Stand.of_body Bd
  have e0 : s₁.heap = h0 := by rw [← hh, Bd.state]; rfl
  have N0 := Fr.nil n0
  have pre0 : ∀ t, Steps p.tables e below (s₁.setTop (mkF m 0 #[.val (.ref b1), .val (.int (3 : Int32))] [])) t → Steps p.tables e below (s₁.setTop (entryFrame m #[(.ref b1), (.int (3 : Int32))] 2)) t := fun t k => castTop (own_efCO m b1 (3 : Int32)) k
  obtain ⟨cl, A, S3, y0, y1, y2⟩ := V
  obtain ⟨T1, L1, X1, e1, N1, st1⟩ := own_callS X0 hx hZ (y := (⟨"com/example/amberwire/amberwire/core/text/PlaceCounterPassPinLaw", "isEnd", "(C)Z"⟩ : MethodName)) hown (hw _ (List.mem_of_getElem? (i := 5) rfl)) (hw _ (List.mem_of_getElem? (i := 6) rfl)) (hw _ (List.mem_of_getElem? (i := 2) rfl)) (hw _ (List.mem_of_getElem? (i := 7) rfl)) (by decide) (W := 0) (own_rmE l Z a0 hw [] v2 h0 n0) (by decide) (by decide) (g := (mkF m 10 #[.val (.ref b1), .val (.int (3 : Int32))] [(.int v2)])) rfl (by rw [hml]; rfl) (rest := []) (lenOf own_pdE rfl) rfl (by show 2 * 0 + _ ≤ _; exact Nat.le_of_eq rfl) (hb hby own_dCO_10) (by decide) (by decide) e0 N0
  rcases own_tf (ifCond.holds .eq (nar .boolean (own_fE_0 v2))) with hc0 | hc0
  · obtain ⟨T2, L2, X2, e2, N2, st2⟩ := own_callS X1 hx hZ (y := (⟨"com/example/amberwire/amberwire/core/text/PlaceCounterPassPinLaw", "isEnd", "(C)Z"⟩ : MethodName)) hown (hw _ (List.mem_of_getElem? (i := 5) rfl)) (hw _ (List.mem_of_getElem? (i := 6) rfl)) (hw _ (List.mem_of_getElem? (i := 2) rfl)) (hw _ (List.mem_of_getElem? (i := 7) rfl)) (by decide) (W := 0) (own_rmE l Z a0 hw [] v1 h0 n0) (by decide) (by decide) (g := (mkF m 28 #[.val (.ref b1), .val (.int (3 : Int32))] [(.int v1)])) rfl (by rw [hml]; rfl) (rest := []) (lenOf own_pdE rfl) rfl (by show 2 * 0 + _ ≤ _; exact Nat.le_of_eq rfl) (hb hby own_dCO_28) (by decide) (by decide) e1 N1
    rcases own_tf (ifCond.holds .eq (nar .boolean (own_fE_0 v1))) with hc1 | hc1
    · obtain ⟨T3, L3, X3, e3, N3, st3⟩ := own_callS X2 hx hZ (y := (⟨"com/example/amberwire/amberwire/core/text/PlaceCounterPassPinLaw", "isEnd", "(C)Z"⟩ : MethodName)) hown (hw _ (List.mem_of_getElem? (i := 5) rfl)) (hw _ (List.mem_of_getElem? (i := 6) rfl)) (hw _ (List.mem_of_getElem? (i := 2) rfl)) (hw _ (List.mem_of_getElem? (i := 7) rfl)) (by decide) (W := 0) (own_rmE l Z a0 hw [] v0 h0 n0) (by decide) (by decide) (g := (mkF m 46 #[.val (.ref b1), .val (.int (3 : Int32))] [(.int v0)])) rfl (by rw [hml]; rfl) (rest := []) (lenOf own_pdE rfl) rfl (by show 2 * 0 + _ ≤ _; exact Nat.le_of_eq rfl) (hb hby own_dCO_46) (by decide) (by decide) e2 N2
      rcases own_tf (ifCond.holds .eq (nar .boolean (own_fE_0 v0))) with hc2 | hc2
      · have qv : own_col3 v0 v1 v2 = (3 : Int32) := (own_t hc0 (own_t hc1 (own_t hc2 rfl)))
        obtain ⟨fs, hr, hrun, hended, hW, hsame⟩ := X3.leave (v := some (.int (3 : Int32))) (fun h => by rw [Bd.returns] at h; cases h)
        refine ⟨_, _, pre0 _ ?_, hrun, hended, _, _, rfl, ?_, ⟨_, rfl⟩, hW, hsame.mono (by decide) (by decide)⟩
        · show Steps p.tables e below (s₁.setTop (mkF m 0 #[.val (.ref b1), .val (.int (3 : Int32))] [])) _
          refine XS.iloadN X0.here hx rfl (hb hby own_dCO_0) rfl ?_
          show Steps p.tables e below (s₁.setTop (mkF m 1 #[.val (.ref b1), .val (.int (3 : Int32))] [(.int (3 : Int32))])) _
          refine XS.iconst X0.here hx rfl (hb hby own_dCO_1) ?_
          show Steps p.tables e below (s₁.setTop (mkF m 2 #[.val (.ref b1), .val (.int (3 : Int32))] [(.int (1 : Int32)), (.int (3 : Int32))])) _
          refine XS.icmpNo X0.here hx rfl (hb hby own_dCO_2) rfl (by decide) ?_
          show Steps p.tables e below (s₁.setTop (mkF m 5 #[.val (.ref b1), .val (.int (3 : Int32))] [])) _
          refine XS.aloadN X0.here hx rfl (hb hby own_dCO_5) rfl rfl ?_
          show Steps p.tables e below (s₁.setTop (mkF m 6 #[.val (.ref b1), .val (.int (3 : Int32))] [(.ref b1)])) _
          refine XS.iloadN X0.here hx rfl (hb hby own_dCO_6) rfl ?_
          show Steps p.tables e below (s₁.setTop (mkF m 7 #[.val (.ref b1), .val (.int (3 : Int32))] [(.int (3 : Int32)), (.ref b1)])) _
          refine XS.iconst X0.here hx rfl (hb hby own_dCO_7) ?_
          show Steps p.tables e below (s₁.setTop (mkF m 8 #[.val (.ref b1), .val (.int (3 : Int32))] [(.int (1 : Int32)), (.int (3 : Int32)), (.ref b1)])) _
          refine XS.isub X0.here hx rfl (hb hby own_dCO_8) rfl ?_
          show Steps p.tables e below (s₁.setTop (mkF m 9 #[.val (.ref b1), .val (.int (3 : Int32))] [(.int ((3 : Int32) - (1 : Int32))), (.ref b1)])) _
          refine X0.caload hx (j := ((3 : Int32) - (1 : Int32))) (v := .int v2) (by rw [e0]; exact A.1) (State.isArrayOf_alike hZ.alike A.2.1) A.2.2 (by rw [S3]; decide) y2 (g := (mkF m 9 #[.val (.ref b1), .val (.int (3 : Int32))] [(.int ((3 : Int32) - (1 : Int32))), (.ref b1)])) rfl rfl (hb hby own_dCO_9) _ ?_
          show Steps p.tables e below (s₁.setTop (mkF m 10 #[.val (.ref b1), .val (.int (3 : Int32))] [(.int v2)])) _
          refine st1 _ ?_
          show Steps p.tables e below (T1.setTop (mkF m 13 #[.val (.ref b1), .val (.int (3 : Int32))] [(.int (nar .boolean (own_fE_0 v2)))])) _
          refine XS.ifYes X1.here hx rfl (pc0 := 13) (pc' := 18) rfl (hb hby own_dCO_13) rfl hc0 (by decide) (by decide) ?_
          show Steps p.tables e below (T1.setTop (mkF m 18 #[.val (.ref b1), .val (.int (3 : Int32))] [])) _
          refine XS.iloadN X1.here hx rfl (hb hby own_dCO_18) rfl ?_
          show Steps p.tables e below (T1.setTop (mkF m 19 #[.val (.ref b1), .val (.int (3 : Int32))] [(.int (3 : Int32))])) _
          refine XS.iconst X1.here hx rfl (hb hby own_dCO_19) ?_
          show Steps p.tables e below (T1.setTop (mkF m 20 #[.val (.ref b1), .val (.int (3 : Int32))] [(.int (2 : Int32)), (.int (3 : Int32))])) _
          refine XS.icmpNo X1.here hx rfl (hb hby own_dCO_20) rfl (by decide) ?_
          show Steps p.tables e below (T1.setTop (mkF m 23 #[.val (.ref b1), .val (.int (3 : Int32))] [])) _
          refine XS.aloadN X1.here hx rfl (hb hby own_dCO_23) rfl rfl ?_
          show Steps p.tables e below (T1.setTop (mkF m 24 #[.val (.ref b1), .val (.int (3 : Int32))] [(.ref b1)])) _
          refine XS.iloadN X1.here hx rfl (hb hby own_dCO_24) rfl ?_
          show Steps p.tables e below (T1.setTop (mkF m 25 #[.val (.ref b1), .val (.int (3 : Int32))] [(.int (3 : Int32)), (.ref b1)])) _
          refine XS.iconst X1.here hx rfl (hb hby own_dCO_25) ?_
          show Steps p.tables e below (T1.setTop (mkF m 26 #[.val (.ref b1), .val (.int (3 : Int32))] [(.int (2 : Int32)), (.int (3 : Int32)), (.ref b1)])) _
          refine XS.isub X1.here hx rfl (hb hby own_dCO_26) rfl ?_
          show Steps p.tables e below (T1.setTop (mkF m 27 #[.val (.ref b1), .val (.int (3 : Int32))] [(.int ((3 : Int32) - (2 : Int32))), (.ref b1)])) _
          refine X1.caload hx (j := ((3 : Int32) - (2 : Int32))) (v := .int v1) (by rw [e1]; exact A.1) (State.isArrayOf_alike hZ.alike A.2.1) A.2.2 (by rw [S3]; decide) y1 (g := (mkF m 27 #[.val (.ref b1), .val (.int (3 : Int32))] [(.int ((3 : Int32) - (2 : Int32))), (.ref b1)])) rfl rfl (hb hby own_dCO_27) _ ?_
          show Steps p.tables e below (T1.setTop (mkF m 28 #[.val (.ref b1), .val (.int (3 : Int32))] [(.int v1)])) _
          refine st2 _ ?_
          show Steps p.tables e below (T2.setTop (mkF m 31 #[.val (.ref b1), .val (.int (3 : Int32))] [(.int (nar .boolean (own_fE_0 v1)))])) _
          refine XS.ifYes X2.here hx rfl (pc0 := 31) (pc' := 36) rfl (hb hby own_dCO_31) rfl hc1 (by decide) (by decide) ?_
          show Steps p.tables e below (T2.setTop (mkF m 36 #[.val (.ref b1), .val (.int (3 : Int32))] [])) _
          refine XS.iloadN X2.here hx rfl (hb hby own_dCO_36) rfl ?_
          show Steps p.tables e below (T2.setTop (mkF m 37 #[.val (.ref b1), .val (.int (3 : Int32))] [(.int (3 : Int32))])) _
          refine XS.iconst X2.here hx rfl (hb hby own_dCO_37) ?_
          show Steps p.tables e below (T2.setTop (mkF m 38 #[.val (.ref b1), .val (.int (3 : Int32))] [(.int (3 : Int32)), (.int (3 : Int32))])) _
          refine XS.icmpNo X2.here hx rfl (hb hby own_dCO_38) rfl (by decide) ?_
          show Steps p.tables e below (T2.setTop (mkF m 41 #[.val (.ref b1), .val (.int (3 : Int32))] [])) _
          refine XS.aloadN X2.here hx rfl (hb hby own_dCO_41) rfl rfl ?_
          show Steps p.tables e below (T2.setTop (mkF m 42 #[.val (.ref b1), .val (.int (3 : Int32))] [(.ref b1)])) _
          refine XS.iloadN X2.here hx rfl (hb hby own_dCO_42) rfl ?_
          show Steps p.tables e below (T2.setTop (mkF m 43 #[.val (.ref b1), .val (.int (3 : Int32))] [(.int (3 : Int32)), (.ref b1)])) _
          refine XS.iconst X2.here hx rfl (hb hby own_dCO_43) ?_
          show Steps p.tables e below (T2.setTop (mkF m 44 #[.val (.ref b1), .val (.int (3 : Int32))] [(.int (3 : Int32)), (.int (3 : Int32)), (.ref b1)])) _
          refine XS.isub X2.here hx rfl (hb hby own_dCO_44) rfl ?_
          show Steps p.tables e below (T2.setTop (mkF m 45 #[.val (.ref b1), .val (.int (3 : Int32))] [(.int ((3 : Int32) - (3 : Int32))), (.ref b1)])) _
          refine X2.caload hx (j := ((3 : Int32) - (3 : Int32))) (v := .int v0) (by rw [e2]; exact A.1) (State.isArrayOf_alike hZ.alike A.2.1) A.2.2 (by rw [S3]; decide) y0 (g := (mkF m 45 #[.val (.ref b1), .val (.int (3 : Int32))] [(.int ((3 : Int32) - (3 : Int32))), (.ref b1)])) rfl rfl (hb hby own_dCO_45) _ ?_
          show Steps p.tables e below (T2.setTop (mkF m 46 #[.val (.ref b1), .val (.int (3 : Int32))] [(.int v0)])) _
          refine st3 _ ?_
          show Steps p.tables e below (T3.setTop (mkF m 49 #[.val (.ref b1), .val (.int (3 : Int32))] [(.int (nar .boolean (own_fE_0 v0)))])) _
          refine XS.ifYes X3.here hx rfl (pc0 := 49) (pc' := 54) rfl (hb hby own_dCO_49) rfl hc2 (by decide) (by decide) ?_
          show Steps p.tables e below (T3.setTop (mkF m 54 #[.val (.ref b1), .val (.int (3 : Int32))] [])) _
          refine XS.iloadN X3.here hx rfl (hb hby own_dCO_54) rfl ?_
          show Steps p.tables e below (T3.setTop (mkF m 55 #[.val (.ref b1), .val (.int (3 : Int32))] [(.int (3 : Int32))])) _
          exact retI X3 hx Bd.returns (hb hby own_dCO_55) hr
        · show own_Q _ h0 n0 _ T3.heap _
          exact ⟨by rw [qv], N3, e3⟩
      · have qv : own_col3 v0 v1 v2 = (2 : Int32) := (own_t hc0 (own_t hc1 (own_f hc2 rfl)))
        obtain ⟨fs, hr, hrun, hended, hW, hsame⟩ := X3.leave (v := some (.int (2 : Int32))) (fun h => by rw [Bd.returns] at h; cases h)
        refine ⟨_, _, pre0 _ ?_, hrun, hended, _, _, rfl, ?_, ⟨_, rfl⟩, hW, hsame.mono (by decide) (by decide)⟩
        · show Steps p.tables e below (s₁.setTop (mkF m 0 #[.val (.ref b1), .val (.int (3 : Int32))] [])) _
          refine XS.iloadN X0.here hx rfl (hb hby own_dCO_0) rfl ?_
          show Steps p.tables e below (s₁.setTop (mkF m 1 #[.val (.ref b1), .val (.int (3 : Int32))] [(.int (3 : Int32))])) _
          refine XS.iconst X0.here hx rfl (hb hby own_dCO_1) ?_
          show Steps p.tables e below (s₁.setTop (mkF m 2 #[.val (.ref b1), .val (.int (3 : Int32))] [(.int (1 : Int32)), (.int (3 : Int32))])) _
          refine XS.icmpNo X0.here hx rfl (hb hby own_dCO_2) rfl (by decide) ?_
          show Steps p.tables e below (s₁.setTop (mkF m 5 #[.val (.ref b1), .val (.int (3 : Int32))] [])) _
          refine XS.aloadN X0.here hx rfl (hb hby own_dCO_5) rfl rfl ?_
          show Steps p.tables e below (s₁.setTop (mkF m 6 #[.val (.ref b1), .val (.int (3 : Int32))] [(.ref b1)])) _
          refine XS.iloadN X0.here hx rfl (hb hby own_dCO_6) rfl ?_
          show Steps p.tables e below (s₁.setTop (mkF m 7 #[.val (.ref b1), .val (.int (3 : Int32))] [(.int (3 : Int32)), (.ref b1)])) _
          refine XS.iconst X0.here hx rfl (hb hby own_dCO_7) ?_
          show Steps p.tables e below (s₁.setTop (mkF m 8 #[.val (.ref b1), .val (.int (3 : Int32))] [(.int (1 : Int32)), (.int (3 : Int32)), (.ref b1)])) _
          refine XS.isub X0.here hx rfl (hb hby own_dCO_8) rfl ?_
          show Steps p.tables e below (s₁.setTop (mkF m 9 #[.val (.ref b1), .val (.int (3 : Int32))] [(.int ((3 : Int32) - (1 : Int32))), (.ref b1)])) _
          refine X0.caload hx (j := ((3 : Int32) - (1 : Int32))) (v := .int v2) (by rw [e0]; exact A.1) (State.isArrayOf_alike hZ.alike A.2.1) A.2.2 (by rw [S3]; decide) y2 (g := (mkF m 9 #[.val (.ref b1), .val (.int (3 : Int32))] [(.int ((3 : Int32) - (1 : Int32))), (.ref b1)])) rfl rfl (hb hby own_dCO_9) _ ?_
          show Steps p.tables e below (s₁.setTop (mkF m 10 #[.val (.ref b1), .val (.int (3 : Int32))] [(.int v2)])) _
          refine st1 _ ?_
          show Steps p.tables e below (T1.setTop (mkF m 13 #[.val (.ref b1), .val (.int (3 : Int32))] [(.int (nar .boolean (own_fE_0 v2)))])) _
          refine XS.ifYes X1.here hx rfl (pc0 := 13) (pc' := 18) rfl (hb hby own_dCO_13) rfl hc0 (by decide) (by decide) ?_
          show Steps p.tables e below (T1.setTop (mkF m 18 #[.val (.ref b1), .val (.int (3 : Int32))] [])) _
          refine XS.iloadN X1.here hx rfl (hb hby own_dCO_18) rfl ?_
          show Steps p.tables e below (T1.setTop (mkF m 19 #[.val (.ref b1), .val (.int (3 : Int32))] [(.int (3 : Int32))])) _
          refine XS.iconst X1.here hx rfl (hb hby own_dCO_19) ?_
          show Steps p.tables e below (T1.setTop (mkF m 20 #[.val (.ref b1), .val (.int (3 : Int32))] [(.int (2 : Int32)), (.int (3 : Int32))])) _
          refine XS.icmpNo X1.here hx rfl (hb hby own_dCO_20) rfl (by decide) ?_
          show Steps p.tables e below (T1.setTop (mkF m 23 #[.val (.ref b1), .val (.int (3 : Int32))] [])) _
          refine XS.aloadN X1.here hx rfl (hb hby own_dCO_23) rfl rfl ?_
          show Steps p.tables e below (T1.setTop (mkF m 24 #[.val (.ref b1), .val (.int (3 : Int32))] [(.ref b1)])) _
          refine XS.iloadN X1.here hx rfl (hb hby own_dCO_24) rfl ?_
          show Steps p.tables e below (T1.setTop (mkF m 25 #[.val (.ref b1), .val (.int (3 : Int32))] [(.int (3 : Int32)), (.ref b1)])) _
          refine XS.iconst X1.here hx rfl (hb hby own_dCO_25) ?_
          show Steps p.tables e below (T1.setTop (mkF m 26 #[.val (.ref b1), .val (.int (3 : Int32))] [(.int (2 : Int32)), (.int (3 : Int32)), (.ref b1)])) _
          refine XS.isub X1.here hx rfl (hb hby own_dCO_26) rfl ?_
          show Steps p.tables e below (T1.setTop (mkF m 27 #[.val (.ref b1), .val (.int (3 : Int32))] [(.int ((3 : Int32) - (2 : Int32))), (.ref b1)])) _
          refine X1.caload hx (j := ((3 : Int32) - (2 : Int32))) (v := .int v1) (by rw [e1]; exact A.1) (State.isArrayOf_alike hZ.alike A.2.1) A.2.2 (by rw [S3]; decide) y1 (g := (mkF m 27 #[.val (.ref b1), .val (.int (3 : Int32))] [(.int ((3 : Int32) - (2 : Int32))), (.ref b1)])) rfl rfl (hb hby own_dCO_27) _ ?_
          show Steps p.tables e below (T1.setTop (mkF m 28 #[.val (.ref b1), .val (.int (3 : Int32))] [(.int v1)])) _
          refine st2 _ ?_
          show Steps p.tables e below (T2.setTop (mkF m 31 #[.val (.ref b1), .val (.int (3 : Int32))] [(.int (nar .boolean (own_fE_0 v1)))])) _
          refine XS.ifYes X2.here hx rfl (pc0 := 31) (pc' := 36) rfl (hb hby own_dCO_31) rfl hc1 (by decide) (by decide) ?_
          show Steps p.tables e below (T2.setTop (mkF m 36 #[.val (.ref b1), .val (.int (3 : Int32))] [])) _
          refine XS.iloadN X2.here hx rfl (hb hby own_dCO_36) rfl ?_
          show Steps p.tables e below (T2.setTop (mkF m 37 #[.val (.ref b1), .val (.int (3 : Int32))] [(.int (3 : Int32))])) _
          refine XS.iconst X2.here hx rfl (hb hby own_dCO_37) ?_
          show Steps p.tables e below (T2.setTop (mkF m 38 #[.val (.ref b1), .val (.int (3 : Int32))] [(.int (3 : Int32)), (.int (3 : Int32))])) _
          refine XS.icmpNo X2.here hx rfl (hb hby own_dCO_38) rfl (by decide) ?_
          show Steps p.tables e below (T2.setTop (mkF m 41 #[.val (.ref b1), .val (.int (3 : Int32))] [])) _
          refine XS.aloadN X2.here hx rfl (hb hby own_dCO_41) rfl rfl ?_
          show Steps p.tables e below (T2.setTop (mkF m 42 #[.val (.ref b1), .val (.int (3 : Int32))] [(.ref b1)])) _
          refine XS.iloadN X2.here hx rfl (hb hby own_dCO_42) rfl ?_
          show Steps p.tables e below (T2.setTop (mkF m 43 #[.val (.ref b1), .val (.int (3 : Int32))] [(.int (3 : Int32)), (.ref b1)])) _
          refine XS.iconst X2.here hx rfl (hb hby own_dCO_43) ?_
          show Steps p.tables e below (T2.setTop (mkF m 44 #[.val (.ref b1), .val (.int (3 : Int32))] [(.int (3 : Int32)), (.int (3 : Int32)), (.ref b1)])) _
          refine XS.isub X2.here hx rfl (hb hby own_dCO_44) rfl ?_
          show Steps p.tables e below (T2.setTop (mkF m 45 #[.val (.ref b1), .val (.int (3 : Int32))] [(.int ((3 : Int32) - (3 : Int32))), (.ref b1)])) _
          refine X2.caload hx (j := ((3 : Int32) - (3 : Int32))) (v := .int v0) (by rw [e2]; exact A.1) (State.isArrayOf_alike hZ.alike A.2.1) A.2.2 (by rw [S3]; decide) y0 (g := (mkF m 45 #[.val (.ref b1), .val (.int (3 : Int32))] [(.int ((3 : Int32) - (3 : Int32))), (.ref b1)])) rfl rfl (hb hby own_dCO_45) _ ?_
          show Steps p.tables e below (T2.setTop (mkF m 46 #[.val (.ref b1), .val (.int (3 : Int32))] [(.int v0)])) _
          refine st3 _ ?_
          show Steps p.tables e below (T3.setTop (mkF m 49 #[.val (.ref b1), .val (.int (3 : Int32))] [(.int (nar .boolean (own_fE_0 v0)))])) _
          refine XS.ifNo X3.here hx rfl (hb hby own_dCO_49) rfl hc2 ?_
          show Steps p.tables e below (T3.setTop (mkF m 52 #[.val (.ref b1), .val (.int (3 : Int32))] [])) _
          refine XS.iconst X3.here hx rfl (hb hby own_dCO_52) ?_
          show Steps p.tables e below (T3.setTop (mkF m 53 #[.val (.ref b1), .val (.int (3 : Int32))] [(.int (2 : Int32))])) _
          exact retI X3 hx Bd.returns (hb hby own_dCO_53) hr
        · show own_Q _ h0 n0 _ T3.heap _
          exact ⟨by rw [qv], N3, e3⟩
    · have qv : own_col3 v0 v1 v2 = (1 : Int32) := (own_t hc0 (own_f hc1 rfl))
      obtain ⟨fs, hr, hrun, hended, hW, hsame⟩ := X2.leave (v := some (.int (1 : Int32))) (fun h => by rw [Bd.returns] at h; cases h)
      refine ⟨_, _, pre0 _ ?_, hrun, hended, _, _, rfl, ?_, ⟨_, rfl⟩, hW, hsame.mono (by decide) (by decide)⟩
      · show Steps p.tables e below (s₁.setTop (mkF m 0 #[.val (.ref b1), .val (.int (3 : Int32))] [])) _
        refine XS.iloadN X0.here hx rfl (hb hby own_dCO_0) rfl ?_
        show Steps p.tables e below (s₁.setTop (mkF m 1 #[.val (.ref b1), .val (.int (3 : Int32))] [(.int (3 : Int32))])) _
        refine XS.iconst X0.here hx rfl (hb hby own_dCO_1) ?_
        show Steps p.tables e below (s₁.setTop (mkF m 2 #[.val (.ref b1), .val (.int (3 : Int32))] [(.int (1 : Int32)), (.int (3 : Int32))])) _
        refine XS.icmpNo X0.here hx rfl (hb hby own_dCO_2) rfl (by decide) ?_
        show Steps p.tables e below (s₁.setTop (mkF m 5 #[.val (.ref b1), .val (.int (3 : Int32))] [])) _
        refine XS.aloadN X0.here hx rfl (hb hby own_dCO_5) rfl rfl ?_
        show Steps p.tables e below (s₁.setTop (mkF m 6 #[.val (.ref b1), .val (.int (3 : Int32))] [(.ref b1)])) _
        refine XS.iloadN X0.here hx rfl (hb hby own_dCO_6) rfl ?_
        show Steps p.tables e below (s₁.setTop (mkF m 7 #[.val (.ref b1), .val (.int (3 : Int32))] [(.int (3 : Int32)), (.ref b1)])) _
        refine XS.iconst X0.here hx rfl (hb hby own_dCO_7) ?_
        show Steps p.tables e below (s₁.setTop (mkF m 8 #[.val (.ref b1), .val (.int (3 : Int32))] [(.int (1 : Int32)), (.int (3 : Int32)), (.ref b1)])) _
        refine XS.isub X0.here hx rfl (hb hby own_dCO_8) rfl ?_
        show Steps p.tables e below (s₁.setTop (mkF m 9 #[.val (.ref b1), .val (.int (3 : Int32))] [(.int ((3 : Int32) - (1 : Int32))), (.ref b1)])) _
        refine X0.caload hx (j := ((3 : Int32) - (1 : Int32))) (v := .int v2) (by rw [e0]; exact A.1) (State.isArrayOf_alike hZ.alike A.2.1) A.2.2 (by rw [S3]; decide) y2 (g := (mkF m 9 #[.val (.ref b1), .val (.int (3 : Int32))] [(.int ((3 : Int32) - (1 : Int32))), (.ref b1)])) rfl rfl (hb hby own_dCO_9) _ ?_
        show Steps p.tables e below (s₁.setTop (mkF m 10 #[.val (.ref b1), .val (.int (3 : Int32))] [(.int v2)])) _
        refine st1 _ ?_
        show Steps p.tables e below (T1.setTop (mkF m 13 #[.val (.ref b1), .val (.int (3 : Int32))] [(.int (nar .boolean (own_fE_0 v2)))])) _
        refine XS.ifYes X1.here hx rfl (pc0 := 13) (pc' := 18) rfl (hb hby own_dCO_13) rfl hc0 (by decide) (by decide) ?_
        show Steps p.tables e below (T1.setTop (mkF m 18 #[.val (.ref b1), .val (.int (3 : Int32))] [])) _
        refine XS.iloadN X1.here hx rfl (hb hby own_dCO_18) rfl ?_
        show Steps p.tables e below (T1.setTop (mkF m 19 #[.val (.ref b1), .val (.int (3 : Int32))] [(.int (3 : Int32))])) _
        refine XS.iconst X1.here hx rfl (hb hby own_dCO_19) ?_
        show Steps p.tables e below (T1.setTop (mkF m 20 #[.val (.ref b1), .val (.int (3 : Int32))] [(.int (2 : Int32)), (.int (3 : Int32))])) _
        refine XS.icmpNo X1.here hx rfl (hb hby own_dCO_20) rfl (by decide) ?_
        show Steps p.tables e below (T1.setTop (mkF m 23 #[.val (.ref b1), .val (.int (3 : Int32))] [])) _
        refine XS.aloadN X1.here hx rfl (hb hby own_dCO_23) rfl rfl ?_
        show Steps p.tables e below (T1.setTop (mkF m 24 #[.val (.ref b1), .val (.int (3 : Int32))] [(.ref b1)])) _
        refine XS.iloadN X1.here hx rfl (hb hby own_dCO_24) rfl ?_
        show Steps p.tables e below (T1.setTop (mkF m 25 #[.val (.ref b1), .val (.int (3 : Int32))] [(.int (3 : Int32)), (.ref b1)])) _
        refine XS.iconst X1.here hx rfl (hb hby own_dCO_25) ?_
        show Steps p.tables e below (T1.setTop (mkF m 26 #[.val (.ref b1), .val (.int (3 : Int32))] [(.int (2 : Int32)), (.int (3 : Int32)), (.ref b1)])) _
        refine XS.isub X1.here hx rfl (hb hby own_dCO_26) rfl ?_
        show Steps p.tables e below (T1.setTop (mkF m 27 #[.val (.ref b1), .val (.int (3 : Int32))] [(.int ((3 : Int32) - (2 : Int32))), (.ref b1)])) _
        refine X1.caload hx (j := ((3 : Int32) - (2 : Int32))) (v := .int v1) (by rw [e1]; exact A.1) (State.isArrayOf_alike hZ.alike A.2.1) A.2.2 (by rw [S3]; decide) y1 (g := (mkF m 27 #[.val (.ref b1), .val (.int (3 : Int32))] [(.int ((3 : Int32) - (2 : Int32))), (.ref b1)])) rfl rfl (hb hby own_dCO_27) _ ?_
        show Steps p.tables e below (T1.setTop (mkF m 28 #[.val (.ref b1), .val (.int (3 : Int32))] [(.int v1)])) _
        refine st2 _ ?_
        show Steps p.tables e below (T2.setTop (mkF m 31 #[.val (.ref b1), .val (.int (3 : Int32))] [(.int (nar .boolean (own_fE_0 v1)))])) _
        refine XS.ifNo X2.here hx rfl (hb hby own_dCO_31) rfl hc1 ?_
        show Steps p.tables e below (T2.setTop (mkF m 34 #[.val (.ref b1), .val (.int (3 : Int32))] [])) _
        refine XS.iconst X2.here hx rfl (hb hby own_dCO_34) ?_
        show Steps p.tables e below (T2.setTop (mkF m 35 #[.val (.ref b1), .val (.int (3 : Int32))] [(.int (1 : Int32))])) _
        exact retI X2 hx Bd.returns (hb hby own_dCO_35) hr
      · show own_Q _ h0 n0 _ T2.heap _
        exact ⟨by rw [qv], N2, e2⟩
  · have qv : own_col3 v0 v1 v2 = (0 : Int32) := (own_f hc0 rfl)
    obtain ⟨fs, hr, hrun, hended, hW, hsame⟩ := X1.leave (v := some (.int (0 : Int32))) (fun h => by rw [Bd.returns] at h; cases h)
    refine ⟨_, _, pre0 _ ?_, hrun, hended, _, _, rfl, ?_, ⟨_, rfl⟩, hW, hsame.mono (by decide) (by decide)⟩
    · show Steps p.tables e below (s₁.setTop (mkF m 0 #[.val (.ref b1), .val (.int (3 : Int32))] [])) _
      refine XS.iloadN X0.here hx rfl (hb hby own_dCO_0) rfl ?_
      show Steps p.tables e below (s₁.setTop (mkF m 1 #[.val (.ref b1), .val (.int (3 : Int32))] [(.int (3 : Int32))])) _
      refine XS.iconst X0.here hx rfl (hb hby own_dCO_1) ?_
      show Steps p.tables e below (s₁.setTop (mkF m 2 #[.val (.ref b1), .val (.int (3 : Int32))] [(.int (1 : Int32)), (.int (3 : Int32))])) _
      refine XS.icmpNo X0.here hx rfl (hb hby own_dCO_2) rfl (by decide) ?_
      show Steps p.tables e below (s₁.setTop (mkF m 5 #[.val (.ref b1), .val (.int (3 : Int32))] [])) _
      refine XS.aloadN X0.here hx rfl (hb hby own_dCO_5) rfl rfl ?_
      show Steps p.tables e below (s₁.setTop (mkF m 6 #[.val (.ref b1), .val (.int (3 : Int32))] [(.ref b1)])) _
      refine XS.iloadN X0.here hx rfl (hb hby own_dCO_6) rfl ?_
      show Steps p.tables e below (s₁.setTop (mkF m 7 #[.val (.ref b1), .val (.int (3 : Int32))] [(.int (3 : Int32)), (.ref b1)])) _
      refine XS.iconst X0.here hx rfl (hb hby own_dCO_7) ?_
      show Steps p.tables e below (s₁.setTop (mkF m 8 #[.val (.ref b1), .val (.int (3 : Int32))] [(.int (1 : Int32)), (.int (3 : Int32)), (.ref b1)])) _
      refine XS.isub X0.here hx rfl (hb hby own_dCO_8) rfl ?_
      show Steps p.tables e below (s₁.setTop (mkF m 9 #[.val (.ref b1), .val (.int (3 : Int32))] [(.int ((3 : Int32) - (1 : Int32))), (.ref b1)])) _
      refine X0.caload hx (j := ((3 : Int32) - (1 : Int32))) (v := .int v2) (by rw [e0]; exact A.1) (State.isArrayOf_alike hZ.alike A.2.1) A.2.2 (by rw [S3]; decide) y2 (g := (mkF m 9 #[.val (.ref b1), .val (.int (3 : Int32))] [(.int ((3 : Int32) - (1 : Int32))), (.ref b1)])) rfl rfl (hb hby own_dCO_9) _ ?_
      show Steps p.tables e below (s₁.setTop (mkF m 10 #[.val (.ref b1), .val (.int (3 : Int32))] [(.int v2)])) _
      refine st1 _ ?_
      show Steps p.tables e below (T1.setTop (mkF m 13 #[.val (.ref b1), .val (.int (3 : Int32))] [(.int (nar .boolean (own_fE_0 v2)))])) _
      refine XS.ifNo X1.here hx rfl (hb hby own_dCO_13) rfl hc0 ?_
      show Steps p.tables e below (T1.setTop (mkF m 16 #[.val (.ref b1), .val (.int (3 : Int32))] [])) _
      refine XS.iconst X1.here hx rfl (hb hby own_dCO_16) ?_
      show Steps p.tables e below (T1.setTop (mkF m 17 #[.val (.ref b1), .val (.int (3 : Int32))] [(.int (0 : Int32))])) _
      exact retI X1 hx Bd.returns (hb hby own_dCO_17) hr
    · show own_Q _ h0 n0 _ T1.heap _
      exact ⟨by rw [qv], N1, e1⟩
/-! the plain law: three chars, each one of 10, 13, or as 0 -/
def own_bit (b : Int32) : Int32 := bif ifCond.holds .eq b then (0 : Int32) else (1 : Int32)
theorem own_nar2 (y : Int32) : nar .char (nar .char y) = nar .char y := by
  show (y.toUInt32.toUInt16.toUInt32.toInt32).toUInt32.toUInt16.toUInt32.toInt32 = y.toUInt32.toUInt16.toUInt32.toInt32
  simp only [UInt32.toUInt32_toInt32, UInt16.toUInt16_toUInt32]
theorem own_rep (c : Int32) : ∃ d : Int32, (d = 10 ∨ d = 13 ∨ d = 0) ∧ (∀ ln ac, own_pL c ln ac = own_pL d ln ac) ∧ (∀ co ac, own_pC c co ac = own_pC d co ac) ∧ own_pA c = own_pA d ∧ own_fE_0 c = own_fE_0 d ∧ (∀ q, own_fEL_0 q c = own_fEL_0 q d) ∧ (∀ q, own_fEL_0 c q = own_fEL_0 d q) ∧ True := by
  by_cases h10 : c = 10
  · exact ⟨10, Or.inl rfl, by rw [h10]; exact fun _ _ => rfl, by rw [h10]; exact fun _ _ => rfl, by rw [h10], by rw [h10], by rw [h10]; exact fun _ => rfl, by rw [h10]; exact fun _ => rfl, trivial⟩
  · by_cases h13 : c = 13
    · exact ⟨13, Or.inr (Or.inl rfl), by rw [h13]; exact fun _ _ => rfl, by rw [h13]; exact fun _ _ => rfl, by rw [h13], by rw [h13], by rw [h13]; exact fun _ => rfl, by rw [h13]; exact fun _ => rfl, trivial⟩
    · refine ⟨0, Or.inr (Or.inr rfl), fun ln ac => ?_, fun co ac => ?_, ?_, ?_, fun q => ?_, fun q => ?_, trivial⟩
      · show (if c = 10 then (if ac = 0 then ln + 1 else ln) else if c = 13 then ln + 1 else ln) = ln
        rw [if_neg h10, if_neg h13]
      · show (if c = 10 then (if ac = 0 then 0 else co) else if c = 13 then 0 else co + 1) = co + 1
        rw [if_neg h10, if_neg h13]
      · show (if c = 13 then (1 : Int32) else 0) = 0
        rw [if_neg h13]
      · exact (own_f (feq h10).1 (own_t (feq h13).2 rfl) : own_fE_0 c = 0)
      · exact (own_t (feq h13).2 (own_t (feq h10).2 rfl) : own_fEL_0 q c = 0).trans (own_t (feq (by decide : ¬ (0 : Int32) = 13)).2 (own_t (feq (by decide : ¬ (0 : Int32) = 10)).2 rfl) : own_fEL_0 q 0 = 0).symm
      · by_cases k13 : q = 13
        · exact (own_f (teq k13).2 rfl : own_fEL_0 c q = 1).trans (own_f (teq k13).2 rfl : own_fEL_0 0 q = 1).symm
        · by_cases k10 : q = 10
          · exact (own_t (feq k13).2 (own_f (teq k10).2 (own_f (feq h13).1 rfl)) : own_fEL_0 c q = 1).trans (own_t (feq k13).2 (own_f (teq k10).2 (own_f (feq (by decide : ¬ (0 : Int32) = 13)).1 rfl)) : own_fEL_0 0 q = 1).symm
          · exact (own_t (feq k13).2 (own_t (feq k10).2 rfl) : own_fEL_0 c q = 0).trans (own_t (feq k13).2 (own_t (feq k10).2 rfl) : own_fEL_0 0 q = 0).symm
theorem own_plain (c0 c1 c2 : Int32) {u0 v0 x0 u1 v1 x1 u2 v2 x2 : Int32} (gL0 : u0 = own_pL c0 1 0) (gC0 : v0 = own_pC c0 0 0) (gA0 : x0 = own_pA c0) (gL1 : u1 = own_pL c1 u0 x0) (gC1 : v1 = own_pC c1 v0 x0) (gA1 : x1 = own_pA c1) (gL2 : u2 = own_pL c2 u1 x1) (gC2 : v2 = own_pC c2 v1 x1) (gA2 : x2 = own_pA c2) :
    u0 = (1 : Int32) + own_bit (nar .boolean (own_fE_0 c0)) ∧ v0 = own_col1 c0 c1 c2 ∧ u1 = ((1 : Int32) + own_bit (nar .boolean (own_fE_0 c0))) + own_bit (nar .boolean (own_fEL_0 c0 c1)) ∧ v1 = own_col2 c0 c1 c2 ∧ u2 = (((1 : Int32) + own_bit (nar .boolean (own_fE_0 c0))) + own_bit (nar .boolean (own_fEL_0 c0 c1))) + own_bit (nar .boolean (own_fEL_0 c1 c2)) ∧ v2 = own_col3 c0 c1 c2 := by
  obtain ⟨d0, k0, a1, a2, a3, a4, a5, a6, -⟩ := own_rep c0
  obtain ⟨d1, k1, b1, b2, b3, b4, b5, b6, -⟩ := own_rep c1
  obtain ⟨d2, k2, e1, e2, e3, e4, e5, e6, -⟩ := own_rep c2
  rw [a1] at gL0; rw [a2] at gC0; rw [a3] at gA0
  rw [b1] at gL1; rw [b2] at gC1; rw [b3] at gA1
  rw [e1] at gL2; rw [e2] at gC2
  have r1 : own_col1 c0 c1 c2 = own_col1 d0 d1 d2 := by unfold own_col1; rw [a4]
  have r2 : own_col2 c0 c1 c2 = own_col2 d0 d1 d2 := by unfold own_col2; rw [a4, b4]
  have r3 : own_col3 c0 c1 c2 = own_col3 d0 d1 d2 := by unfold own_col3; rw [a4, b4, e4]
  rw [r1, r2, r3, a4, a6, b5, b6, e5]
  subst gL0 gC0 gA0 gL1 gC1 gA1 gL2 gC2
  clear a1 a2 a3 a4 a5 a6 b1 b2 b3 b4 b5 b6 e1 e2 e3 e4 e5 e6 r1 r2 r3
  rcases k0 with rfl | rfl | rfl <;> rcases k1 with rfl | rfl | rfl <;> rcases k2 with rfl | rfl | rfl <;> decide
theorem own_pn0 : plainName "com/example/amberwire/amberwire/core/text/PlaceCounterPassPinLaw" = true := by first | (simp [plainName, overriddenIn]; done) | decide +kernel
theorem own_ef0 (m : MethodId) (x0 : Int32) (x1 : Int32) (x2 : Int32) : entryFrame m #[(.int x0), (.int x1), (.int x2)] maxLocals = mkF m 0 #[.val (.int x0), .val (.int x1), .val (.int x2), .unset, .unset, .unset, .unset, .unset, .unset, .unset, .unset, .unset, .unset, .unset, .unset, .unset, .unset, .unset, .unset, .unset] [] := by first | (simp [entryFrame, mkF, argsToLocals, Value.category, maxLocals]; done) | rfl
set_option maxRecDepth 65536 in
set_option maxHeartbeats 40000000 in
theorem own_rm0 (l : Launch) (Z : State) (a0 : Array Value) (hw : ∀ d ∈ tables_1, d.before a0 Z = true) (ws : List Jvm.Cond) (p0 : Int32) (p1 : Int32) (p2 : Int32) (h0 : Heap) (n0 : Nat) (Z0 : n0 ≤ h0.size) :
    MetFree l x (head1 (Jvm.Cond.code x code maxLocals ret :: ws) room_1) (fun a U => a = #[(.int p0), (.int p1), (.int p2)] ∧ Z.Warmed39 U.vm ∧ U.heap = h0) (fun _ _ _ _ _ => True) (fun _ U o U' => ∃ v L, o = .returned v ∧ own_Q0 n0 v L ∧ FrameEnd U o U' L room_1.cells room_1.slots) := by
  refine MetFree.of_bodySF (plainFor_of_name own_pn0) hisR ?_
  intro p e s m args below meth c s₁ Bd hml0 hP hK
  obtain ⟨rfl, hZ, hh⟩ := hP
  have hx := Bd.exec
  have hby := Bd.bytes
  have hml : c.maxLocals = 20 := hml0
  have hown : s.vm.findClass "com/example/amberwire/amberwire/core/text/PlaceCounterPassPinLaw" = some m.cls := findClass_of_methodNamed Bd.named
  have hnm := (name_of_methodNamed Bd.named Bd.method).1
  have X0 : Stand p l e room_1 s m #[(.int p0), (.int p1), (.int p2)] below meth c s₁ [] 0 0 := Stand.of_body Bd
  have e0 : s₁.heap = h0 := by rw [← hh, Bd.state]; rfl
  have N0 := Fr.nil n0
  have pre0 : ∀ t, Steps p.tables e below (s₁.setTop (mkF m 0 #[.val (.int p0), .val (.int p1), .val (.int p2), .unset, .unset, .unset, .unset, .unset, .unset, .unset, .unset, .unset, .unset, .unset, .unset, .unset, .unset, .unset, .unset, .unset] [])) t → Steps p.tables e below (s₁.setTop (entryFrame m #[(.int p0), (.int p1), (.int p2)] maxLocals)) t := fun t k => castTop (own_ef0 m p0 p1 p2) k
  obtain ⟨T1, L1, X1, e1, N1, st1⟩ := own_callS X0 hx hZ (y := (⟨"com/example/amberwire/amberwire/core/text/PlaceCounterPassPinLaw", "pick", "(I)C"⟩ : MethodName)) hown (hw _ (List.mem_of_getElem? (i := 0) rfl)) (hw _ (List.mem_of_getElem? (i := 1) rfl)) (hw _ (List.mem_of_getElem? (i := 2) rfl)) (hw _ (List.mem_of_getElem? (i := 3) rfl)) (by decide) (W := 0) (own_rmP l Z a0 hw [] p0 h0 n0) (by decide) (by decide) (g := (mkF m 1 #[.val (.int p0), .val (.int p1), .val (.int p2), .unset, .unset, .unset, .unset, .unset, .unset, .unset, .unset, .unset, .unset, .unset, .unset, .unset, .unset, .unset, .unset, .unset] [(.int p0)])) rfl (by rw [hml]; rfl) (rest := []) (lenOf own_pdP rfl) rfl (by show 2 * 0 + _ ≤ _; exact Nat.le_of_eq rfl) (hb hby at_1) (by decide) (by decide) e0 N0
  obtain ⟨c0, hc0⟩ : ∃ z, z = (nar .char (own_fP_0 p0)) := ⟨_, rfl⟩
  rw [← hc0] at st1
  obtain ⟨T2, L2, X2, e2, N2, st2⟩ := own_callS X1 hx hZ (y := (⟨"com/example/amberwire/amberwire/core/text/PlaceCounterPassPinLaw", "pick", "(I)C"⟩ : MethodName)) hown (hw _ (List.mem_of_getElem? (i := 0) rfl)) (hw _ (List.mem_of_getElem? (i := 1) rfl)) (hw _ (List.mem_of_getElem? (i := 2) rfl)) (hw _ (List.mem_of_getElem? (i := 3) rfl)) (by decide) (W := 0) (own_rmP l Z a0 hw [] p1 h0 n0) (by decide) (by decide) (g := (mkF m 6 #[.val (.int p0), .val (.int p1), .val (.int p2), .val (.int c0), .unset, .unset, .unset, .unset, .unset, .unset, .unset, .unset, .unset, .unset, .unset, .unset, .unset, .unset, .unset, .unset] [(.int p1)])) rfl (by rw [hml]; rfl) (rest := []) (lenOf own_pdP rfl) rfl (by show 2 * 0 + _ ≤ _; exact Nat.le_of_eq rfl) (hb hby at_6) (by decide) (by decide) e1 N1
  obtain ⟨c1, hc1⟩ : ∃ z, z = (nar .char (own_fP_0 p1)) := ⟨_, rfl⟩
  rw [← hc1] at st2
  obtain ⟨T3, L3, X3, e3, N3, st3⟩ := own_callS X2 hx hZ (y := (⟨"com/example/amberwire/amberwire/core/text/PlaceCounterPassPinLaw", "pick", "(I)C"⟩ : MethodName)) hown (hw _ (List.mem_of_getElem? (i := 0) rfl)) (hw _ (List.mem_of_getElem? (i := 1) rfl)) (hw _ (List.mem_of_getElem? (i := 2) rfl)) (hw _ (List.mem_of_getElem? (i := 3) rfl)) (by decide) (W := 0) (own_rmP l Z a0 hw [] p2 h0 n0) (by decide) (by decide) (g := (mkF m 12 #[.val (.int p0), .val (.int p1), .val (.int p2), .val (.int c0), .val (.int c1), .unset, .unset, .unset, .unset, .unset, .unset, .unset, .unset, .unset, .unset, .unset, .unset, .unset, .unset, .unset] [(.int p2)])) rfl (by rw [hml]; rfl) (rest := []) (lenOf own_pdP rfl) rfl (by show 2 * 0 + _ ≤ _; exact Nat.le_of_eq rfl) (hb hby at_12) (by decide) (by decide) e2 N2
  obtain ⟨c2, hc2⟩ : ∃ z, z = (nar .char (own_fP_0 p2)) := ⟨_, rfl⟩
  rw [← hc2] at st3
  obtain ⟨T4, h4, k4, X4, e4, E4, A4, st4⟩ := newP X3 hx hZ (hw _ (List.mem_of_getElem? (i := 4) rfl)) e3 (g := (mkF m 18 #[.val (.int p0), .val (.int p1), .val (.int p2), .val (.int c0), .val (.int c1), .val (.int c2), .unset, .unset, .unset, .unset, .unset, .unset, .unset, .unset, .unset, .unset, .unset, .unset, .unset, .unset] [(.int (3 : Int32))])) rfl (hb hby at_18) rfl (by decide) (cap := 3) (by decide) (by decide) (by decide) (by decide)
  obtain ⟨b, gb⟩ : ∃ z, z = h0.size := ⟨_, rfl⟩
  rw [← gb] at A4 st4
  have V4 : own_A3 Z h4 b 0 0 0 := own_A3_new A4
  have gb0 : n0 ≤ b := Nat.le_trans Z0 (Nat.le_of_eq gb.symm)
  obtain ⟨cl5, A5, S5, q5_0, q5_1, q5_2⟩ := V4
  obtain ⟨T5, h5, X5, e5, W5, st5⟩ := stC X4 hx hZ e4 A5 (j := (0 : Int32)) (x := c0) (by rw [S5]; decide) (g := (mkF m 26 #[.val (.int p0), .val (.int p1), .val (.int p2), .val (.int c0), .val (.int c1), .val (.int c2), .val (.ref b), .unset, .unset, .unset, .unset, .unset, .unset, .unset, .unset, .unset, .unset, .unset, .unset, .unset] [(.int c0), (.int (0 : Int32)), (.ref b)])) rfl rfl (hb hby at_26)
  have V5 := own_A3_set0 A5 S5 q5_1 q5_2 W5
  have N5 := Fr.snoc X5 N3 gb0
  obtain ⟨cl6, A6, S6, q6_0, q6_1, q6_2⟩ := V5
  obtain ⟨T6, h6, X6, e6, W6, st6⟩ := stC X5 hx hZ e5 A6 (j := (1 : Int32)) (x := c1) (by rw [S6]; decide) (g := (mkF m 32 #[.val (.int p0), .val (.int p1), .val (.int p2), .val (.int c0), .val (.int c1), .val (.int c2), .val (.ref b), .unset, .unset, .unset, .unset, .unset, .unset, .unset, .unset, .unset, .unset, .unset, .unset, .unset] [(.int c1), (.int (1 : Int32)), (.ref b)])) rfl rfl (hb hby at_32)
  have V6 := own_A3_set1 A6 S6 q6_0 q6_2 W6
  have N6 := Fr.snoc X6 N5 gb0
  obtain ⟨cl7, A7, S7, q7_0, q7_1, q7_2⟩ := V6
  obtain ⟨T7, h7, X7, e7, W7, st7⟩ := stC X6 hx hZ e6 A7 (j := (2 : Int32)) (x := c2) (by rw [S7]; decide) (g := (mkF m 38 #[.val (.int p0), .val (.int p1), .val (.int p2), .val (.int c0), .val (.int c1), .val (.int c2), .val (.ref b), .unset, .unset, .unset, .unset, .unset, .unset, .unset, .unset, .unset, .unset, .unset, .unset, .unset] [(.int c2), (.int (2 : Int32)), (.ref b)])) rfl rfl (hb hby at_38)
  have V7 := own_A3_set2 A7 S7 q7_0 q7_1 W7
  have N7 := Fr.snoc X7 N6 gb0
  obtain ⟨T8, L8, X8, e8, N8, st8⟩ := own_callS X7 hx hZ (y := (⟨"com/example/amberwire/amberwire/core/text/PlaceCounterPassPinLaw", "isEnd", "(C)Z"⟩ : MethodName)) hown (hw _ (List.mem_of_getElem? (i := 5) rfl)) (hw _ (List.mem_of_getElem? (i := 6) rfl)) (hw _ (List.mem_of_getElem? (i := 2) rfl)) (hw _ (List.mem_of_getElem? (i := 7) rfl)) (by decide) (W := 1) (own_rmE l Z a0 hw [] c0 h7 n0) (by decide) (by decide) (g := (mkF m 41 #[.val (.int p0), .val (.int p1), .val (.int p2), .val (.int c0), .val (.int c1), .val (.int c2), .val (.ref b), .unset, .unset, .unset, .unset, .unset, .unset, .unset, .unset, .unset, .unset, .unset, .unset, .unset] [(.int c0), (.int (1 : Int32))])) rfl (by rw [hml]; rfl) (rest := [(.int (1 : Int32))]) (lenOf own_pdE rfl) rfl (by show 2 * 0 + _ ≤ _; exact Nat.le_of_eq rfl) (hb hby at_41) (by decide) (by decide) e7 N7
  have sb44 : ∀ t, Steps p.tables e below (T8.setTop (mkF m 52 #[.val (.int p0), .val (.int p1), .val (.int p2), .val (.int c0), .val (.int c1), .val (.int c2), .val (.ref b), .unset, .unset, .unset, .unset, .unset, .unset, .unset, .unset, .unset, .unset, .unset, .unset, .unset] [(.int (own_bit (nar .boolean (own_fE_0 c0)))), (.int (1 : Int32))])) t → Steps p.tables e below (T8.setTop (mkF m 44 #[.val (.int p0), .val (.int p1), .val (.int p2), .val (.int c0), .val (.int c1), .val (.int c2), .val (.ref b), .unset, .unset, .unset, .unset, .unset, .unset, .unset, .unset, .unset, .unset, .unset, .unset, .unset] [(.int (nar .boolean (own_fE_0 c0))), (.int (1 : Int32))])) t := by
    intro t k
    rcases own_tf (ifCond.holds .eq (nar .boolean (own_fE_0 c0))) with hc | hc
    · have hn : own_bit (nar .boolean (own_fE_0 c0)) = (0 : Int32) := own_t hc rfl
      rw [hn] at k
      show Steps p.tables e below (T8.setTop (mkF m 44 #[.val (.int p0), .val (.int p1), .val (.int p2), .val (.int c0), .val (.int c1), .val (.int c2), .val (.ref b), .unset, .unset, .unset, .unset, .unset, .unset, .unset, .unset, .unset, .unset, .unset, .unset, .unset] [(.int (nar .boolean (own_fE_0 c0))), (.int (1 : Int32))])) _
      refine XS.ifYes X8.here hx rfl (pc0 := 44) (pc' := 51) rfl (hb hby at_44) rfl hc (by decide) (by decide) ?_
      show Steps p.tables e below (T8.setTop (mkF m 51 #[.val (.int p0), .val (.int p1), .val (.int p2), .val (.int c0), .val (.int c1), .val (.int c2), .val (.ref b), .unset, .unset, .unset, .unset, .unset, .unset, .unset, .unset, .unset, .unset, .unset, .unset, .unset] [(.int (1 : Int32))])) _
      refine XS.iconst X8.here hx rfl (hb hby at_51) ?_
      exact k
    · have hn : own_bit (nar .boolean (own_fE_0 c0)) = (1 : Int32) := own_f hc rfl
      rw [hn] at k
      show Steps p.tables e below (T8.setTop (mkF m 44 #[.val (.int p0), .val (.int p1), .val (.int p2), .val (.int c0), .val (.int c1), .val (.int c2), .val (.ref b), .unset, .unset, .unset, .unset, .unset, .unset, .unset, .unset, .unset, .unset, .unset, .unset, .unset] [(.int (nar .boolean (own_fE_0 c0))), (.int (1 : Int32))])) _
      refine XS.ifNo X8.here hx rfl (hb hby at_44) rfl hc ?_
      show Steps p.tables e below (T8.setTop (mkF m 47 #[.val (.int p0), .val (.int p1), .val (.int p2), .val (.int c0), .val (.int c1), .val (.int c2), .val (.ref b), .unset, .unset, .unset, .unset, .unset, .unset, .unset, .unset, .unset, .unset, .unset, .unset, .unset] [(.int (1 : Int32))])) _
      refine XS.iconst X8.here hx rfl (hb hby at_47) ?_
      show Steps p.tables e below (T8.setTop (mkF m 48 #[.val (.int p0), .val (.int p1), .val (.int p2), .val (.int c0), .val (.int c1), .val (.int c2), .val (.ref b), .unset, .unset, .unset, .unset, .unset, .unset, .unset, .unset, .unset, .unset, .unset, .unset, .unset] [(.int (1 : Int32)), (.int (1 : Int32))])) _
      refine XS.goto X8.here hx rfl (pc0 := 48) (pc' := 52) rfl (hb hby at_48) (by decide) (by decide) ?_
      exact k
  obtain ⟨T9, L9, X9, e9, N9, st9⟩ := own_callS X8 hx hZ (y := (⟨"com/example/amberwire/amberwire/core/text/PlaceCounterPassPinLaw", "endsLine", "(CC)Z"⟩ : MethodName)) hown (hw _ (List.mem_of_getElem? (i := 8) rfl)) (hw _ (List.mem_of_getElem? (i := 9) rfl)) (hw _ (List.mem_of_getElem? (i := 2) rfl)) (hw _ (List.mem_of_getElem? (i := 10) rfl)) (by decide) (W := 1) (own_rmEL l Z a0 hw [] c0 c1 h7 n0) (by decide) (by decide) (g := (mkF m 60 #[.val (.int p0), .val (.int p1), .val (.int p2), .val (.int c0), .val (.int c1), .val (.int c2), .val (.ref b), .val (.int ((1 : Int32) + (own_bit (nar .boolean (own_fE_0 c0))))), .unset, .unset, .unset, .unset, .unset, .unset, .unset, .unset, .unset, .unset, .unset, .unset] [(.int c1), (.int c0), (.int ((1 : Int32) + (own_bit (nar .boolean (own_fE_0 c0)))))])) rfl (by rw [hml]; rfl) (rest := [(.int ((1 : Int32) + (own_bit (nar .boolean (own_fE_0 c0)))))]) (lenOf own_pdEL rfl) rfl (by show 2 * 0 + _ ≤ _; exact Nat.le_of_eq rfl) (hb hby at_60) (by decide) (by decide) e8 N8
  have sb63 : ∀ t, Steps p.tables e below (T9.setTop (mkF m 71 #[.val (.int p0), .val (.int p1), .val (.int p2), .val (.int c0), .val (.int c1), .val (.int c2), .val (.ref b), .val (.int ((1 : Int32) + (own_bit (nar .boolean (own_fE_0 c0))))), .unset, .unset, .unset, .unset, .unset, .unset, .unset, .unset, .unset, .unset, .unset, .unset] [(.int (own_bit (nar .boolean (own_fEL_0 c0 c1)))), (.int ((1 : Int32) + (own_bit (nar .boolean (own_fE_0 c0)))))])) t → Steps p.tables e below (T9.setTop (mkF m 63 #[.val (.int p0), .val (.int p1), .val (.int p2), .val (.int c0), .val (.int c1), .val (.int c2), .val (.ref b), .val (.int ((1 : Int32) + (own_bit (nar .boolean (own_fE_0 c0))))), .unset, .unset, .unset, .unset, .unset, .unset, .unset, .unset, .unset, .unset, .unset, .unset] [(.int (nar .boolean (own_fEL_0 c0 c1))), (.int ((1 : Int32) + (own_bit (nar .boolean (own_fE_0 c0)))))])) t := by
    intro t k
    rcases own_tf (ifCond.holds .eq (nar .boolean (own_fEL_0 c0 c1))) with hc | hc
    · have hn : own_bit (nar .boolean (own_fEL_0 c0 c1)) = (0 : Int32) := own_t hc rfl
      rw [hn] at k
      show Steps p.tables e below (T9.setTop (mkF m 63 #[.val (.int p0), .val (.int p1), .val (.int p2), .val (.int c0), .val (.int c1), .val (.int c2), .val (.ref b), .val (.int ((1 : Int32) + (own_bit (nar .boolean (own_fE_0 c0))))), .unset, .unset, .unset, .unset, .unset, .unset, .unset, .unset, .unset, .unset, .unset, .unset] [(.int (nar .boolean (own_fEL_0 c0 c1))), (.int ((1 : Int32) + (own_bit (nar .boolean (own_fE_0 c0)))))])) _
      refine XS.ifYes X9.here hx rfl (pc0 := 63) (pc' := 70) rfl (hb hby at_63) rfl hc (by decide) (by decide) ?_
      show Steps p.tables e below (T9.setTop (mkF m 70 #[.val (.int p0), .val (.int p1), .val (.int p2), .val (.int c0), .val (.int c1), .val (.int c2), .val (.ref b), .val (.int ((1 : Int32) + (own_bit (nar .boolean (own_fE_0 c0))))), .unset, .unset, .unset, .unset, .unset, .unset, .unset, .unset, .unset, .unset, .unset, .unset] [(.int ((1 : Int32) + (own_bit (nar .boolean (own_fE_0 c0)))))])) _
      refine XS.iconst X9.here hx rfl (hb hby at_70) ?_
      exact k
    · have hn : own_bit (nar .boolean (own_fEL_0 c0 c1)) = (1 : Int32) := own_f hc rfl
      rw [hn] at k
      show Steps p.tables e below (T9.setTop (mkF m 63 #[.val (.int p0), .val (.int p1), .val (.int p2), .val (.int c0), .val (.int c1), .val (.int c2), .val (.ref b), .val (.int ((1 : Int32) + (own_bit (nar .boolean (own_fE_0 c0))))), .unset, .unset, .unset, .unset, .unset, .unset, .unset, .unset, .unset, .unset, .unset, .unset] [(.int (nar .boolean (own_fEL_0 c0 c1))), (.int ((1 : Int32) + (own_bit (nar .boolean (own_fE_0 c0)))))])) _
      refine XS.ifNo X9.here hx rfl (hb hby at_63) rfl hc ?_
      show Steps p.tables e below (T9.setTop (mkF m 66 #[.val (.int p0), .val (.int p1), .val (.int p2), .val (.int c0), .val (.int c1), .val (.int c2), .val (.ref b), .val (.int ((1 : Int32) + (own_bit (nar .boolean (own_fE_0 c0))))), .unset, .unset, .unset, .unset, .unset, .unset, .unset, .unset, .unset, .unset, .unset, .unset] [(.int ((1 : Int32) + (own_bit (nar .boolean (own_fE_0 c0)))))])) _
      refine XS.iconst X9.here hx rfl (hb hby at_66) ?_
      show Steps p.tables e below (T9.setTop (mkF m 67 #[.val (.int p0), .val (.int p1), .val (.int p2), .val (.int c0), .val (.int c1), .val (.int c2), .val (.ref b), .val (.int ((1 : Int32) + (own_bit (nar .boolean (own_fE_0 c0))))), .unset, .unset, .unset, .unset, .unset, .unset, .unset, .unset, .unset, .unset, .unset, .unset] [(.int (1 : Int32)), (.int ((1 : Int32) + (own_bit (nar .boolean (own_fE_0 c0)))))])) _
      refine XS.goto X9.here hx rfl (pc0 := 67) (pc' := 71) rfl (hb hby at_67) (by decide) (by decide) ?_
      exact k
  obtain ⟨T10, L10, X10, e10, N10, st10⟩ := own_callS X9 hx hZ (y := (⟨"com/example/amberwire/amberwire/core/text/PlaceCounterPassPinLaw", "endsLine", "(CC)Z"⟩ : MethodName)) hown (hw _ (List.mem_of_getElem? (i := 8) rfl)) (hw _ (List.mem_of_getElem? (i := 9) rfl)) (hw _ (List.mem_of_getElem? (i := 2) rfl)) (hw _ (List.mem_of_getElem? (i := 10) rfl)) (by decide) (W := 1) (own_rmEL l Z a0 hw [] c1 c2 h7 n0) (by decide) (by decide) (g := (mkF m 80 #[.val (.int p0), .val (.int p1), .val (.int p2), .val (.int c0), .val (.int c1), .val (.int c2), .val (.ref b), .val (.int ((1 : Int32) + (own_bit (nar .boolean (own_fE_0 c0))))), .val (.int (((1 : Int32) + (own_bit (nar .boolean (own_fE_0 c0)))) + (own_bit (nar .boolean (own_fEL_0 c0 c1))))), .unset, .unset, .unset, .unset, .unset, .unset, .unset, .unset, .unset, .unset, .unset] [(.int c2), (.int c1), (.int (((1 : Int32) + (own_bit (nar .boolean (own_fE_0 c0)))) + (own_bit (nar .boolean (own_fEL_0 c0 c1)))))])) rfl (by rw [hml]; rfl) (rest := [(.int (((1 : Int32) + (own_bit (nar .boolean (own_fE_0 c0)))) + (own_bit (nar .boolean (own_fEL_0 c0 c1)))))]) (lenOf own_pdEL rfl) rfl (by show 2 * 0 + _ ≤ _; exact Nat.le_of_eq rfl) (hb hby at_80) (by decide) (by decide) e9 N9
  have sb83 : ∀ t, Steps p.tables e below (T10.setTop (mkF m 91 #[.val (.int p0), .val (.int p1), .val (.int p2), .val (.int c0), .val (.int c1), .val (.int c2), .val (.ref b), .val (.int ((1 : Int32) + (own_bit (nar .boolean (own_fE_0 c0))))), .val (.int (((1 : Int32) + (own_bit (nar .boolean (own_fE_0 c0)))) + (own_bit (nar .boolean (own_fEL_0 c0 c1))))), .unset, .unset, .unset, .unset, .unset, .unset, .unset, .unset, .unset, .unset, .unset] [(.int (own_bit (nar .boolean (own_fEL_0 c1 c2)))), (.int (((1 : Int32) + (own_bit (nar .boolean (own_fE_0 c0)))) + (own_bit (nar .boolean (own_fEL_0 c0 c1)))))])) t → Steps p.tables e below (T10.setTop (mkF m 83 #[.val (.int p0), .val (.int p1), .val (.int p2), .val (.int c0), .val (.int c1), .val (.int c2), .val (.ref b), .val (.int ((1 : Int32) + (own_bit (nar .boolean (own_fE_0 c0))))), .val (.int (((1 : Int32) + (own_bit (nar .boolean (own_fE_0 c0)))) + (own_bit (nar .boolean (own_fEL_0 c0 c1))))), .unset, .unset, .unset, .unset, .unset, .unset, .unset, .unset, .unset, .unset, .unset] [(.int (nar .boolean (own_fEL_0 c1 c2))), (.int (((1 : Int32) + (own_bit (nar .boolean (own_fE_0 c0)))) + (own_bit (nar .boolean (own_fEL_0 c0 c1)))))])) t := by
    intro t k
    rcases own_tf (ifCond.holds .eq (nar .boolean (own_fEL_0 c1 c2))) with hc | hc
    · have hn : own_bit (nar .boolean (own_fEL_0 c1 c2)) = (0 : Int32) := own_t hc rfl
      rw [hn] at k
      show Steps p.tables e below (T10.setTop (mkF m 83 #[.val (.int p0), .val (.int p1), .val (.int p2), .val (.int c0), .val (.int c1), .val (.int c2), .val (.ref b), .val (.int ((1 : Int32) + (own_bit (nar .boolean (own_fE_0 c0))))), .val (.int (((1 : Int32) + (own_bit (nar .boolean (own_fE_0 c0)))) + (own_bit (nar .boolean (own_fEL_0 c0 c1))))), .unset, .unset, .unset, .unset, .unset, .unset, .unset, .unset, .unset, .unset, .unset] [(.int (nar .boolean (own_fEL_0 c1 c2))), (.int (((1 : Int32) + (own_bit (nar .boolean (own_fE_0 c0)))) + (own_bit (nar .boolean (own_fEL_0 c0 c1)))))])) _
      refine XS.ifYes X10.here hx rfl (pc0 := 83) (pc' := 90) rfl (hb hby at_83) rfl hc (by decide) (by decide) ?_
      show Steps p.tables e below (T10.setTop (mkF m 90 #[.val (.int p0), .val (.int p1), .val (.int p2), .val (.int c0), .val (.int c1), .val (.int c2), .val (.ref b), .val (.int ((1 : Int32) + (own_bit (nar .boolean (own_fE_0 c0))))), .val (.int (((1 : Int32) + (own_bit (nar .boolean (own_fE_0 c0)))) + (own_bit (nar .boolean (own_fEL_0 c0 c1))))), .unset, .unset, .unset, .unset, .unset, .unset, .unset, .unset, .unset, .unset, .unset] [(.int (((1 : Int32) + (own_bit (nar .boolean (own_fE_0 c0)))) + (own_bit (nar .boolean (own_fEL_0 c0 c1)))))])) _
      refine XS.iconst X10.here hx rfl (hb hby at_90) ?_
      exact k
    · have hn : own_bit (nar .boolean (own_fEL_0 c1 c2)) = (1 : Int32) := own_f hc rfl
      rw [hn] at k
      show Steps p.tables e below (T10.setTop (mkF m 83 #[.val (.int p0), .val (.int p1), .val (.int p2), .val (.int c0), .val (.int c1), .val (.int c2), .val (.ref b), .val (.int ((1 : Int32) + (own_bit (nar .boolean (own_fE_0 c0))))), .val (.int (((1 : Int32) + (own_bit (nar .boolean (own_fE_0 c0)))) + (own_bit (nar .boolean (own_fEL_0 c0 c1))))), .unset, .unset, .unset, .unset, .unset, .unset, .unset, .unset, .unset, .unset, .unset] [(.int (nar .boolean (own_fEL_0 c1 c2))), (.int (((1 : Int32) + (own_bit (nar .boolean (own_fE_0 c0)))) + (own_bit (nar .boolean (own_fEL_0 c0 c1)))))])) _
      refine XS.ifNo X10.here hx rfl (hb hby at_83) rfl hc ?_
      show Steps p.tables e below (T10.setTop (mkF m 86 #[.val (.int p0), .val (.int p1), .val (.int p2), .val (.int c0), .val (.int c1), .val (.int c2), .val (.ref b), .val (.int ((1 : Int32) + (own_bit (nar .boolean (own_fE_0 c0))))), .val (.int (((1 : Int32) + (own_bit (nar .boolean (own_fE_0 c0)))) + (own_bit (nar .boolean (own_fEL_0 c0 c1))))), .unset, .unset, .unset, .unset, .unset, .unset, .unset, .unset, .unset, .unset, .unset] [(.int (((1 : Int32) + (own_bit (nar .boolean (own_fE_0 c0)))) + (own_bit (nar .boolean (own_fEL_0 c0 c1)))))])) _
      refine XS.iconst X10.here hx rfl (hb hby at_86) ?_
      show Steps p.tables e below (T10.setTop (mkF m 87 #[.val (.int p0), .val (.int p1), .val (.int p2), .val (.int c0), .val (.int c1), .val (.int c2), .val (.ref b), .val (.int ((1 : Int32) + (own_bit (nar .boolean (own_fE_0 c0))))), .val (.int (((1 : Int32) + (own_bit (nar .boolean (own_fE_0 c0)))) + (own_bit (nar .boolean (own_fEL_0 c0 c1))))), .unset, .unset, .unset, .unset, .unset, .unset, .unset, .unset, .unset, .unset, .unset] [(.int (1 : Int32)), (.int (((1 : Int32) + (own_bit (nar .boolean (own_fE_0 c0)))) + (own_bit (nar .boolean (own_fEL_0 c0 c1)))))])) _
      refine XS.goto X10.here hx rfl (pc0 := 87) (pc' := 91) rfl (hb hby at_87) (by decide) (by decide) ?_
      exact k
  obtain ⟨T11, h11, X11, e11, E11, A11, D11, -, st11⟩ := newO X10 hx hZ hown (hw _ (List.mem_of_getElem? (i := 11) rfl)) (hw _ (List.mem_of_getElem? (i := 12) rfl)) (hw _ (List.mem_of_getElem? (i := 13) rfl)) e10 (g := (mkF m 94 #[.val (.int p0), .val (.int p1), .val (.int p2), .val (.int c0), .val (.int c1), .val (.int c2), .val (.ref b), .val (.int ((1 : Int32) + (own_bit (nar .boolean (own_fE_0 c0))))), .val (.int (((1 : Int32) + (own_bit (nar .boolean (own_fE_0 c0)))) + (own_bit (nar .boolean (own_fEL_0 c0 c1))))), .val (.int ((((1 : Int32) + (own_bit (nar .boolean (own_fE_0 c0)))) + (own_bit (nar .boolean (own_fEL_0 c0 c1)))) + (own_bit (nar .boolean (own_fEL_0 c1 c2))))), .unset, .unset, .unset, .unset, .unset, .unset, .unset, .unset, .unset, .unset] [])) rfl (hb hby at_94) (by decide) (by decide)
  obtain ⟨a, gA⟩ : ∃ z, z = h7.size := ⟨_, rfl⟩
  rw [← gA] at A11 D11 st11
  have V11 := own_A3_ext V7 E11
  have P11 : own_PC Z h11 a 0 0 0 := ⟨A11, D11 (Or.inl (hw _ (List.mem_of_getElem? (i := 21) rfl))) (ty := .int) (by decide), D11 (Or.inl (hw _ (List.mem_of_getElem? (i := 30) rfl))) (ty := .int) (by decide), D11 (Or.inl (hw _ (List.mem_of_getElem? (i := 28) rfl))) (ty := .boolean) (by decide)⟩
  have hba : b ∉ [a] := by
    have hb1 : b < h7.size := by obtain ⟨cl, A, -⟩ := V7; exact A.lt
    intro q; have q2 := List.mem_singleton.mp q; rw [q2, gA] at hb1; exact absurd hb1 (Nat.lt_irrefl _)
  have ga : n0 ≤ a := by
    have hb1 : b < h7.size := by obtain ⟨cl, A, -⟩ := V7; exact A.lt
    rw [gA]; exact Nat.le_of_lt (Nat.lt_of_le_of_lt gb0 hb1)
  obtain ⟨v12, T12, L12, X12, hQ12, st12⟩ := own_callN X11 hx hZ (y := (⟨"com/example/amberwire/amberwire/core/text/PlaceCounter", "<init>", "()V"⟩ : MethodName)) rfl hown (hw _ (List.mem_of_getElem? (i := 14) rfl)) (hw _ (List.mem_of_getElem? (i := 15) rfl)) (hw _ (List.mem_of_getElem? (i := 13) rfl)) (hw _ (List.mem_of_getElem? (i := 16) rfl)) (by decide) (W := 1) (own_rmI l Z a0 hw [] a h11 n0 0 0 0 P11 ga) (by decide) (by decide) (g := (mkF m 98 #[.val (.int p0), .val (.int p1), .val (.int p2), .val (.int c0), .val (.int c1), .val (.int c2), .val (.ref b), .val (.int ((1 : Int32) + (own_bit (nar .boolean (own_fE_0 c0))))), .val (.int (((1 : Int32) + (own_bit (nar .boolean (own_fE_0 c0)))) + (own_bit (nar .boolean (own_fEL_0 c0 c1))))), .val (.int ((((1 : Int32) + (own_bit (nar .boolean (own_fE_0 c0)))) + (own_bit (nar .boolean (own_fEL_0 c0 c1)))) + (own_bit (nar .boolean (own_fEL_0 c1 c2))))), .unset, .unset, .unset, .unset, .unset, .unset, .unset, .unset, .unset, .unset] [(.ref a), (.ref a)])) rfl (by rw [hml]; rfl) (argsL := []) (rest := [(.ref a)]) (lenOf own_pdI rfl) rfl (by show 2 * 0 + _ ≤ _; exact Nat.le_of_eq rfl) (hb hby at_98) (by decide) (by decide) e11
  obtain ⟨rfl, M12, K12, P12⟩ := hQ12
  have N12 := Fr.app N10 M12
  have V12 := own_A3_keep V11 K12 hba
  have e12 : T12.heap = T12.heap := rfl
  obtain ⟨v13, T13, L13, X13, hQ13, st13⟩ := own_callV X12 hx hZ (y := (⟨"com/example/amberwire/amberwire/core/text/PlaceCounter", "pass", "(C)V"⟩ : MethodName)) hown (hw _ (List.mem_of_getElem? (i := 22) rfl)) (hw _ (List.mem_of_getElem? (i := 23) rfl)) (hw _ (List.mem_of_getElem? (i := 24) rfl)) (hw _ (List.mem_of_getElem? (i := 25) rfl)) (hw _ (List.mem_of_getElem? (i := 13) rfl)) (hw _ (List.mem_of_getElem? (i := 26) rfl)) (by decide) (W := 0) (own_rmPS l Z a0 hw [] a c0 T12.heap n0 (1) (0) (0) P12 ga) (by decide) (by decide) P12.1 (g := (mkF m 106 #[.val (.int p0), .val (.int p1), .val (.int p2), .val (.int c0), .val (.int c1), .val (.int c2), .val (.ref b), .val (.int ((1 : Int32) + (own_bit (nar .boolean (own_fE_0 c0))))), .val (.int (((1 : Int32) + (own_bit (nar .boolean (own_fE_0 c0)))) + (own_bit (nar .boolean (own_fEL_0 c0 c1))))), .val (.int ((((1 : Int32) + (own_bit (nar .boolean (own_fE_0 c0)))) + (own_bit (nar .boolean (own_fEL_0 c0 c1)))) + (own_bit (nar .boolean (own_fEL_0 c1 c2))))), .val (.ref a), .unset, .unset, .unset, .unset, .unset, .unset, .unset, .unset, .unset] [(.int c0), (.ref a)])) rfl (by rw [hml]; rfl) (argsL := [(.int c0)]) (rest := []) (lenOf own_pdPS rfl) rfl (by show 2 * 0 + _ ≤ _; exact Nat.le_of_eq rfl) (hb hby at_106) (by decide) (by decide) e12
  obtain ⟨rfl, M13, K13, P13⟩ := hQ13
  have N13 := Fr.app N12 M13
  have V13 := own_A3_keep V12 K13 hba
  have e13 : T13.heap = T13.heap := rfl
  obtain ⟨u0, gL0⟩ : ∃ z, z = own_pL c0 (1) (0) := ⟨_, rfl⟩
  obtain ⟨v0, gC0⟩ : ∃ z, z = own_pC c0 (0) (0) := ⟨_, rfl⟩
  obtain ⟨x0, gA0⟩ : ∃ z, z = own_pA c0 := ⟨_, rfl⟩
  rw [← gL0, ← gC0, ← gA0] at P13
  obtain ⟨v14, T14, L14, X14, hQ14, st14⟩ := own_callV X13 hx hZ (y := (⟨"com/example/amberwire/amberwire/core/text/PlaceCounter", "line", "()I"⟩ : MethodName)) hown (hw _ (List.mem_of_getElem? (i := 31) rfl)) (hw _ (List.mem_of_getElem? (i := 32) rfl)) (hw _ (List.mem_of_getElem? (i := 33) rfl)) (hw _ (List.mem_of_getElem? (i := 34) rfl)) (hw _ (List.mem_of_getElem? (i := 13) rfl)) (hw _ (List.mem_of_getElem? (i := 35) rfl)) (by decide) (W := 0) (own_rmLN l Z a0 hw [] a T13.heap n0 u0 v0 x0 P13) (by decide) (by decide) P13.1 (g := (mkF m 111 #[.val (.int p0), .val (.int p1), .val (.int p2), .val (.int c0), .val (.int c1), .val (.int c2), .val (.ref b), .val (.int ((1 : Int32) + (own_bit (nar .boolean (own_fE_0 c0))))), .val (.int (((1 : Int32) + (own_bit (nar .boolean (own_fE_0 c0)))) + (own_bit (nar .boolean (own_fEL_0 c0 c1))))), .val (.int ((((1 : Int32) + (own_bit (nar .boolean (own_fE_0 c0)))) + (own_bit (nar .boolean (own_fEL_0 c0 c1)))) + (own_bit (nar .boolean (own_fEL_0 c1 c2))))), .val (.ref a), .unset, .unset, .unset, .unset, .unset, .unset, .unset, .unset, .unset] [(.ref a)])) rfl (by rw [hml]; rfl) (argsL := []) (rest := []) (lenOf own_pdLN rfl) rfl (by show 2 * 0 + _ ≤ _; exact Nat.le_of_eq rfl) (hb hby at_111) (by decide) (by decide) e13
  obtain ⟨rfl, M14, e14⟩ := hQ14
  have N14 := Fr.app N13 M14
  obtain ⟨v15, T15, L15, X15, hQ15, st15⟩ := own_callV X14 hx hZ (y := (⟨"com/example/amberwire/amberwire/core/text/PlaceCounter", "column", "()I"⟩ : MethodName)) hown (hw _ (List.mem_of_getElem? (i := 36) rfl)) (hw _ (List.mem_of_getElem? (i := 37) rfl)) (hw _ (List.mem_of_getElem? (i := 38) rfl)) (hw _ (List.mem_of_getElem? (i := 39) rfl)) (hw _ (List.mem_of_getElem? (i := 13) rfl)) (hw _ (List.mem_of_getElem? (i := 40) rfl)) (by decide) (W := 0) (own_rmCN l Z a0 hw [] a T13.heap n0 u0 v0 x0 P13) (by decide) (by decide) P13.1 (g := (mkF m 118 #[.val (.int p0), .val (.int p1), .val (.int p2), .val (.int c0), .val (.int c1), .val (.int c2), .val (.ref b), .val (.int ((1 : Int32) + (own_bit (nar .boolean (own_fE_0 c0))))), .val (.int (((1 : Int32) + (own_bit (nar .boolean (own_fE_0 c0)))) + (own_bit (nar .boolean (own_fEL_0 c0 c1))))), .val (.int ((((1 : Int32) + (own_bit (nar .boolean (own_fE_0 c0)))) + (own_bit (nar .boolean (own_fEL_0 c0 c1)))) + (own_bit (nar .boolean (own_fEL_0 c1 c2))))), .val (.ref a), .val (.int u0), .unset, .unset, .unset, .unset, .unset, .unset, .unset, .unset] [(.ref a)])) rfl (by rw [hml]; rfl) (argsL := []) (rest := []) (lenOf own_pdCN rfl) rfl (by show 2 * 0 + _ ≤ _; exact Nat.le_of_eq rfl) (hb hby at_118) (by decide) (by decide) e14
  obtain ⟨rfl, M15, e15⟩ := hQ15
  have N15 := Fr.app N14 M15
  obtain ⟨v16, T16, L16, X16, hQ16, st16⟩ := own_callV X15 hx hZ (y := (⟨"com/example/amberwire/amberwire/core/text/PlaceCounter", "pass", "(C)V"⟩ : MethodName)) hown (hw _ (List.mem_of_getElem? (i := 22) rfl)) (hw _ (List.mem_of_getElem? (i := 23) rfl)) (hw _ (List.mem_of_getElem? (i := 24) rfl)) (hw _ (List.mem_of_getElem? (i := 25) rfl)) (hw _ (List.mem_of_getElem? (i := 13) rfl)) (hw _ (List.mem_of_getElem? (i := 26) rfl)) (by decide) (W := 0) (own_rmPS l Z a0 hw [] a c1 T13.heap n0 (u0) (v0) (x0) P13 ga) (by decide) (by decide) P13.1 (g := (mkF m 127 #[.val (.int p0), .val (.int p1), .val (.int p2), .val (.int c0), .val (.int c1), .val (.int c2), .val (.ref b), .val (.int ((1 : Int32) + (own_bit (nar .boolean (own_fE_0 c0))))), .val (.int (((1 : Int32) + (own_bit (nar .boolean (own_fE_0 c0)))) + (own_bit (nar .boolean (own_fEL_0 c0 c1))))), .val (.int ((((1 : Int32) + (own_bit (nar .boolean (own_fE_0 c0)))) + (own_bit (nar .boolean (own_fEL_0 c0 c1)))) + (own_bit (nar .boolean (own_fEL_0 c1 c2))))), .val (.ref a), .val (.int u0), .val (.int v0), .unset, .unset, .unset, .unset, .unset, .unset, .unset] [(.int c1), (.ref a)])) rfl (by rw [hml]; rfl) (argsL := [(.int c1)]) (rest := []) (lenOf own_pdPS rfl) rfl (by show 2 * 0 + _ ≤ _; exact Nat.le_of_eq rfl) (hb hby at_127) (by decide) (by decide) e15
  obtain ⟨rfl, M16, K16, P16⟩ := hQ16
  have N16 := Fr.app N15 M16
  have V16 := own_A3_keep V13 K16 hba
  have e16 : T16.heap = T16.heap := rfl
  obtain ⟨u1, gL1⟩ : ∃ z, z = own_pL c1 (u0) (x0) := ⟨_, rfl⟩
  obtain ⟨v1, gC1⟩ : ∃ z, z = own_pC c1 (v0) (x0) := ⟨_, rfl⟩
  obtain ⟨x1, gA1⟩ : ∃ z, z = own_pA c1 := ⟨_, rfl⟩
  rw [← gL1, ← gC1, ← gA1] at P16
  obtain ⟨v17, T17, L17, X17, hQ17, st17⟩ := own_callV X16 hx hZ (y := (⟨"com/example/amberwire/amberwire/core/text/PlaceCounter", "line", "()I"⟩ : MethodName)) hown (hw _ (List.mem_of_getElem? (i := 31) rfl)) (hw _ (List.mem_of_getElem? (i := 32) rfl)) (hw _ (List.mem_of_getElem? (i := 33) rfl)) (hw _ (List.mem_of_getElem? (i := 34) rfl)) (hw _ (List.mem_of_getElem? (i := 13) rfl)) (hw _ (List.mem_of_getElem? (i := 35) rfl)) (by decide) (W := 0) (own_rmLN l Z a0 hw [] a T16.heap n0 u1 v1 x1 P16) (by decide) (by decide) P16.1 (g := (mkF m 132 #[.val (.int p0), .val (.int p1), .val (.int p2), .val (.int c0), .val (.int c1), .val (.int c2), .val (.ref b), .val (.int ((1 : Int32) + (own_bit (nar .boolean (own_fE_0 c0))))), .val (.int (((1 : Int32) + (own_bit (nar .boolean (own_fE_0 c0)))) + (own_bit (nar .boolean (own_fEL_0 c0 c1))))), .val (.int ((((1 : Int32) + (own_bit (nar .boolean (own_fE_0 c0)))) + (own_bit (nar .boolean (own_fEL_0 c0 c1)))) + (own_bit (nar .boolean (own_fEL_0 c1 c2))))), .val (.ref a), .val (.int u0), .val (.int v0), .unset, .unset, .unset, .unset, .unset, .unset, .unset] [(.ref a)])) rfl (by rw [hml]; rfl) (argsL := []) (rest := []) (lenOf own_pdLN rfl) rfl (by show 2 * 0 + _ ≤ _; exact Nat.le_of_eq rfl) (hb hby at_132) (by decide) (by decide) e16
  obtain ⟨rfl, M17, e17⟩ := hQ17
  have N17 := Fr.app N16 M17
  obtain ⟨v18, T18, L18, X18, hQ18, st18⟩ := own_callV X17 hx hZ (y := (⟨"com/example/amberwire/amberwire/core/text/PlaceCounter", "column", "()I"⟩ : MethodName)) hown (hw _ (List.mem_of_getElem? (i := 36) rfl)) (hw _ (List.mem_of_getElem? (i := 37) rfl)) (hw _ (List.mem_of_getElem? (i := 38) rfl)) (hw _ (List.mem_of_getElem? (i := 39) rfl)) (hw _ (List.mem_of_getElem? (i := 13) rfl)) (hw _ (List.mem_of_getElem? (i := 40) rfl)) (by decide) (W := 0) (own_rmCN l Z a0 hw [] a T16.heap n0 u1 v1 x1 P16) (by decide) (by decide) P16.1 (g := (mkF m 139 #[.val (.int p0), .val (.int p1), .val (.int p2), .val (.int c0), .val (.int c1), .val (.int c2), .val (.ref b), .val (.int ((1 : Int32) + (own_bit (nar .boolean (own_fE_0 c0))))), .val (.int (((1 : Int32) + (own_bit (nar .boolean (own_fE_0 c0)))) + (own_bit (nar .boolean (own_fEL_0 c0 c1))))), .val (.int ((((1 : Int32) + (own_bit (nar .boolean (own_fE_0 c0)))) + (own_bit (nar .boolean (own_fEL_0 c0 c1)))) + (own_bit (nar .boolean (own_fEL_0 c1 c2))))), .val (.ref a), .val (.int u0), .val (.int v0), .val (.int u1), .unset, .unset, .unset, .unset, .unset, .unset] [(.ref a)])) rfl (by rw [hml]; rfl) (argsL := []) (rest := []) (lenOf own_pdCN rfl) rfl (by show 2 * 0 + _ ≤ _; exact Nat.le_of_eq rfl) (hb hby at_139) (by decide) (by decide) e17
  obtain ⟨rfl, M18, e18⟩ := hQ18
  have N18 := Fr.app N17 M18
  obtain ⟨v19, T19, L19, X19, hQ19, st19⟩ := own_callV X18 hx hZ (y := (⟨"com/example/amberwire/amberwire/core/text/PlaceCounter", "pass", "(C)V"⟩ : MethodName)) hown (hw _ (List.mem_of_getElem? (i := 22) rfl)) (hw _ (List.mem_of_getElem? (i := 23) rfl)) (hw _ (List.mem_of_getElem? (i := 24) rfl)) (hw _ (List.mem_of_getElem? (i := 25) rfl)) (hw _ (List.mem_of_getElem? (i := 13) rfl)) (hw _ (List.mem_of_getElem? (i := 26) rfl)) (by decide) (W := 0) (own_rmPS l Z a0 hw [] a c2 T16.heap n0 (u1) (v1) (x1) P16 ga) (by decide) (by decide) P16.1 (g := (mkF m 148 #[.val (.int p0), .val (.int p1), .val (.int p2), .val (.int c0), .val (.int c1), .val (.int c2), .val (.ref b), .val (.int ((1 : Int32) + (own_bit (nar .boolean (own_fE_0 c0))))), .val (.int (((1 : Int32) + (own_bit (nar .boolean (own_fE_0 c0)))) + (own_bit (nar .boolean (own_fEL_0 c0 c1))))), .val (.int ((((1 : Int32) + (own_bit (nar .boolean (own_fE_0 c0)))) + (own_bit (nar .boolean (own_fEL_0 c0 c1)))) + (own_bit (nar .boolean (own_fEL_0 c1 c2))))), .val (.ref a), .val (.int u0), .val (.int v0), .val (.int u1), .val (.int v1), .unset, .unset, .unset, .unset, .unset] [(.int c2), (.ref a)])) rfl (by rw [hml]; rfl) (argsL := [(.int c2)]) (rest := []) (lenOf own_pdPS rfl) rfl (by show 2 * 0 + _ ≤ _; exact Nat.le_of_eq rfl) (hb hby at_148) (by decide) (by decide) e18
  obtain ⟨rfl, M19, K19, P19⟩ := hQ19
  have N19 := Fr.app N18 M19
  have V19 := own_A3_keep V16 K19 hba
  have e19 : T19.heap = T19.heap := rfl
  obtain ⟨u2, gL2⟩ : ∃ z, z = own_pL c2 (u1) (x1) := ⟨_, rfl⟩
  obtain ⟨v2, gC2⟩ : ∃ z, z = own_pC c2 (v1) (x1) := ⟨_, rfl⟩
  obtain ⟨x2, gA2⟩ : ∃ z, z = own_pA c2 := ⟨_, rfl⟩
  rw [← gL2, ← gC2, ← gA2] at P19
  obtain ⟨v20, T20, L20, X20, hQ20, st20⟩ := own_callV X19 hx hZ (y := (⟨"com/example/amberwire/amberwire/core/text/PlaceCounter", "line", "()I"⟩ : MethodName)) hown (hw _ (List.mem_of_getElem? (i := 31) rfl)) (hw _ (List.mem_of_getElem? (i := 32) rfl)) (hw _ (List.mem_of_getElem? (i := 33) rfl)) (hw _ (List.mem_of_getElem? (i := 34) rfl)) (hw _ (List.mem_of_getElem? (i := 13) rfl)) (hw _ (List.mem_of_getElem? (i := 35) rfl)) (by decide) (W := 0) (own_rmLN l Z a0 hw [] a T19.heap n0 u2 v2 x2 P19) (by decide) (by decide) P19.1 (g := (mkF m 153 #[.val (.int p0), .val (.int p1), .val (.int p2), .val (.int c0), .val (.int c1), .val (.int c2), .val (.ref b), .val (.int ((1 : Int32) + (own_bit (nar .boolean (own_fE_0 c0))))), .val (.int (((1 : Int32) + (own_bit (nar .boolean (own_fE_0 c0)))) + (own_bit (nar .boolean (own_fEL_0 c0 c1))))), .val (.int ((((1 : Int32) + (own_bit (nar .boolean (own_fE_0 c0)))) + (own_bit (nar .boolean (own_fEL_0 c0 c1)))) + (own_bit (nar .boolean (own_fEL_0 c1 c2))))), .val (.ref a), .val (.int u0), .val (.int v0), .val (.int u1), .val (.int v1), .unset, .unset, .unset, .unset, .unset] [(.ref a)])) rfl (by rw [hml]; rfl) (argsL := []) (rest := []) (lenOf own_pdLN rfl) rfl (by show 2 * 0 + _ ≤ _; exact Nat.le_of_eq rfl) (hb hby at_153) (by decide) (by decide) e19
  obtain ⟨rfl, M20, e20⟩ := hQ20
  have N20 := Fr.app N19 M20
  obtain ⟨v21, T21, L21, X21, hQ21, st21⟩ := own_callV X20 hx hZ (y := (⟨"com/example/amberwire/amberwire/core/text/PlaceCounter", "column", "()I"⟩ : MethodName)) hown (hw _ (List.mem_of_getElem? (i := 36) rfl)) (hw _ (List.mem_of_getElem? (i := 37) rfl)) (hw _ (List.mem_of_getElem? (i := 38) rfl)) (hw _ (List.mem_of_getElem? (i := 39) rfl)) (hw _ (List.mem_of_getElem? (i := 13) rfl)) (hw _ (List.mem_of_getElem? (i := 40) rfl)) (by decide) (W := 0) (own_rmCN l Z a0 hw [] a T19.heap n0 u2 v2 x2 P19) (by decide) (by decide) P19.1 (g := (mkF m 160 #[.val (.int p0), .val (.int p1), .val (.int p2), .val (.int c0), .val (.int c1), .val (.int c2), .val (.ref b), .val (.int ((1 : Int32) + (own_bit (nar .boolean (own_fE_0 c0))))), .val (.int (((1 : Int32) + (own_bit (nar .boolean (own_fE_0 c0)))) + (own_bit (nar .boolean (own_fEL_0 c0 c1))))), .val (.int ((((1 : Int32) + (own_bit (nar .boolean (own_fE_0 c0)))) + (own_bit (nar .boolean (own_fEL_0 c0 c1)))) + (own_bit (nar .boolean (own_fEL_0 c1 c2))))), .val (.ref a), .val (.int u0), .val (.int v0), .val (.int u1), .val (.int v1), .val (.int u2), .unset, .unset, .unset, .unset] [(.ref a)])) rfl (by rw [hml]; rfl) (argsL := []) (rest := []) (lenOf own_pdCN rfl) rfl (by show 2 * 0 + _ ≤ _; exact Nat.le_of_eq rfl) (hb hby at_160) (by decide) (by decide) e20
  obtain ⟨rfl, M21, e21⟩ := hQ21
  have N21 := Fr.app N20 M21
  have hv0 : nar .char c0 = c0 := by rw [hc0]; exact own_nar2 _
  have hv1 : nar .char c1 = c1 := by rw [hc1]; exact own_nar2 _
  have hv2 : nar .char c2 = c2 := by rw [hc2]; exact own_nar2 _
  rw [hv0, hv1, hv2] at V19
  obtain ⟨j1, j2, j3, j4, j5, j6⟩ := own_plain c0 c1 c2 gL0 gC0 gA0 gL1 gC1 gA1 gL2 gC2 gA2
  obtain ⟨T22, L22, X22, e22, N22, st22⟩ := own_callS X21 hx hZ (y := (⟨"com/example/amberwire/amberwire/core/text/PlaceCounterPassPinLaw", "col", "([CI)I"⟩ : MethodName)) hown (hw _ (List.mem_of_getElem? (i := 41) rfl)) (hw _ (List.mem_of_getElem? (i := 42) rfl)) (hw _ (List.mem_of_getElem? (i := 2) rfl)) (hw _ (List.mem_of_getElem? (i := 43) rfl)) (by decide) (W := 1) (own_rmCO1 l Z a0 hw [] b T19.heap n0 c0 c1 c2 V19) (by decide) (by decide) (g := (mkF m 177 #[.val (.int p0), .val (.int p1), .val (.int p2), .val (.int c0), .val (.int c1), .val (.int c2), .val (.ref b), .val (.int ((1 : Int32) + (own_bit (nar .boolean (own_fE_0 c0))))), .val (.int (((1 : Int32) + (own_bit (nar .boolean (own_fE_0 c0)))) + (own_bit (nar .boolean (own_fEL_0 c0 c1))))), .val (.int ((((1 : Int32) + (own_bit (nar .boolean (own_fE_0 c0)))) + (own_bit (nar .boolean (own_fEL_0 c0 c1)))) + (own_bit (nar .boolean (own_fEL_0 c1 c2))))), .val (.ref a), .val (.int u0), .val (.int v0), .val (.int u1), .val (.int v1), .val (.int u2), .val (.int v2), .unset, .unset, .unset] [(.int (1 : Int32)), (.ref b), (.int v0)])) rfl (by rw [hml]; rfl) (rest := [(.int v0)]) (lenOf own_pdCO rfl) rfl (by show 2 * 0 + _ ≤ _; exact Nat.le_of_eq rfl) (hb hby at_177) (by decide) (by decide) e21 N21
  obtain ⟨T23, L23, X23, e23, N23, st23⟩ := own_callS X22 hx hZ (y := (⟨"com/example/amberwire/amberwire/core/text/PlaceCounterPassPinLaw", "col", "([CI)I"⟩ : MethodName)) hown (hw _ (List.mem_of_getElem? (i := 41) rfl)) (hw _ (List.mem_of_getElem? (i := 42) rfl)) (hw _ (List.mem_of_getElem? (i := 2) rfl)) (hw _ (List.mem_of_getElem? (i := 43) rfl)) (by decide) (W := 1) (own_rmCO2 l Z a0 hw [] b T19.heap n0 c0 c1 c2 V19) (by decide) (by decide) (g := (mkF m 202 #[.val (.int p0), .val (.int p1), .val (.int p2), .val (.int c0), .val (.int c1), .val (.int c2), .val (.ref b), .val (.int ((1 : Int32) + (own_bit (nar .boolean (own_fE_0 c0))))), .val (.int (((1 : Int32) + (own_bit (nar .boolean (own_fE_0 c0)))) + (own_bit (nar .boolean (own_fEL_0 c0 c1))))), .val (.int ((((1 : Int32) + (own_bit (nar .boolean (own_fE_0 c0)))) + (own_bit (nar .boolean (own_fEL_0 c0 c1)))) + (own_bit (nar .boolean (own_fEL_0 c1 c2))))), .val (.ref a), .val (.int u0), .val (.int v0), .val (.int u1), .val (.int v1), .val (.int u2), .val (.int v2), .val (.int (1 : Int32)), .unset, .unset] [(.int (2 : Int32)), (.ref b), (.int v1)])) rfl (by rw [hml]; rfl) (rest := [(.int v1)]) (lenOf own_pdCO rfl) rfl (by show 2 * 0 + _ ≤ _; exact Nat.le_of_eq rfl) (hb hby at_202) (by decide) (by decide) e22 N22
  obtain ⟨T24, L24, X24, e24, N24, st24⟩ := own_callS X23 hx hZ (y := (⟨"com/example/amberwire/amberwire/core/text/PlaceCounterPassPinLaw", "col", "([CI)I"⟩ : MethodName)) hown (hw _ (List.mem_of_getElem? (i := 41) rfl)) (hw _ (List.mem_of_getElem? (i := 42) rfl)) (hw _ (List.mem_of_getElem? (i := 2) rfl)) (hw _ (List.mem_of_getElem? (i := 43) rfl)) (by decide) (W := 1) (own_rmCO3 l Z a0 hw [] b T19.heap n0 c0 c1 c2 V19) (by decide) (by decide) (g := (mkF m 227 #[.val (.int p0), .val (.int p1), .val (.int p2), .val (.int c0), .val (.int c1), .val (.int c2), .val (.ref b), .val (.int ((1 : Int32) + (own_bit (nar .boolean (own_fE_0 c0))))), .val (.int (((1 : Int32) + (own_bit (nar .boolean (own_fE_0 c0)))) + (own_bit (nar .boolean (own_fEL_0 c0 c1))))), .val (.int ((((1 : Int32) + (own_bit (nar .boolean (own_fE_0 c0)))) + (own_bit (nar .boolean (own_fEL_0 c0 c1)))) + (own_bit (nar .boolean (own_fEL_0 c1 c2))))), .val (.ref a), .val (.int u0), .val (.int v0), .val (.int u1), .val (.int v1), .val (.int u2), .val (.int v2), .val (.int (1 : Int32)), .val (.int (1 : Int32)), .unset] [(.int (3 : Int32)), (.ref b), (.int v2)])) rfl (by rw [hml]; rfl) (rest := [(.int v2)]) (lenOf own_pdCO rfl) rfl (by show 2 * 0 + _ ≤ _; exact Nat.le_of_eq rfl) (hb hby at_227) (by decide) (by decide) e23 N23
  obtain ⟨fs, hr, hrun, hended, hW, hsame⟩ := X24.leave (v := some (.int (1 : Int32))) (fun h => by rw [Bd.returns] at h; cases h)
  refine ⟨_, _, pre0 _ ?_, hrun, hended, _, _, rfl, ?_, ⟨_, rfl⟩, hW, hsame.mono (by decide) (by decide)⟩
  · show Steps p.tables e below (s₁.setTop (mkF m 0 #[.val (.int p0), .val (.int p1), .val (.int p2), .unset, .unset, .unset, .unset, .unset, .unset, .unset, .unset, .unset, .unset, .unset, .unset, .unset, .unset, .unset, .unset, .unset] [])) _
    refine XS.iloadN X0.here hx rfl (hb hby at_0) rfl ?_
    show Steps p.tables e below (s₁.setTop (mkF m 1 #[.val (.int p0), .val (.int p1), .val (.int p2), .unset, .unset, .unset, .unset, .unset, .unset, .unset, .unset, .unset, .unset, .unset, .unset, .unset, .unset, .unset, .unset, .unset] [(.int p0)])) _
    refine st1 _ ?_
    show Steps p.tables e below (T1.setTop (mkF m 4 #[.val (.int p0), .val (.int p1), .val (.int p2), .unset, .unset, .unset, .unset, .unset, .unset, .unset, .unset, .unset, .unset, .unset, .unset, .unset, .unset, .unset, .unset, .unset] [(.int c0)])) _
    refine XS.istoreN X1.here hx rfl (hb hby at_4) rfl (l' := #[.val (.int p0), .val (.int p1), .val (.int p2), .val (.int c0), .unset, .unset, .unset, .unset, .unset, .unset, .unset, .unset, .unset, .unset, .unset, .unset, .unset, .unset, .unset, .unset]) rfl ?_
    show Steps p.tables e below (T1.setTop (mkF m 5 #[.val (.int p0), .val (.int p1), .val (.int p2), .val (.int c0), .unset, .unset, .unset, .unset, .unset, .unset, .unset, .unset, .unset, .unset, .unset, .unset, .unset, .unset, .unset, .unset] [])) _
    refine XS.iloadN X1.here hx rfl (hb hby at_5) rfl ?_
    show Steps p.tables e below (T1.setTop (mkF m 6 #[.val (.int p0), .val (.int p1), .val (.int p2), .val (.int c0), .unset, .unset, .unset, .unset, .unset, .unset, .unset, .unset, .unset, .unset, .unset, .unset, .unset, .unset, .unset, .unset] [(.int p1)])) _
    refine st2 _ ?_
    show Steps p.tables e below (T2.setTop (mkF m 9 #[.val (.int p0), .val (.int p1), .val (.int p2), .val (.int c0), .unset, .unset, .unset, .unset, .unset, .unset, .unset, .unset, .unset, .unset, .unset, .unset, .unset, .unset, .unset, .unset] [(.int c1)])) _
    refine XS.istore X2.here hx rfl (hb hby at_9) rfl (l' := #[.val (.int p0), .val (.int p1), .val (.int p2), .val (.int c0), .val (.int c1), .unset, .unset, .unset, .unset, .unset, .unset, .unset, .unset, .unset, .unset, .unset, .unset, .unset, .unset, .unset]) rfl ?_
    show Steps p.tables e below (T2.setTop (mkF m 11 #[.val (.int p0), .val (.int p1), .val (.int p2), .val (.int c0), .val (.int c1), .unset, .unset, .unset, .unset, .unset, .unset, .unset, .unset, .unset, .unset, .unset, .unset, .unset, .unset, .unset] [])) _
    refine XS.iloadN X2.here hx rfl (hb hby at_11) rfl ?_
    show Steps p.tables e below (T2.setTop (mkF m 12 #[.val (.int p0), .val (.int p1), .val (.int p2), .val (.int c0), .val (.int c1), .unset, .unset, .unset, .unset, .unset, .unset, .unset, .unset, .unset, .unset, .unset, .unset, .unset, .unset, .unset] [(.int p2)])) _
    refine st3 _ ?_
    show Steps p.tables e below (T3.setTop (mkF m 15 #[.val (.int p0), .val (.int p1), .val (.int p2), .val (.int c0), .val (.int c1), .unset, .unset, .unset, .unset, .unset, .unset, .unset, .unset, .unset, .unset, .unset, .unset, .unset, .unset, .unset] [(.int c2)])) _
    refine XS.istore X3.here hx rfl (hb hby at_15) rfl (l' := #[.val (.int p0), .val (.int p1), .val (.int p2), .val (.int c0), .val (.int c1), .val (.int c2), .unset, .unset, .unset, .unset, .unset, .unset, .unset, .unset, .unset, .unset, .unset, .unset, .unset, .unset]) rfl ?_
    show Steps p.tables e below (T3.setTop (mkF m 17 #[.val (.int p0), .val (.int p1), .val (.int p2), .val (.int c0), .val (.int c1), .val (.int c2), .unset, .unset, .unset, .unset, .unset, .unset, .unset, .unset, .unset, .unset, .unset, .unset, .unset, .unset] [])) _
    refine XS.iconst X3.here hx rfl (hb hby at_17) ?_
    show Steps p.tables e below (T3.setTop (mkF m 18 #[.val (.int p0), .val (.int p1), .val (.int p2), .val (.int c0), .val (.int c1), .val (.int c2), .unset, .unset, .unset, .unset, .unset, .unset, .unset, .unset, .unset, .unset, .unset, .unset, .unset, .unset] [(.int (3 : Int32))])) _
    refine st4 _ ?_
    show Steps p.tables e below (T4.setTop (mkF m 20 #[.val (.int p0), .val (.int p1), .val (.int p2), .val (.int c0), .val (.int c1), .val (.int c2), .unset, .unset, .unset, .unset, .unset, .unset, .unset, .unset, .unset, .unset, .unset, .unset, .unset, .unset] [(.ref b)])) _
    refine XS.astore X4.here hx rfl (hb hby at_20) rfl rfl (l' := #[.val (.int p0), .val (.int p1), .val (.int p2), .val (.int c0), .val (.int c1), .val (.int c2), .val (.ref b), .unset, .unset, .unset, .unset, .unset, .unset, .unset, .unset, .unset, .unset, .unset, .unset, .unset]) rfl ?_
    show Steps p.tables e below (T4.setTop (mkF m 22 #[.val (.int p0), .val (.int p1), .val (.int p2), .val (.int c0), .val (.int c1), .val (.int c2), .val (.ref b), .unset, .unset, .unset, .unset, .unset, .unset, .unset, .unset, .unset, .unset, .unset, .unset, .unset] [])) _
    refine XS.aload X4.here hx rfl (hb hby at_22) rfl rfl ?_
    show Steps p.tables e below (T4.setTop (mkF m 24 #[.val (.int p0), .val (.int p1), .val (.int p2), .val (.int c0), .val (.int c1), .val (.int c2), .val (.ref b), .unset, .unset, .unset, .unset, .unset, .unset, .unset, .unset, .unset, .unset, .unset, .unset, .unset] [(.ref b)])) _
    refine XS.iconst X4.here hx rfl (hb hby at_24) ?_
    show Steps p.tables e below (T4.setTop (mkF m 25 #[.val (.int p0), .val (.int p1), .val (.int p2), .val (.int c0), .val (.int c1), .val (.int c2), .val (.ref b), .unset, .unset, .unset, .unset, .unset, .unset, .unset, .unset, .unset, .unset, .unset, .unset, .unset] [(.int (0 : Int32)), (.ref b)])) _
    refine XS.iloadN X4.here hx rfl (hb hby at_25) rfl ?_
    show Steps p.tables e below (T4.setTop (mkF m 26 #[.val (.int p0), .val (.int p1), .val (.int p2), .val (.int c0), .val (.int c1), .val (.int c2), .val (.ref b), .unset, .unset, .unset, .unset, .unset, .unset, .unset, .unset, .unset, .unset, .unset, .unset, .unset] [(.int c0), (.int (0 : Int32)), (.ref b)])) _
    refine st5 _ ?_
    show Steps p.tables e below (T5.setTop (mkF m 27 #[.val (.int p0), .val (.int p1), .val (.int p2), .val (.int c0), .val (.int c1), .val (.int c2), .val (.ref b), .unset, .unset, .unset, .unset, .unset, .unset, .unset, .unset, .unset, .unset, .unset, .unset, .unset] [])) _
    refine XS.aload X5.here hx rfl (hb hby at_27) rfl rfl ?_
    show Steps p.tables e below (T5.setTop (mkF m 29 #[.val (.int p0), .val (.int p1), .val (.int p2), .val (.int c0), .val (.int c1), .val (.int c2), .val (.ref b), .unset, .unset, .unset, .unset, .unset, .unset, .unset, .unset, .unset, .unset, .unset, .unset, .unset] [(.ref b)])) _
    refine XS.iconst X5.here hx rfl (hb hby at_29) ?_
    show Steps p.tables e below (T5.setTop (mkF m 30 #[.val (.int p0), .val (.int p1), .val (.int p2), .val (.int c0), .val (.int c1), .val (.int c2), .val (.ref b), .unset, .unset, .unset, .unset, .unset, .unset, .unset, .unset, .unset, .unset, .unset, .unset, .unset] [(.int (1 : Int32)), (.ref b)])) _
    refine XS.iload X5.here hx rfl (hb hby at_30) rfl ?_
    show Steps p.tables e below (T5.setTop (mkF m 32 #[.val (.int p0), .val (.int p1), .val (.int p2), .val (.int c0), .val (.int c1), .val (.int c2), .val (.ref b), .unset, .unset, .unset, .unset, .unset, .unset, .unset, .unset, .unset, .unset, .unset, .unset, .unset] [(.int c1), (.int (1 : Int32)), (.ref b)])) _
    refine st6 _ ?_
    show Steps p.tables e below (T6.setTop (mkF m 33 #[.val (.int p0), .val (.int p1), .val (.int p2), .val (.int c0), .val (.int c1), .val (.int c2), .val (.ref b), .unset, .unset, .unset, .unset, .unset, .unset, .unset, .unset, .unset, .unset, .unset, .unset, .unset] [])) _
    refine XS.aload X6.here hx rfl (hb hby at_33) rfl rfl ?_
    show Steps p.tables e below (T6.setTop (mkF m 35 #[.val (.int p0), .val (.int p1), .val (.int p2), .val (.int c0), .val (.int c1), .val (.int c2), .val (.ref b), .unset, .unset, .unset, .unset, .unset, .unset, .unset, .unset, .unset, .unset, .unset, .unset, .unset] [(.ref b)])) _
    refine XS.iconst X6.here hx rfl (hb hby at_35) ?_
    show Steps p.tables e below (T6.setTop (mkF m 36 #[.val (.int p0), .val (.int p1), .val (.int p2), .val (.int c0), .val (.int c1), .val (.int c2), .val (.ref b), .unset, .unset, .unset, .unset, .unset, .unset, .unset, .unset, .unset, .unset, .unset, .unset, .unset] [(.int (2 : Int32)), (.ref b)])) _
    refine XS.iload X6.here hx rfl (hb hby at_36) rfl ?_
    show Steps p.tables e below (T6.setTop (mkF m 38 #[.val (.int p0), .val (.int p1), .val (.int p2), .val (.int c0), .val (.int c1), .val (.int c2), .val (.ref b), .unset, .unset, .unset, .unset, .unset, .unset, .unset, .unset, .unset, .unset, .unset, .unset, .unset] [(.int c2), (.int (2 : Int32)), (.ref b)])) _
    refine st7 _ ?_
    show Steps p.tables e below (T7.setTop (mkF m 39 #[.val (.int p0), .val (.int p1), .val (.int p2), .val (.int c0), .val (.int c1), .val (.int c2), .val (.ref b), .unset, .unset, .unset, .unset, .unset, .unset, .unset, .unset, .unset, .unset, .unset, .unset, .unset] [])) _
    refine XS.iconst X7.here hx rfl (hb hby at_39) ?_
    show Steps p.tables e below (T7.setTop (mkF m 40 #[.val (.int p0), .val (.int p1), .val (.int p2), .val (.int c0), .val (.int c1), .val (.int c2), .val (.ref b), .unset, .unset, .unset, .unset, .unset, .unset, .unset, .unset, .unset, .unset, .unset, .unset, .unset] [(.int (1 : Int32))])) _
    refine XS.iloadN X7.here hx rfl (hb hby at_40) rfl ?_
    show Steps p.tables e below (T7.setTop (mkF m 41 #[.val (.int p0), .val (.int p1), .val (.int p2), .val (.int c0), .val (.int c1), .val (.int c2), .val (.ref b), .unset, .unset, .unset, .unset, .unset, .unset, .unset, .unset, .unset, .unset, .unset, .unset, .unset] [(.int c0), (.int (1 : Int32))])) _
    refine st8 _ ?_
    show Steps p.tables e below (T8.setTop (mkF m 44 #[.val (.int p0), .val (.int p1), .val (.int p2), .val (.int c0), .val (.int c1), .val (.int c2), .val (.ref b), .unset, .unset, .unset, .unset, .unset, .unset, .unset, .unset, .unset, .unset, .unset, .unset, .unset] [(.int (nar .boolean (own_fE_0 c0))), (.int (1 : Int32))])) _
    refine sb44 _ ?_
    show Steps p.tables e below (T8.setTop (mkF m 52 #[.val (.int p0), .val (.int p1), .val (.int p2), .val (.int c0), .val (.int c1), .val (.int c2), .val (.ref b), .unset, .unset, .unset, .unset, .unset, .unset, .unset, .unset, .unset, .unset, .unset, .unset, .unset] [(.int (own_bit (nar .boolean (own_fE_0 c0)))), (.int (1 : Int32))])) _
    refine XS.iadd X8.here hx rfl (hb hby at_52) rfl ?_
    show Steps p.tables e below (T8.setTop (mkF m 53 #[.val (.int p0), .val (.int p1), .val (.int p2), .val (.int c0), .val (.int c1), .val (.int c2), .val (.ref b), .unset, .unset, .unset, .unset, .unset, .unset, .unset, .unset, .unset, .unset, .unset, .unset, .unset] [(.int ((1 : Int32) + (own_bit (nar .boolean (own_fE_0 c0)))))])) _
    refine XS.istore X8.here hx rfl (hb hby at_53) rfl (l' := #[.val (.int p0), .val (.int p1), .val (.int p2), .val (.int c0), .val (.int c1), .val (.int c2), .val (.ref b), .val (.int ((1 : Int32) + (own_bit (nar .boolean (own_fE_0 c0))))), .unset, .unset, .unset, .unset, .unset, .unset, .unset, .unset, .unset, .unset, .unset, .unset]) rfl ?_
    show Steps p.tables e below (T8.setTop (mkF m 55 #[.val (.int p0), .val (.int p1), .val (.int p2), .val (.int c0), .val (.int c1), .val (.int c2), .val (.ref b), .val (.int ((1 : Int32) + (own_bit (nar .boolean (own_fE_0 c0))))), .unset, .unset, .unset, .unset, .unset, .unset, .unset, .unset, .unset, .unset, .unset, .unset] [])) _
    refine XS.iload X8.here hx rfl (hb hby at_55) rfl ?_
    show Steps p.tables e below (T8.setTop (mkF m 57 #[.val (.int p0), .val (.int p1), .val (.int p2), .val (.int c0), .val (.int c1), .val (.int c2), .val (.ref b), .val (.int ((1 : Int32) + (own_bit (nar .boolean (own_fE_0 c0))))), .unset, .unset, .unset, .unset, .unset, .unset, .unset, .unset, .unset, .unset, .unset, .unset] [(.int ((1 : Int32) + (own_bit (nar .boolean (own_fE_0 c0)))))])) _
    refine XS.iloadN X8.here hx rfl (hb hby at_57) rfl ?_
    show Steps p.tables e below (T8.setTop (mkF m 58 #[.val (.int p0), .val (.int p1), .val (.int p2), .val (.int c0), .val (.int c1), .val (.int c2), .val (.ref b), .val (.int ((1 : Int32) + (own_bit (nar .boolean (own_fE_0 c0))))), .unset, .unset, .unset, .unset, .unset, .unset, .unset, .unset, .unset, .unset, .unset, .unset] [(.int c0), (.int ((1 : Int32) + (own_bit (nar .boolean (own_fE_0 c0)))))])) _
    refine XS.iload X8.here hx rfl (hb hby at_58) rfl ?_
    show Steps p.tables e below (T8.setTop (mkF m 60 #[.val (.int p0), .val (.int p1), .val (.int p2), .val (.int c0), .val (.int c1), .val (.int c2), .val (.ref b), .val (.int ((1 : Int32) + (own_bit (nar .boolean (own_fE_0 c0))))), .unset, .unset, .unset, .unset, .unset, .unset, .unset, .unset, .unset, .unset, .unset, .unset] [(.int c1), (.int c0), (.int ((1 : Int32) + (own_bit (nar .boolean (own_fE_0 c0)))))])) _
    refine st9 _ ?_
    show Steps p.tables e below (T9.setTop (mkF m 63 #[.val (.int p0), .val (.int p1), .val (.int p2), .val (.int c0), .val (.int c1), .val (.int c2), .val (.ref b), .val (.int ((1 : Int32) + (own_bit (nar .boolean (own_fE_0 c0))))), .unset, .unset, .unset, .unset, .unset, .unset, .unset, .unset, .unset, .unset, .unset, .unset] [(.int (nar .boolean (own_fEL_0 c0 c1))), (.int ((1 : Int32) + (own_bit (nar .boolean (own_fE_0 c0)))))])) _
    refine sb63 _ ?_
    show Steps p.tables e below (T9.setTop (mkF m 71 #[.val (.int p0), .val (.int p1), .val (.int p2), .val (.int c0), .val (.int c1), .val (.int c2), .val (.ref b), .val (.int ((1 : Int32) + (own_bit (nar .boolean (own_fE_0 c0))))), .unset, .unset, .unset, .unset, .unset, .unset, .unset, .unset, .unset, .unset, .unset, .unset] [(.int (own_bit (nar .boolean (own_fEL_0 c0 c1)))), (.int ((1 : Int32) + (own_bit (nar .boolean (own_fE_0 c0)))))])) _
    refine XS.iadd X9.here hx rfl (hb hby at_71) rfl ?_
    show Steps p.tables e below (T9.setTop (mkF m 72 #[.val (.int p0), .val (.int p1), .val (.int p2), .val (.int c0), .val (.int c1), .val (.int c2), .val (.ref b), .val (.int ((1 : Int32) + (own_bit (nar .boolean (own_fE_0 c0))))), .unset, .unset, .unset, .unset, .unset, .unset, .unset, .unset, .unset, .unset, .unset, .unset] [(.int (((1 : Int32) + (own_bit (nar .boolean (own_fE_0 c0)))) + (own_bit (nar .boolean (own_fEL_0 c0 c1)))))])) _
    refine XS.istore X9.here hx rfl (hb hby at_72) rfl (l' := #[.val (.int p0), .val (.int p1), .val (.int p2), .val (.int c0), .val (.int c1), .val (.int c2), .val (.ref b), .val (.int ((1 : Int32) + (own_bit (nar .boolean (own_fE_0 c0))))), .val (.int (((1 : Int32) + (own_bit (nar .boolean (own_fE_0 c0)))) + (own_bit (nar .boolean (own_fEL_0 c0 c1))))), .unset, .unset, .unset, .unset, .unset, .unset, .unset, .unset, .unset, .unset, .unset]) rfl ?_
    show Steps p.tables e below (T9.setTop (mkF m 74 #[.val (.int p0), .val (.int p1), .val (.int p2), .val (.int c0), .val (.int c1), .val (.int c2), .val (.ref b), .val (.int ((1 : Int32) + (own_bit (nar .boolean (own_fE_0 c0))))), .val (.int (((1 : Int32) + (own_bit (nar .boolean (own_fE_0 c0)))) + (own_bit (nar .boolean (own_fEL_0 c0 c1))))), .unset, .unset, .unset, .unset, .unset, .unset, .unset, .unset, .unset, .unset, .unset] [])) _
    refine XS.iload X9.here hx rfl (hb hby at_74) rfl ?_
    show Steps p.tables e below (T9.setTop (mkF m 76 #[.val (.int p0), .val (.int p1), .val (.int p2), .val (.int c0), .val (.int c1), .val (.int c2), .val (.ref b), .val (.int ((1 : Int32) + (own_bit (nar .boolean (own_fE_0 c0))))), .val (.int (((1 : Int32) + (own_bit (nar .boolean (own_fE_0 c0)))) + (own_bit (nar .boolean (own_fEL_0 c0 c1))))), .unset, .unset, .unset, .unset, .unset, .unset, .unset, .unset, .unset, .unset, .unset] [(.int (((1 : Int32) + (own_bit (nar .boolean (own_fE_0 c0)))) + (own_bit (nar .boolean (own_fEL_0 c0 c1)))))])) _
    refine XS.iload X9.here hx rfl (hb hby at_76) rfl ?_
    show Steps p.tables e below (T9.setTop (mkF m 78 #[.val (.int p0), .val (.int p1), .val (.int p2), .val (.int c0), .val (.int c1), .val (.int c2), .val (.ref b), .val (.int ((1 : Int32) + (own_bit (nar .boolean (own_fE_0 c0))))), .val (.int (((1 : Int32) + (own_bit (nar .boolean (own_fE_0 c0)))) + (own_bit (nar .boolean (own_fEL_0 c0 c1))))), .unset, .unset, .unset, .unset, .unset, .unset, .unset, .unset, .unset, .unset, .unset] [(.int c1), (.int (((1 : Int32) + (own_bit (nar .boolean (own_fE_0 c0)))) + (own_bit (nar .boolean (own_fEL_0 c0 c1)))))])) _
    refine XS.iload X9.here hx rfl (hb hby at_78) rfl ?_
    show Steps p.tables e below (T9.setTop (mkF m 80 #[.val (.int p0), .val (.int p1), .val (.int p2), .val (.int c0), .val (.int c1), .val (.int c2), .val (.ref b), .val (.int ((1 : Int32) + (own_bit (nar .boolean (own_fE_0 c0))))), .val (.int (((1 : Int32) + (own_bit (nar .boolean (own_fE_0 c0)))) + (own_bit (nar .boolean (own_fEL_0 c0 c1))))), .unset, .unset, .unset, .unset, .unset, .unset, .unset, .unset, .unset, .unset, .unset] [(.int c2), (.int c1), (.int (((1 : Int32) + (own_bit (nar .boolean (own_fE_0 c0)))) + (own_bit (nar .boolean (own_fEL_0 c0 c1)))))])) _
    refine st10 _ ?_
    show Steps p.tables e below (T10.setTop (mkF m 83 #[.val (.int p0), .val (.int p1), .val (.int p2), .val (.int c0), .val (.int c1), .val (.int c2), .val (.ref b), .val (.int ((1 : Int32) + (own_bit (nar .boolean (own_fE_0 c0))))), .val (.int (((1 : Int32) + (own_bit (nar .boolean (own_fE_0 c0)))) + (own_bit (nar .boolean (own_fEL_0 c0 c1))))), .unset, .unset, .unset, .unset, .unset, .unset, .unset, .unset, .unset, .unset, .unset] [(.int (nar .boolean (own_fEL_0 c1 c2))), (.int (((1 : Int32) + (own_bit (nar .boolean (own_fE_0 c0)))) + (own_bit (nar .boolean (own_fEL_0 c0 c1)))))])) _
    refine sb83 _ ?_
    show Steps p.tables e below (T10.setTop (mkF m 91 #[.val (.int p0), .val (.int p1), .val (.int p2), .val (.int c0), .val (.int c1), .val (.int c2), .val (.ref b), .val (.int ((1 : Int32) + (own_bit (nar .boolean (own_fE_0 c0))))), .val (.int (((1 : Int32) + (own_bit (nar .boolean (own_fE_0 c0)))) + (own_bit (nar .boolean (own_fEL_0 c0 c1))))), .unset, .unset, .unset, .unset, .unset, .unset, .unset, .unset, .unset, .unset, .unset] [(.int (own_bit (nar .boolean (own_fEL_0 c1 c2)))), (.int (((1 : Int32) + (own_bit (nar .boolean (own_fE_0 c0)))) + (own_bit (nar .boolean (own_fEL_0 c0 c1)))))])) _
    refine XS.iadd X10.here hx rfl (hb hby at_91) rfl ?_
    show Steps p.tables e below (T10.setTop (mkF m 92 #[.val (.int p0), .val (.int p1), .val (.int p2), .val (.int c0), .val (.int c1), .val (.int c2), .val (.ref b), .val (.int ((1 : Int32) + (own_bit (nar .boolean (own_fE_0 c0))))), .val (.int (((1 : Int32) + (own_bit (nar .boolean (own_fE_0 c0)))) + (own_bit (nar .boolean (own_fEL_0 c0 c1))))), .unset, .unset, .unset, .unset, .unset, .unset, .unset, .unset, .unset, .unset, .unset] [(.int ((((1 : Int32) + (own_bit (nar .boolean (own_fE_0 c0)))) + (own_bit (nar .boolean (own_fEL_0 c0 c1)))) + (own_bit (nar .boolean (own_fEL_0 c1 c2)))))])) _
    refine XS.istore X10.here hx rfl (hb hby at_92) rfl (l' := #[.val (.int p0), .val (.int p1), .val (.int p2), .val (.int c0), .val (.int c1), .val (.int c2), .val (.ref b), .val (.int ((1 : Int32) + (own_bit (nar .boolean (own_fE_0 c0))))), .val (.int (((1 : Int32) + (own_bit (nar .boolean (own_fE_0 c0)))) + (own_bit (nar .boolean (own_fEL_0 c0 c1))))), .val (.int ((((1 : Int32) + (own_bit (nar .boolean (own_fE_0 c0)))) + (own_bit (nar .boolean (own_fEL_0 c0 c1)))) + (own_bit (nar .boolean (own_fEL_0 c1 c2))))), .unset, .unset, .unset, .unset, .unset, .unset, .unset, .unset, .unset, .unset]) rfl ?_
    show Steps p.tables e below (T10.setTop (mkF m 94 #[.val (.int p0), .val (.int p1), .val (.int p2), .val (.int c0), .val (.int c1), .val (.int c2), .val (.ref b), .val (.int ((1 : Int32) + (own_bit (nar .boolean (own_fE_0 c0))))), .val (.int (((1 : Int32) + (own_bit (nar .boolean (own_fE_0 c0)))) + (own_bit (nar .boolean (own_fEL_0 c0 c1))))), .val (.int ((((1 : Int32) + (own_bit (nar .boolean (own_fE_0 c0)))) + (own_bit (nar .boolean (own_fEL_0 c0 c1)))) + (own_bit (nar .boolean (own_fEL_0 c1 c2))))), .unset, .unset, .unset, .unset, .unset, .unset, .unset, .unset, .unset, .unset] [])) _
    refine st11 _ ?_
    show Steps p.tables e below (T11.setTop (mkF m 97 #[.val (.int p0), .val (.int p1), .val (.int p2), .val (.int c0), .val (.int c1), .val (.int c2), .val (.ref b), .val (.int ((1 : Int32) + (own_bit (nar .boolean (own_fE_0 c0))))), .val (.int (((1 : Int32) + (own_bit (nar .boolean (own_fE_0 c0)))) + (own_bit (nar .boolean (own_fEL_0 c0 c1))))), .val (.int ((((1 : Int32) + (own_bit (nar .boolean (own_fE_0 c0)))) + (own_bit (nar .boolean (own_fEL_0 c0 c1)))) + (own_bit (nar .boolean (own_fEL_0 c1 c2))))), .unset, .unset, .unset, .unset, .unset, .unset, .unset, .unset, .unset, .unset] [(.ref a)])) _
    refine XS.dup X11.here hx rfl (hb hby at_97) rfl rfl ?_
    show Steps p.tables e below (T11.setTop (mkF m 98 #[.val (.int p0), .val (.int p1), .val (.int p2), .val (.int c0), .val (.int c1), .val (.int c2), .val (.ref b), .val (.int ((1 : Int32) + (own_bit (nar .boolean (own_fE_0 c0))))), .val (.int (((1 : Int32) + (own_bit (nar .boolean (own_fE_0 c0)))) + (own_bit (nar .boolean (own_fEL_0 c0 c1))))), .val (.int ((((1 : Int32) + (own_bit (nar .boolean (own_fE_0 c0)))) + (own_bit (nar .boolean (own_fEL_0 c0 c1)))) + (own_bit (nar .boolean (own_fEL_0 c1 c2))))), .unset, .unset, .unset, .unset, .unset, .unset, .unset, .unset, .unset, .unset] [(.ref a), (.ref a)])) _
    refine st12 _ ?_
    show Steps p.tables e below (T12.setTop (mkF m 101 #[.val (.int p0), .val (.int p1), .val (.int p2), .val (.int c0), .val (.int c1), .val (.int c2), .val (.ref b), .val (.int ((1 : Int32) + (own_bit (nar .boolean (own_fE_0 c0))))), .val (.int (((1 : Int32) + (own_bit (nar .boolean (own_fE_0 c0)))) + (own_bit (nar .boolean (own_fEL_0 c0 c1))))), .val (.int ((((1 : Int32) + (own_bit (nar .boolean (own_fE_0 c0)))) + (own_bit (nar .boolean (own_fEL_0 c0 c1)))) + (own_bit (nar .boolean (own_fEL_0 c1 c2))))), .unset, .unset, .unset, .unset, .unset, .unset, .unset, .unset, .unset, .unset] [(.ref a)])) _
    refine XS.astore X12.here hx rfl (hb hby at_101) rfl rfl (l' := #[.val (.int p0), .val (.int p1), .val (.int p2), .val (.int c0), .val (.int c1), .val (.int c2), .val (.ref b), .val (.int ((1 : Int32) + (own_bit (nar .boolean (own_fE_0 c0))))), .val (.int (((1 : Int32) + (own_bit (nar .boolean (own_fE_0 c0)))) + (own_bit (nar .boolean (own_fEL_0 c0 c1))))), .val (.int ((((1 : Int32) + (own_bit (nar .boolean (own_fE_0 c0)))) + (own_bit (nar .boolean (own_fEL_0 c0 c1)))) + (own_bit (nar .boolean (own_fEL_0 c1 c2))))), .val (.ref a), .unset, .unset, .unset, .unset, .unset, .unset, .unset, .unset, .unset]) rfl ?_
    show Steps p.tables e below (T12.setTop (mkF m 103 #[.val (.int p0), .val (.int p1), .val (.int p2), .val (.int c0), .val (.int c1), .val (.int c2), .val (.ref b), .val (.int ((1 : Int32) + (own_bit (nar .boolean (own_fE_0 c0))))), .val (.int (((1 : Int32) + (own_bit (nar .boolean (own_fE_0 c0)))) + (own_bit (nar .boolean (own_fEL_0 c0 c1))))), .val (.int ((((1 : Int32) + (own_bit (nar .boolean (own_fE_0 c0)))) + (own_bit (nar .boolean (own_fEL_0 c0 c1)))) + (own_bit (nar .boolean (own_fEL_0 c1 c2))))), .val (.ref a), .unset, .unset, .unset, .unset, .unset, .unset, .unset, .unset, .unset] [])) _
    refine XS.aload X12.here hx rfl (hb hby at_103) rfl rfl ?_
    show Steps p.tables e below (T12.setTop (mkF m 105 #[.val (.int p0), .val (.int p1), .val (.int p2), .val (.int c0), .val (.int c1), .val (.int c2), .val (.ref b), .val (.int ((1 : Int32) + (own_bit (nar .boolean (own_fE_0 c0))))), .val (.int (((1 : Int32) + (own_bit (nar .boolean (own_fE_0 c0)))) + (own_bit (nar .boolean (own_fEL_0 c0 c1))))), .val (.int ((((1 : Int32) + (own_bit (nar .boolean (own_fE_0 c0)))) + (own_bit (nar .boolean (own_fEL_0 c0 c1)))) + (own_bit (nar .boolean (own_fEL_0 c1 c2))))), .val (.ref a), .unset, .unset, .unset, .unset, .unset, .unset, .unset, .unset, .unset] [(.ref a)])) _
    refine XS.iloadN X12.here hx rfl (hb hby at_105) rfl ?_
    show Steps p.tables e below (T12.setTop (mkF m 106 #[.val (.int p0), .val (.int p1), .val (.int p2), .val (.int c0), .val (.int c1), .val (.int c2), .val (.ref b), .val (.int ((1 : Int32) + (own_bit (nar .boolean (own_fE_0 c0))))), .val (.int (((1 : Int32) + (own_bit (nar .boolean (own_fE_0 c0)))) + (own_bit (nar .boolean (own_fEL_0 c0 c1))))), .val (.int ((((1 : Int32) + (own_bit (nar .boolean (own_fE_0 c0)))) + (own_bit (nar .boolean (own_fEL_0 c0 c1)))) + (own_bit (nar .boolean (own_fEL_0 c1 c2))))), .val (.ref a), .unset, .unset, .unset, .unset, .unset, .unset, .unset, .unset, .unset] [(.int c0), (.ref a)])) _
    refine st13 _ ?_
    show Steps p.tables e below (T13.setTop (mkF m 109 #[.val (.int p0), .val (.int p1), .val (.int p2), .val (.int c0), .val (.int c1), .val (.int c2), .val (.ref b), .val (.int ((1 : Int32) + (own_bit (nar .boolean (own_fE_0 c0))))), .val (.int (((1 : Int32) + (own_bit (nar .boolean (own_fE_0 c0)))) + (own_bit (nar .boolean (own_fEL_0 c0 c1))))), .val (.int ((((1 : Int32) + (own_bit (nar .boolean (own_fE_0 c0)))) + (own_bit (nar .boolean (own_fEL_0 c0 c1)))) + (own_bit (nar .boolean (own_fEL_0 c1 c2))))), .val (.ref a), .unset, .unset, .unset, .unset, .unset, .unset, .unset, .unset, .unset] [])) _
    refine XS.aload X13.here hx rfl (hb hby at_109) rfl rfl ?_
    show Steps p.tables e below (T13.setTop (mkF m 111 #[.val (.int p0), .val (.int p1), .val (.int p2), .val (.int c0), .val (.int c1), .val (.int c2), .val (.ref b), .val (.int ((1 : Int32) + (own_bit (nar .boolean (own_fE_0 c0))))), .val (.int (((1 : Int32) + (own_bit (nar .boolean (own_fE_0 c0)))) + (own_bit (nar .boolean (own_fEL_0 c0 c1))))), .val (.int ((((1 : Int32) + (own_bit (nar .boolean (own_fE_0 c0)))) + (own_bit (nar .boolean (own_fEL_0 c0 c1)))) + (own_bit (nar .boolean (own_fEL_0 c1 c2))))), .val (.ref a), .unset, .unset, .unset, .unset, .unset, .unset, .unset, .unset, .unset] [(.ref a)])) _
    refine st14 _ ?_
    show Steps p.tables e below (T14.setTop (mkF m 114 #[.val (.int p0), .val (.int p1), .val (.int p2), .val (.int c0), .val (.int c1), .val (.int c2), .val (.ref b), .val (.int ((1 : Int32) + (own_bit (nar .boolean (own_fE_0 c0))))), .val (.int (((1 : Int32) + (own_bit (nar .boolean (own_fE_0 c0)))) + (own_bit (nar .boolean (own_fEL_0 c0 c1))))), .val (.int ((((1 : Int32) + (own_bit (nar .boolean (own_fE_0 c0)))) + (own_bit (nar .boolean (own_fEL_0 c0 c1)))) + (own_bit (nar .boolean (own_fEL_0 c1 c2))))), .val (.ref a), .unset, .unset, .unset, .unset, .unset, .unset, .unset, .unset, .unset] [(.int u0)])) _
    refine XS.istore X14.here hx rfl (hb hby at_114) rfl (l' := #[.val (.int p0), .val (.int p1), .val (.int p2), .val (.int c0), .val (.int c1), .val (.int c2), .val (.ref b), .val (.int ((1 : Int32) + (own_bit (nar .boolean (own_fE_0 c0))))), .val (.int (((1 : Int32) + (own_bit (nar .boolean (own_fE_0 c0)))) + (own_bit (nar .boolean (own_fEL_0 c0 c1))))), .val (.int ((((1 : Int32) + (own_bit (nar .boolean (own_fE_0 c0)))) + (own_bit (nar .boolean (own_fEL_0 c0 c1)))) + (own_bit (nar .boolean (own_fEL_0 c1 c2))))), .val (.ref a), .val (.int u0), .unset, .unset, .unset, .unset, .unset, .unset, .unset, .unset]) rfl ?_
    show Steps p.tables e below (T14.setTop (mkF m 116 #[.val (.int p0), .val (.int p1), .val (.int p2), .val (.int c0), .val (.int c1), .val (.int c2), .val (.ref b), .val (.int ((1 : Int32) + (own_bit (nar .boolean (own_fE_0 c0))))), .val (.int (((1 : Int32) + (own_bit (nar .boolean (own_fE_0 c0)))) + (own_bit (nar .boolean (own_fEL_0 c0 c1))))), .val (.int ((((1 : Int32) + (own_bit (nar .boolean (own_fE_0 c0)))) + (own_bit (nar .boolean (own_fEL_0 c0 c1)))) + (own_bit (nar .boolean (own_fEL_0 c1 c2))))), .val (.ref a), .val (.int u0), .unset, .unset, .unset, .unset, .unset, .unset, .unset, .unset] [])) _
    refine XS.aload X14.here hx rfl (hb hby at_116) rfl rfl ?_
    show Steps p.tables e below (T14.setTop (mkF m 118 #[.val (.int p0), .val (.int p1), .val (.int p2), .val (.int c0), .val (.int c1), .val (.int c2), .val (.ref b), .val (.int ((1 : Int32) + (own_bit (nar .boolean (own_fE_0 c0))))), .val (.int (((1 : Int32) + (own_bit (nar .boolean (own_fE_0 c0)))) + (own_bit (nar .boolean (own_fEL_0 c0 c1))))), .val (.int ((((1 : Int32) + (own_bit (nar .boolean (own_fE_0 c0)))) + (own_bit (nar .boolean (own_fEL_0 c0 c1)))) + (own_bit (nar .boolean (own_fEL_0 c1 c2))))), .val (.ref a), .val (.int u0), .unset, .unset, .unset, .unset, .unset, .unset, .unset, .unset] [(.ref a)])) _
    refine st15 _ ?_
    show Steps p.tables e below (T15.setTop (mkF m 121 #[.val (.int p0), .val (.int p1), .val (.int p2), .val (.int c0), .val (.int c1), .val (.int c2), .val (.ref b), .val (.int ((1 : Int32) + (own_bit (nar .boolean (own_fE_0 c0))))), .val (.int (((1 : Int32) + (own_bit (nar .boolean (own_fE_0 c0)))) + (own_bit (nar .boolean (own_fEL_0 c0 c1))))), .val (.int ((((1 : Int32) + (own_bit (nar .boolean (own_fE_0 c0)))) + (own_bit (nar .boolean (own_fEL_0 c0 c1)))) + (own_bit (nar .boolean (own_fEL_0 c1 c2))))), .val (.ref a), .val (.int u0), .unset, .unset, .unset, .unset, .unset, .unset, .unset, .unset] [(.int v0)])) _
    refine XS.istore X15.here hx rfl (hb hby at_121) rfl (l' := #[.val (.int p0), .val (.int p1), .val (.int p2), .val (.int c0), .val (.int c1), .val (.int c2), .val (.ref b), .val (.int ((1 : Int32) + (own_bit (nar .boolean (own_fE_0 c0))))), .val (.int (((1 : Int32) + (own_bit (nar .boolean (own_fE_0 c0)))) + (own_bit (nar .boolean (own_fEL_0 c0 c1))))), .val (.int ((((1 : Int32) + (own_bit (nar .boolean (own_fE_0 c0)))) + (own_bit (nar .boolean (own_fEL_0 c0 c1)))) + (own_bit (nar .boolean (own_fEL_0 c1 c2))))), .val (.ref a), .val (.int u0), .val (.int v0), .unset, .unset, .unset, .unset, .unset, .unset, .unset]) rfl ?_
    show Steps p.tables e below (T15.setTop (mkF m 123 #[.val (.int p0), .val (.int p1), .val (.int p2), .val (.int c0), .val (.int c1), .val (.int c2), .val (.ref b), .val (.int ((1 : Int32) + (own_bit (nar .boolean (own_fE_0 c0))))), .val (.int (((1 : Int32) + (own_bit (nar .boolean (own_fE_0 c0)))) + (own_bit (nar .boolean (own_fEL_0 c0 c1))))), .val (.int ((((1 : Int32) + (own_bit (nar .boolean (own_fE_0 c0)))) + (own_bit (nar .boolean (own_fEL_0 c0 c1)))) + (own_bit (nar .boolean (own_fEL_0 c1 c2))))), .val (.ref a), .val (.int u0), .val (.int v0), .unset, .unset, .unset, .unset, .unset, .unset, .unset] [])) _
    refine XS.aload X15.here hx rfl (hb hby at_123) rfl rfl ?_
    show Steps p.tables e below (T15.setTop (mkF m 125 #[.val (.int p0), .val (.int p1), .val (.int p2), .val (.int c0), .val (.int c1), .val (.int c2), .val (.ref b), .val (.int ((1 : Int32) + (own_bit (nar .boolean (own_fE_0 c0))))), .val (.int (((1 : Int32) + (own_bit (nar .boolean (own_fE_0 c0)))) + (own_bit (nar .boolean (own_fEL_0 c0 c1))))), .val (.int ((((1 : Int32) + (own_bit (nar .boolean (own_fE_0 c0)))) + (own_bit (nar .boolean (own_fEL_0 c0 c1)))) + (own_bit (nar .boolean (own_fEL_0 c1 c2))))), .val (.ref a), .val (.int u0), .val (.int v0), .unset, .unset, .unset, .unset, .unset, .unset, .unset] [(.ref a)])) _
    refine XS.iload X15.here hx rfl (hb hby at_125) rfl ?_
    show Steps p.tables e below (T15.setTop (mkF m 127 #[.val (.int p0), .val (.int p1), .val (.int p2), .val (.int c0), .val (.int c1), .val (.int c2), .val (.ref b), .val (.int ((1 : Int32) + (own_bit (nar .boolean (own_fE_0 c0))))), .val (.int (((1 : Int32) + (own_bit (nar .boolean (own_fE_0 c0)))) + (own_bit (nar .boolean (own_fEL_0 c0 c1))))), .val (.int ((((1 : Int32) + (own_bit (nar .boolean (own_fE_0 c0)))) + (own_bit (nar .boolean (own_fEL_0 c0 c1)))) + (own_bit (nar .boolean (own_fEL_0 c1 c2))))), .val (.ref a), .val (.int u0), .val (.int v0), .unset, .unset, .unset, .unset, .unset, .unset, .unset] [(.int c1), (.ref a)])) _
    refine st16 _ ?_
    show Steps p.tables e below (T16.setTop (mkF m 130 #[.val (.int p0), .val (.int p1), .val (.int p2), .val (.int c0), .val (.int c1), .val (.int c2), .val (.ref b), .val (.int ((1 : Int32) + (own_bit (nar .boolean (own_fE_0 c0))))), .val (.int (((1 : Int32) + (own_bit (nar .boolean (own_fE_0 c0)))) + (own_bit (nar .boolean (own_fEL_0 c0 c1))))), .val (.int ((((1 : Int32) + (own_bit (nar .boolean (own_fE_0 c0)))) + (own_bit (nar .boolean (own_fEL_0 c0 c1)))) + (own_bit (nar .boolean (own_fEL_0 c1 c2))))), .val (.ref a), .val (.int u0), .val (.int v0), .unset, .unset, .unset, .unset, .unset, .unset, .unset] [])) _
    refine XS.aload X16.here hx rfl (hb hby at_130) rfl rfl ?_
    show Steps p.tables e below (T16.setTop (mkF m 132 #[.val (.int p0), .val (.int p1), .val (.int p2), .val (.int c0), .val (.int c1), .val (.int c2), .val (.ref b), .val (.int ((1 : Int32) + (own_bit (nar .boolean (own_fE_0 c0))))), .val (.int (((1 : Int32) + (own_bit (nar .boolean (own_fE_0 c0)))) + (own_bit (nar .boolean (own_fEL_0 c0 c1))))), .val (.int ((((1 : Int32) + (own_bit (nar .boolean (own_fE_0 c0)))) + (own_bit (nar .boolean (own_fEL_0 c0 c1)))) + (own_bit (nar .boolean (own_fEL_0 c1 c2))))), .val (.ref a), .val (.int u0), .val (.int v0), .unset, .unset, .unset, .unset, .unset, .unset, .unset] [(.ref a)])) _
    refine st17 _ ?_
    show Steps p.tables e below (T17.setTop (mkF m 135 #[.val (.int p0), .val (.int p1), .val (.int p2), .val (.int c0), .val (.int c1), .val (.int c2), .val (.ref b), .val (.int ((1 : Int32) + (own_bit (nar .boolean (own_fE_0 c0))))), .val (.int (((1 : Int32) + (own_bit (nar .boolean (own_fE_0 c0)))) + (own_bit (nar .boolean (own_fEL_0 c0 c1))))), .val (.int ((((1 : Int32) + (own_bit (nar .boolean (own_fE_0 c0)))) + (own_bit (nar .boolean (own_fEL_0 c0 c1)))) + (own_bit (nar .boolean (own_fEL_0 c1 c2))))), .val (.ref a), .val (.int u0), .val (.int v0), .unset, .unset, .unset, .unset, .unset, .unset, .unset] [(.int u1)])) _
    refine XS.istore X17.here hx rfl (hb hby at_135) rfl (l' := #[.val (.int p0), .val (.int p1), .val (.int p2), .val (.int c0), .val (.int c1), .val (.int c2), .val (.ref b), .val (.int ((1 : Int32) + (own_bit (nar .boolean (own_fE_0 c0))))), .val (.int (((1 : Int32) + (own_bit (nar .boolean (own_fE_0 c0)))) + (own_bit (nar .boolean (own_fEL_0 c0 c1))))), .val (.int ((((1 : Int32) + (own_bit (nar .boolean (own_fE_0 c0)))) + (own_bit (nar .boolean (own_fEL_0 c0 c1)))) + (own_bit (nar .boolean (own_fEL_0 c1 c2))))), .val (.ref a), .val (.int u0), .val (.int v0), .val (.int u1), .unset, .unset, .unset, .unset, .unset, .unset]) rfl ?_
    show Steps p.tables e below (T17.setTop (mkF m 137 #[.val (.int p0), .val (.int p1), .val (.int p2), .val (.int c0), .val (.int c1), .val (.int c2), .val (.ref b), .val (.int ((1 : Int32) + (own_bit (nar .boolean (own_fE_0 c0))))), .val (.int (((1 : Int32) + (own_bit (nar .boolean (own_fE_0 c0)))) + (own_bit (nar .boolean (own_fEL_0 c0 c1))))), .val (.int ((((1 : Int32) + (own_bit (nar .boolean (own_fE_0 c0)))) + (own_bit (nar .boolean (own_fEL_0 c0 c1)))) + (own_bit (nar .boolean (own_fEL_0 c1 c2))))), .val (.ref a), .val (.int u0), .val (.int v0), .val (.int u1), .unset, .unset, .unset, .unset, .unset, .unset] [])) _
    refine XS.aload X17.here hx rfl (hb hby at_137) rfl rfl ?_
    show Steps p.tables e below (T17.setTop (mkF m 139 #[.val (.int p0), .val (.int p1), .val (.int p2), .val (.int c0), .val (.int c1), .val (.int c2), .val (.ref b), .val (.int ((1 : Int32) + (own_bit (nar .boolean (own_fE_0 c0))))), .val (.int (((1 : Int32) + (own_bit (nar .boolean (own_fE_0 c0)))) + (own_bit (nar .boolean (own_fEL_0 c0 c1))))), .val (.int ((((1 : Int32) + (own_bit (nar .boolean (own_fE_0 c0)))) + (own_bit (nar .boolean (own_fEL_0 c0 c1)))) + (own_bit (nar .boolean (own_fEL_0 c1 c2))))), .val (.ref a), .val (.int u0), .val (.int v0), .val (.int u1), .unset, .unset, .unset, .unset, .unset, .unset] [(.ref a)])) _
    refine st18 _ ?_
    show Steps p.tables e below (T18.setTop (mkF m 142 #[.val (.int p0), .val (.int p1), .val (.int p2), .val (.int c0), .val (.int c1), .val (.int c2), .val (.ref b), .val (.int ((1 : Int32) + (own_bit (nar .boolean (own_fE_0 c0))))), .val (.int (((1 : Int32) + (own_bit (nar .boolean (own_fE_0 c0)))) + (own_bit (nar .boolean (own_fEL_0 c0 c1))))), .val (.int ((((1 : Int32) + (own_bit (nar .boolean (own_fE_0 c0)))) + (own_bit (nar .boolean (own_fEL_0 c0 c1)))) + (own_bit (nar .boolean (own_fEL_0 c1 c2))))), .val (.ref a), .val (.int u0), .val (.int v0), .val (.int u1), .unset, .unset, .unset, .unset, .unset, .unset] [(.int v1)])) _
    refine XS.istore X18.here hx rfl (hb hby at_142) rfl (l' := #[.val (.int p0), .val (.int p1), .val (.int p2), .val (.int c0), .val (.int c1), .val (.int c2), .val (.ref b), .val (.int ((1 : Int32) + (own_bit (nar .boolean (own_fE_0 c0))))), .val (.int (((1 : Int32) + (own_bit (nar .boolean (own_fE_0 c0)))) + (own_bit (nar .boolean (own_fEL_0 c0 c1))))), .val (.int ((((1 : Int32) + (own_bit (nar .boolean (own_fE_0 c0)))) + (own_bit (nar .boolean (own_fEL_0 c0 c1)))) + (own_bit (nar .boolean (own_fEL_0 c1 c2))))), .val (.ref a), .val (.int u0), .val (.int v0), .val (.int u1), .val (.int v1), .unset, .unset, .unset, .unset, .unset]) rfl ?_
    show Steps p.tables e below (T18.setTop (mkF m 144 #[.val (.int p0), .val (.int p1), .val (.int p2), .val (.int c0), .val (.int c1), .val (.int c2), .val (.ref b), .val (.int ((1 : Int32) + (own_bit (nar .boolean (own_fE_0 c0))))), .val (.int (((1 : Int32) + (own_bit (nar .boolean (own_fE_0 c0)))) + (own_bit (nar .boolean (own_fEL_0 c0 c1))))), .val (.int ((((1 : Int32) + (own_bit (nar .boolean (own_fE_0 c0)))) + (own_bit (nar .boolean (own_fEL_0 c0 c1)))) + (own_bit (nar .boolean (own_fEL_0 c1 c2))))), .val (.ref a), .val (.int u0), .val (.int v0), .val (.int u1), .val (.int v1), .unset, .unset, .unset, .unset, .unset] [])) _
    refine XS.aload X18.here hx rfl (hb hby at_144) rfl rfl ?_
    show Steps p.tables e below (T18.setTop (mkF m 146 #[.val (.int p0), .val (.int p1), .val (.int p2), .val (.int c0), .val (.int c1), .val (.int c2), .val (.ref b), .val (.int ((1 : Int32) + (own_bit (nar .boolean (own_fE_0 c0))))), .val (.int (((1 : Int32) + (own_bit (nar .boolean (own_fE_0 c0)))) + (own_bit (nar .boolean (own_fEL_0 c0 c1))))), .val (.int ((((1 : Int32) + (own_bit (nar .boolean (own_fE_0 c0)))) + (own_bit (nar .boolean (own_fEL_0 c0 c1)))) + (own_bit (nar .boolean (own_fEL_0 c1 c2))))), .val (.ref a), .val (.int u0), .val (.int v0), .val (.int u1), .val (.int v1), .unset, .unset, .unset, .unset, .unset] [(.ref a)])) _
    refine XS.iload X18.here hx rfl (hb hby at_146) rfl ?_
    show Steps p.tables e below (T18.setTop (mkF m 148 #[.val (.int p0), .val (.int p1), .val (.int p2), .val (.int c0), .val (.int c1), .val (.int c2), .val (.ref b), .val (.int ((1 : Int32) + (own_bit (nar .boolean (own_fE_0 c0))))), .val (.int (((1 : Int32) + (own_bit (nar .boolean (own_fE_0 c0)))) + (own_bit (nar .boolean (own_fEL_0 c0 c1))))), .val (.int ((((1 : Int32) + (own_bit (nar .boolean (own_fE_0 c0)))) + (own_bit (nar .boolean (own_fEL_0 c0 c1)))) + (own_bit (nar .boolean (own_fEL_0 c1 c2))))), .val (.ref a), .val (.int u0), .val (.int v0), .val (.int u1), .val (.int v1), .unset, .unset, .unset, .unset, .unset] [(.int c2), (.ref a)])) _
    refine st19 _ ?_
    show Steps p.tables e below (T19.setTop (mkF m 151 #[.val (.int p0), .val (.int p1), .val (.int p2), .val (.int c0), .val (.int c1), .val (.int c2), .val (.ref b), .val (.int ((1 : Int32) + (own_bit (nar .boolean (own_fE_0 c0))))), .val (.int (((1 : Int32) + (own_bit (nar .boolean (own_fE_0 c0)))) + (own_bit (nar .boolean (own_fEL_0 c0 c1))))), .val (.int ((((1 : Int32) + (own_bit (nar .boolean (own_fE_0 c0)))) + (own_bit (nar .boolean (own_fEL_0 c0 c1)))) + (own_bit (nar .boolean (own_fEL_0 c1 c2))))), .val (.ref a), .val (.int u0), .val (.int v0), .val (.int u1), .val (.int v1), .unset, .unset, .unset, .unset, .unset] [])) _
    refine XS.aload X19.here hx rfl (hb hby at_151) rfl rfl ?_
    show Steps p.tables e below (T19.setTop (mkF m 153 #[.val (.int p0), .val (.int p1), .val (.int p2), .val (.int c0), .val (.int c1), .val (.int c2), .val (.ref b), .val (.int ((1 : Int32) + (own_bit (nar .boolean (own_fE_0 c0))))), .val (.int (((1 : Int32) + (own_bit (nar .boolean (own_fE_0 c0)))) + (own_bit (nar .boolean (own_fEL_0 c0 c1))))), .val (.int ((((1 : Int32) + (own_bit (nar .boolean (own_fE_0 c0)))) + (own_bit (nar .boolean (own_fEL_0 c0 c1)))) + (own_bit (nar .boolean (own_fEL_0 c1 c2))))), .val (.ref a), .val (.int u0), .val (.int v0), .val (.int u1), .val (.int v1), .unset, .unset, .unset, .unset, .unset] [(.ref a)])) _
    refine st20 _ ?_
    show Steps p.tables e below (T20.setTop (mkF m 156 #[.val (.int p0), .val (.int p1), .val (.int p2), .val (.int c0), .val (.int c1), .val (.int c2), .val (.ref b), .val (.int ((1 : Int32) + (own_bit (nar .boolean (own_fE_0 c0))))), .val (.int (((1 : Int32) + (own_bit (nar .boolean (own_fE_0 c0)))) + (own_bit (nar .boolean (own_fEL_0 c0 c1))))), .val (.int ((((1 : Int32) + (own_bit (nar .boolean (own_fE_0 c0)))) + (own_bit (nar .boolean (own_fEL_0 c0 c1)))) + (own_bit (nar .boolean (own_fEL_0 c1 c2))))), .val (.ref a), .val (.int u0), .val (.int v0), .val (.int u1), .val (.int v1), .unset, .unset, .unset, .unset, .unset] [(.int u2)])) _
    refine XS.istore X20.here hx rfl (hb hby at_156) rfl (l' := #[.val (.int p0), .val (.int p1), .val (.int p2), .val (.int c0), .val (.int c1), .val (.int c2), .val (.ref b), .val (.int ((1 : Int32) + (own_bit (nar .boolean (own_fE_0 c0))))), .val (.int (((1 : Int32) + (own_bit (nar .boolean (own_fE_0 c0)))) + (own_bit (nar .boolean (own_fEL_0 c0 c1))))), .val (.int ((((1 : Int32) + (own_bit (nar .boolean (own_fE_0 c0)))) + (own_bit (nar .boolean (own_fEL_0 c0 c1)))) + (own_bit (nar .boolean (own_fEL_0 c1 c2))))), .val (.ref a), .val (.int u0), .val (.int v0), .val (.int u1), .val (.int v1), .val (.int u2), .unset, .unset, .unset, .unset]) rfl ?_
    show Steps p.tables e below (T20.setTop (mkF m 158 #[.val (.int p0), .val (.int p1), .val (.int p2), .val (.int c0), .val (.int c1), .val (.int c2), .val (.ref b), .val (.int ((1 : Int32) + (own_bit (nar .boolean (own_fE_0 c0))))), .val (.int (((1 : Int32) + (own_bit (nar .boolean (own_fE_0 c0)))) + (own_bit (nar .boolean (own_fEL_0 c0 c1))))), .val (.int ((((1 : Int32) + (own_bit (nar .boolean (own_fE_0 c0)))) + (own_bit (nar .boolean (own_fEL_0 c0 c1)))) + (own_bit (nar .boolean (own_fEL_0 c1 c2))))), .val (.ref a), .val (.int u0), .val (.int v0), .val (.int u1), .val (.int v1), .val (.int u2), .unset, .unset, .unset, .unset] [])) _
    refine XS.aload X20.here hx rfl (hb hby at_158) rfl rfl ?_
    show Steps p.tables e below (T20.setTop (mkF m 160 #[.val (.int p0), .val (.int p1), .val (.int p2), .val (.int c0), .val (.int c1), .val (.int c2), .val (.ref b), .val (.int ((1 : Int32) + (own_bit (nar .boolean (own_fE_0 c0))))), .val (.int (((1 : Int32) + (own_bit (nar .boolean (own_fE_0 c0)))) + (own_bit (nar .boolean (own_fEL_0 c0 c1))))), .val (.int ((((1 : Int32) + (own_bit (nar .boolean (own_fE_0 c0)))) + (own_bit (nar .boolean (own_fEL_0 c0 c1)))) + (own_bit (nar .boolean (own_fEL_0 c1 c2))))), .val (.ref a), .val (.int u0), .val (.int v0), .val (.int u1), .val (.int v1), .val (.int u2), .unset, .unset, .unset, .unset] [(.ref a)])) _
    refine st21 _ ?_
    show Steps p.tables e below (T21.setTop (mkF m 163 #[.val (.int p0), .val (.int p1), .val (.int p2), .val (.int c0), .val (.int c1), .val (.int c2), .val (.ref b), .val (.int ((1 : Int32) + (own_bit (nar .boolean (own_fE_0 c0))))), .val (.int (((1 : Int32) + (own_bit (nar .boolean (own_fE_0 c0)))) + (own_bit (nar .boolean (own_fEL_0 c0 c1))))), .val (.int ((((1 : Int32) + (own_bit (nar .boolean (own_fE_0 c0)))) + (own_bit (nar .boolean (own_fEL_0 c0 c1)))) + (own_bit (nar .boolean (own_fEL_0 c1 c2))))), .val (.ref a), .val (.int u0), .val (.int v0), .val (.int u1), .val (.int v1), .val (.int u2), .unset, .unset, .unset, .unset] [(.int v2)])) _
    refine XS.istore X21.here hx rfl (hb hby at_163) rfl (l' := #[.val (.int p0), .val (.int p1), .val (.int p2), .val (.int c0), .val (.int c1), .val (.int c2), .val (.ref b), .val (.int ((1 : Int32) + (own_bit (nar .boolean (own_fE_0 c0))))), .val (.int (((1 : Int32) + (own_bit (nar .boolean (own_fE_0 c0)))) + (own_bit (nar .boolean (own_fEL_0 c0 c1))))), .val (.int ((((1 : Int32) + (own_bit (nar .boolean (own_fE_0 c0)))) + (own_bit (nar .boolean (own_fEL_0 c0 c1)))) + (own_bit (nar .boolean (own_fEL_0 c1 c2))))), .val (.ref a), .val (.int u0), .val (.int v0), .val (.int u1), .val (.int v1), .val (.int u2), .val (.int v2), .unset, .unset, .unset]) rfl ?_
    show Steps p.tables e below (T21.setTop (mkF m 165 #[.val (.int p0), .val (.int p1), .val (.int p2), .val (.int c0), .val (.int c1), .val (.int c2), .val (.ref b), .val (.int ((1 : Int32) + (own_bit (nar .boolean (own_fE_0 c0))))), .val (.int (((1 : Int32) + (own_bit (nar .boolean (own_fE_0 c0)))) + (own_bit (nar .boolean (own_fEL_0 c0 c1))))), .val (.int ((((1 : Int32) + (own_bit (nar .boolean (own_fE_0 c0)))) + (own_bit (nar .boolean (own_fEL_0 c0 c1)))) + (own_bit (nar .boolean (own_fEL_0 c1 c2))))), .val (.ref a), .val (.int u0), .val (.int v0), .val (.int u1), .val (.int v1), .val (.int u2), .val (.int v2), .unset, .unset, .unset] [])) _
    refine XS.iload X21.here hx rfl (hb hby at_165) rfl ?_
    show Steps p.tables e below (T21.setTop (mkF m 167 #[.val (.int p0), .val (.int p1), .val (.int p2), .val (.int c0), .val (.int c1), .val (.int c2), .val (.ref b), .val (.int ((1 : Int32) + (own_bit (nar .boolean (own_fE_0 c0))))), .val (.int (((1 : Int32) + (own_bit (nar .boolean (own_fE_0 c0)))) + (own_bit (nar .boolean (own_fEL_0 c0 c1))))), .val (.int ((((1 : Int32) + (own_bit (nar .boolean (own_fE_0 c0)))) + (own_bit (nar .boolean (own_fEL_0 c0 c1)))) + (own_bit (nar .boolean (own_fEL_0 c1 c2))))), .val (.ref a), .val (.int u0), .val (.int v0), .val (.int u1), .val (.int v1), .val (.int u2), .val (.int v2), .unset, .unset, .unset] [(.int u0)])) _
    refine XS.iload X21.here hx rfl (hb hby at_167) rfl ?_
    show Steps p.tables e below (T21.setTop (mkF m 169 #[.val (.int p0), .val (.int p1), .val (.int p2), .val (.int c0), .val (.int c1), .val (.int c2), .val (.ref b), .val (.int ((1 : Int32) + (own_bit (nar .boolean (own_fE_0 c0))))), .val (.int (((1 : Int32) + (own_bit (nar .boolean (own_fE_0 c0)))) + (own_bit (nar .boolean (own_fEL_0 c0 c1))))), .val (.int ((((1 : Int32) + (own_bit (nar .boolean (own_fE_0 c0)))) + (own_bit (nar .boolean (own_fEL_0 c0 c1)))) + (own_bit (nar .boolean (own_fEL_0 c1 c2))))), .val (.ref a), .val (.int u0), .val (.int v0), .val (.int u1), .val (.int v1), .val (.int u2), .val (.int v2), .unset, .unset, .unset] [(.int ((1 : Int32) + (own_bit (nar .boolean (own_fE_0 c0))))), (.int u0)])) _
    refine XS.icmpNo X21.here hx rfl (hb hby at_169) rfl (teq j1).2 ?_
    show Steps p.tables e below (T21.setTop (mkF m 172 #[.val (.int p0), .val (.int p1), .val (.int p2), .val (.int c0), .val (.int c1), .val (.int c2), .val (.ref b), .val (.int ((1 : Int32) + (own_bit (nar .boolean (own_fE_0 c0))))), .val (.int (((1 : Int32) + (own_bit (nar .boolean (own_fE_0 c0)))) + (own_bit (nar .boolean (own_fEL_0 c0 c1))))), .val (.int ((((1 : Int32) + (own_bit (nar .boolean (own_fE_0 c0)))) + (own_bit (nar .boolean (own_fEL_0 c0 c1)))) + (own_bit (nar .boolean (own_fEL_0 c1 c2))))), .val (.ref a), .val (.int u0), .val (.int v0), .val (.int u1), .val (.int v1), .val (.int u2), .val (.int v2), .unset, .unset, .unset] [])) _
    refine XS.iload X21.here hx rfl (hb hby at_172) rfl ?_
    show Steps p.tables e below (T21.setTop (mkF m 174 #[.val (.int p0), .val (.int p1), .val (.int p2), .val (.int c0), .val (.int c1), .val (.int c2), .val (.ref b), .val (.int ((1 : Int32) + (own_bit (nar .boolean (own_fE_0 c0))))), .val (.int (((1 : Int32) + (own_bit (nar .boolean (own_fE_0 c0)))) + (own_bit (nar .boolean (own_fEL_0 c0 c1))))), .val (.int ((((1 : Int32) + (own_bit (nar .boolean (own_fE_0 c0)))) + (own_bit (nar .boolean (own_fEL_0 c0 c1)))) + (own_bit (nar .boolean (own_fEL_0 c1 c2))))), .val (.ref a), .val (.int u0), .val (.int v0), .val (.int u1), .val (.int v1), .val (.int u2), .val (.int v2), .unset, .unset, .unset] [(.int v0)])) _
    refine XS.aload X21.here hx rfl (hb hby at_174) rfl rfl ?_
    show Steps p.tables e below (T21.setTop (mkF m 176 #[.val (.int p0), .val (.int p1), .val (.int p2), .val (.int c0), .val (.int c1), .val (.int c2), .val (.ref b), .val (.int ((1 : Int32) + (own_bit (nar .boolean (own_fE_0 c0))))), .val (.int (((1 : Int32) + (own_bit (nar .boolean (own_fE_0 c0)))) + (own_bit (nar .boolean (own_fEL_0 c0 c1))))), .val (.int ((((1 : Int32) + (own_bit (nar .boolean (own_fE_0 c0)))) + (own_bit (nar .boolean (own_fEL_0 c0 c1)))) + (own_bit (nar .boolean (own_fEL_0 c1 c2))))), .val (.ref a), .val (.int u0), .val (.int v0), .val (.int u1), .val (.int v1), .val (.int u2), .val (.int v2), .unset, .unset, .unset] [(.ref b), (.int v0)])) _
    refine XS.iconst X21.here hx rfl (hb hby at_176) ?_
    show Steps p.tables e below (T21.setTop (mkF m 177 #[.val (.int p0), .val (.int p1), .val (.int p2), .val (.int c0), .val (.int c1), .val (.int c2), .val (.ref b), .val (.int ((1 : Int32) + (own_bit (nar .boolean (own_fE_0 c0))))), .val (.int (((1 : Int32) + (own_bit (nar .boolean (own_fE_0 c0)))) + (own_bit (nar .boolean (own_fEL_0 c0 c1))))), .val (.int ((((1 : Int32) + (own_bit (nar .boolean (own_fE_0 c0)))) + (own_bit (nar .boolean (own_fEL_0 c0 c1)))) + (own_bit (nar .boolean (own_fEL_0 c1 c2))))), .val (.ref a), .val (.int u0), .val (.int v0), .val (.int u1), .val (.int v1), .val (.int u2), .val (.int v2), .unset, .unset, .unset] [(.int (1 : Int32)), (.ref b), (.int v0)])) _
    refine st22 _ ?_
    show Steps p.tables e below (T22.setTop (mkF m 180 #[.val (.int p0), .val (.int p1), .val (.int p2), .val (.int c0), .val (.int c1), .val (.int c2), .val (.ref b), .val (.int ((1 : Int32) + (own_bit (nar .boolean (own_fE_0 c0))))), .val (.int (((1 : Int32) + (own_bit (nar .boolean (own_fE_0 c0)))) + (own_bit (nar .boolean (own_fEL_0 c0 c1))))), .val (.int ((((1 : Int32) + (own_bit (nar .boolean (own_fE_0 c0)))) + (own_bit (nar .boolean (own_fEL_0 c0 c1)))) + (own_bit (nar .boolean (own_fEL_0 c1 c2))))), .val (.ref a), .val (.int u0), .val (.int v0), .val (.int u1), .val (.int v1), .val (.int u2), .val (.int v2), .unset, .unset, .unset] [(.int (own_col1 c0 c1 c2)), (.int v0)])) _
    refine XS.icmpNo X22.here hx rfl (hb hby at_180) rfl (teq j2).2 ?_
    show Steps p.tables e below (T22.setTop (mkF m 183 #[.val (.int p0), .val (.int p1), .val (.int p2), .val (.int c0), .val (.int c1), .val (.int c2), .val (.ref b), .val (.int ((1 : Int32) + (own_bit (nar .boolean (own_fE_0 c0))))), .val (.int (((1 : Int32) + (own_bit (nar .boolean (own_fE_0 c0)))) + (own_bit (nar .boolean (own_fEL_0 c0 c1))))), .val (.int ((((1 : Int32) + (own_bit (nar .boolean (own_fE_0 c0)))) + (own_bit (nar .boolean (own_fEL_0 c0 c1)))) + (own_bit (nar .boolean (own_fEL_0 c1 c2))))), .val (.ref a), .val (.int u0), .val (.int v0), .val (.int u1), .val (.int v1), .val (.int u2), .val (.int v2), .unset, .unset, .unset] [])) _
    refine XS.iconst X22.here hx rfl (hb hby at_183) ?_
    show Steps p.tables e below (T22.setTop (mkF m 184 #[.val (.int p0), .val (.int p1), .val (.int p2), .val (.int c0), .val (.int c1), .val (.int c2), .val (.ref b), .val (.int ((1 : Int32) + (own_bit (nar .boolean (own_fE_0 c0))))), .val (.int (((1 : Int32) + (own_bit (nar .boolean (own_fE_0 c0)))) + (own_bit (nar .boolean (own_fEL_0 c0 c1))))), .val (.int ((((1 : Int32) + (own_bit (nar .boolean (own_fE_0 c0)))) + (own_bit (nar .boolean (own_fEL_0 c0 c1)))) + (own_bit (nar .boolean (own_fEL_0 c1 c2))))), .val (.ref a), .val (.int u0), .val (.int v0), .val (.int u1), .val (.int v1), .val (.int u2), .val (.int v2), .unset, .unset, .unset] [(.int (1 : Int32))])) _
    refine XS.goto X22.here hx rfl (pc0 := 184) (pc' := 188) rfl (hb hby at_184) (by decide) (by decide) ?_
    show Steps p.tables e below (T22.setTop (mkF m 188 #[.val (.int p0), .val (.int p1), .val (.int p2), .val (.int c0), .val (.int c1), .val (.int c2), .val (.ref b), .val (.int ((1 : Int32) + (own_bit (nar .boolean (own_fE_0 c0))))), .val (.int (((1 : Int32) + (own_bit (nar .boolean (own_fE_0 c0)))) + (own_bit (nar .boolean (own_fEL_0 c0 c1))))), .val (.int ((((1 : Int32) + (own_bit (nar .boolean (own_fE_0 c0)))) + (own_bit (nar .boolean (own_fEL_0 c0 c1)))) + (own_bit (nar .boolean (own_fEL_0 c1 c2))))), .val (.ref a), .val (.int u0), .val (.int v0), .val (.int u1), .val (.int v1), .val (.int u2), .val (.int v2), .unset, .unset, .unset] [(.int (1 : Int32))])) _
    refine XS.istore X22.here hx rfl (hb hby at_188) rfl (l' := #[.val (.int p0), .val (.int p1), .val (.int p2), .val (.int c0), .val (.int c1), .val (.int c2), .val (.ref b), .val (.int ((1 : Int32) + (own_bit (nar .boolean (own_fE_0 c0))))), .val (.int (((1 : Int32) + (own_bit (nar .boolean (own_fE_0 c0)))) + (own_bit (nar .boolean (own_fEL_0 c0 c1))))), .val (.int ((((1 : Int32) + (own_bit (nar .boolean (own_fE_0 c0)))) + (own_bit (nar .boolean (own_fEL_0 c0 c1)))) + (own_bit (nar .boolean (own_fEL_0 c1 c2))))), .val (.ref a), .val (.int u0), .val (.int v0), .val (.int u1), .val (.int v1), .val (.int u2), .val (.int v2), .val (.int (1 : Int32)), .unset, .unset]) rfl ?_
    show Steps p.tables e below (T22.setTop (mkF m 190 #[.val (.int p0), .val (.int p1), .val (.int p2), .val (.int c0), .val (.int c1), .val (.int c2), .val (.ref b), .val (.int ((1 : Int32) + (own_bit (nar .boolean (own_fE_0 c0))))), .val (.int (((1 : Int32) + (own_bit (nar .boolean (own_fE_0 c0)))) + (own_bit (nar .boolean (own_fEL_0 c0 c1))))), .val (.int ((((1 : Int32) + (own_bit (nar .boolean (own_fE_0 c0)))) + (own_bit (nar .boolean (own_fEL_0 c0 c1)))) + (own_bit (nar .boolean (own_fEL_0 c1 c2))))), .val (.ref a), .val (.int u0), .val (.int v0), .val (.int u1), .val (.int v1), .val (.int u2), .val (.int v2), .val (.int (1 : Int32)), .unset, .unset] [])) _
    refine XS.iload X22.here hx rfl (hb hby at_190) rfl ?_
    show Steps p.tables e below (T22.setTop (mkF m 192 #[.val (.int p0), .val (.int p1), .val (.int p2), .val (.int c0), .val (.int c1), .val (.int c2), .val (.ref b), .val (.int ((1 : Int32) + (own_bit (nar .boolean (own_fE_0 c0))))), .val (.int (((1 : Int32) + (own_bit (nar .boolean (own_fE_0 c0)))) + (own_bit (nar .boolean (own_fEL_0 c0 c1))))), .val (.int ((((1 : Int32) + (own_bit (nar .boolean (own_fE_0 c0)))) + (own_bit (nar .boolean (own_fEL_0 c0 c1)))) + (own_bit (nar .boolean (own_fEL_0 c1 c2))))), .val (.ref a), .val (.int u0), .val (.int v0), .val (.int u1), .val (.int v1), .val (.int u2), .val (.int v2), .val (.int (1 : Int32)), .unset, .unset] [(.int u1)])) _
    refine XS.iload X22.here hx rfl (hb hby at_192) rfl ?_
    show Steps p.tables e below (T22.setTop (mkF m 194 #[.val (.int p0), .val (.int p1), .val (.int p2), .val (.int c0), .val (.int c1), .val (.int c2), .val (.ref b), .val (.int ((1 : Int32) + (own_bit (nar .boolean (own_fE_0 c0))))), .val (.int (((1 : Int32) + (own_bit (nar .boolean (own_fE_0 c0)))) + (own_bit (nar .boolean (own_fEL_0 c0 c1))))), .val (.int ((((1 : Int32) + (own_bit (nar .boolean (own_fE_0 c0)))) + (own_bit (nar .boolean (own_fEL_0 c0 c1)))) + (own_bit (nar .boolean (own_fEL_0 c1 c2))))), .val (.ref a), .val (.int u0), .val (.int v0), .val (.int u1), .val (.int v1), .val (.int u2), .val (.int v2), .val (.int (1 : Int32)), .unset, .unset] [(.int (((1 : Int32) + (own_bit (nar .boolean (own_fE_0 c0)))) + (own_bit (nar .boolean (own_fEL_0 c0 c1))))), (.int u1)])) _
    refine XS.icmpNo X22.here hx rfl (hb hby at_194) rfl (teq j3).2 ?_
    show Steps p.tables e below (T22.setTop (mkF m 197 #[.val (.int p0), .val (.int p1), .val (.int p2), .val (.int c0), .val (.int c1), .val (.int c2), .val (.ref b), .val (.int ((1 : Int32) + (own_bit (nar .boolean (own_fE_0 c0))))), .val (.int (((1 : Int32) + (own_bit (nar .boolean (own_fE_0 c0)))) + (own_bit (nar .boolean (own_fEL_0 c0 c1))))), .val (.int ((((1 : Int32) + (own_bit (nar .boolean (own_fE_0 c0)))) + (own_bit (nar .boolean (own_fEL_0 c0 c1)))) + (own_bit (nar .boolean (own_fEL_0 c1 c2))))), .val (.ref a), .val (.int u0), .val (.int v0), .val (.int u1), .val (.int v1), .val (.int u2), .val (.int v2), .val (.int (1 : Int32)), .unset, .unset] [])) _
    refine XS.iload X22.here hx rfl (hb hby at_197) rfl ?_
    show Steps p.tables e below (T22.setTop (mkF m 199 #[.val (.int p0), .val (.int p1), .val (.int p2), .val (.int c0), .val (.int c1), .val (.int c2), .val (.ref b), .val (.int ((1 : Int32) + (own_bit (nar .boolean (own_fE_0 c0))))), .val (.int (((1 : Int32) + (own_bit (nar .boolean (own_fE_0 c0)))) + (own_bit (nar .boolean (own_fEL_0 c0 c1))))), .val (.int ((((1 : Int32) + (own_bit (nar .boolean (own_fE_0 c0)))) + (own_bit (nar .boolean (own_fEL_0 c0 c1)))) + (own_bit (nar .boolean (own_fEL_0 c1 c2))))), .val (.ref a), .val (.int u0), .val (.int v0), .val (.int u1), .val (.int v1), .val (.int u2), .val (.int v2), .val (.int (1 : Int32)), .unset, .unset] [(.int v1)])) _
    refine XS.aload X22.here hx rfl (hb hby at_199) rfl rfl ?_
    show Steps p.tables e below (T22.setTop (mkF m 201 #[.val (.int p0), .val (.int p1), .val (.int p2), .val (.int c0), .val (.int c1), .val (.int c2), .val (.ref b), .val (.int ((1 : Int32) + (own_bit (nar .boolean (own_fE_0 c0))))), .val (.int (((1 : Int32) + (own_bit (nar .boolean (own_fE_0 c0)))) + (own_bit (nar .boolean (own_fEL_0 c0 c1))))), .val (.int ((((1 : Int32) + (own_bit (nar .boolean (own_fE_0 c0)))) + (own_bit (nar .boolean (own_fEL_0 c0 c1)))) + (own_bit (nar .boolean (own_fEL_0 c1 c2))))), .val (.ref a), .val (.int u0), .val (.int v0), .val (.int u1), .val (.int v1), .val (.int u2), .val (.int v2), .val (.int (1 : Int32)), .unset, .unset] [(.ref b), (.int v1)])) _
    refine XS.iconst X22.here hx rfl (hb hby at_201) ?_
    show Steps p.tables e below (T22.setTop (mkF m 202 #[.val (.int p0), .val (.int p1), .val (.int p2), .val (.int c0), .val (.int c1), .val (.int c2), .val (.ref b), .val (.int ((1 : Int32) + (own_bit (nar .boolean (own_fE_0 c0))))), .val (.int (((1 : Int32) + (own_bit (nar .boolean (own_fE_0 c0)))) + (own_bit (nar .boolean (own_fEL_0 c0 c1))))), .val (.int ((((1 : Int32) + (own_bit (nar .boolean (own_fE_0 c0)))) + (own_bit (nar .boolean (own_fEL_0 c0 c1)))) + (own_bit (nar .boolean (own_fEL_0 c1 c2))))), .val (.ref a), .val (.int u0), .val (.int v0), .val (.int u1), .val (.int v1), .val (.int u2), .val (.int v2), .val (.int (1 : Int32)), .unset, .unset] [(.int (2 : Int32)), (.ref b), (.int v1)])) _
    refine st23 _ ?_
    show Steps p.tables e below (T23.setTop (mkF m 205 #[.val (.int p0), .val (.int p1), .val (.int p2), .val (.int c0), .val (.int c1), .val (.int c2), .val (.ref b), .val (.int ((1 : Int32) + (own_bit (nar .boolean (own_fE_0 c0))))), .val (.int (((1 : Int32) + (own_bit (nar .boolean (own_fE_0 c0)))) + (own_bit (nar .boolean (own_fEL_0 c0 c1))))), .val (.int ((((1 : Int32) + (own_bit (nar .boolean (own_fE_0 c0)))) + (own_bit (nar .boolean (own_fEL_0 c0 c1)))) + (own_bit (nar .boolean (own_fEL_0 c1 c2))))), .val (.ref a), .val (.int u0), .val (.int v0), .val (.int u1), .val (.int v1), .val (.int u2), .val (.int v2), .val (.int (1 : Int32)), .unset, .unset] [(.int (own_col2 c0 c1 c2)), (.int v1)])) _
    refine XS.icmpNo X23.here hx rfl (hb hby at_205) rfl (teq j4).2 ?_
    show Steps p.tables e below (T23.setTop (mkF m 208 #[.val (.int p0), .val (.int p1), .val (.int p2), .val (.int c0), .val (.int c1), .val (.int c2), .val (.ref b), .val (.int ((1 : Int32) + (own_bit (nar .boolean (own_fE_0 c0))))), .val (.int (((1 : Int32) + (own_bit (nar .boolean (own_fE_0 c0)))) + (own_bit (nar .boolean (own_fEL_0 c0 c1))))), .val (.int ((((1 : Int32) + (own_bit (nar .boolean (own_fE_0 c0)))) + (own_bit (nar .boolean (own_fEL_0 c0 c1)))) + (own_bit (nar .boolean (own_fEL_0 c1 c2))))), .val (.ref a), .val (.int u0), .val (.int v0), .val (.int u1), .val (.int v1), .val (.int u2), .val (.int v2), .val (.int (1 : Int32)), .unset, .unset] [])) _
    refine XS.iconst X23.here hx rfl (hb hby at_208) ?_
    show Steps p.tables e below (T23.setTop (mkF m 209 #[.val (.int p0), .val (.int p1), .val (.int p2), .val (.int c0), .val (.int c1), .val (.int c2), .val (.ref b), .val (.int ((1 : Int32) + (own_bit (nar .boolean (own_fE_0 c0))))), .val (.int (((1 : Int32) + (own_bit (nar .boolean (own_fE_0 c0)))) + (own_bit (nar .boolean (own_fEL_0 c0 c1))))), .val (.int ((((1 : Int32) + (own_bit (nar .boolean (own_fE_0 c0)))) + (own_bit (nar .boolean (own_fEL_0 c0 c1)))) + (own_bit (nar .boolean (own_fEL_0 c1 c2))))), .val (.ref a), .val (.int u0), .val (.int v0), .val (.int u1), .val (.int v1), .val (.int u2), .val (.int v2), .val (.int (1 : Int32)), .unset, .unset] [(.int (1 : Int32))])) _
    refine XS.goto X23.here hx rfl (pc0 := 209) (pc' := 213) rfl (hb hby at_209) (by decide) (by decide) ?_
    show Steps p.tables e below (T23.setTop (mkF m 213 #[.val (.int p0), .val (.int p1), .val (.int p2), .val (.int c0), .val (.int c1), .val (.int c2), .val (.ref b), .val (.int ((1 : Int32) + (own_bit (nar .boolean (own_fE_0 c0))))), .val (.int (((1 : Int32) + (own_bit (nar .boolean (own_fE_0 c0)))) + (own_bit (nar .boolean (own_fEL_0 c0 c1))))), .val (.int ((((1 : Int32) + (own_bit (nar .boolean (own_fE_0 c0)))) + (own_bit (nar .boolean (own_fEL_0 c0 c1)))) + (own_bit (nar .boolean (own_fEL_0 c1 c2))))), .val (.ref a), .val (.int u0), .val (.int v0), .val (.int u1), .val (.int v1), .val (.int u2), .val (.int v2), .val (.int (1 : Int32)), .unset, .unset] [(.int (1 : Int32))])) _
    refine XS.istore X23.here hx rfl (hb hby at_213) rfl (l' := #[.val (.int p0), .val (.int p1), .val (.int p2), .val (.int c0), .val (.int c1), .val (.int c2), .val (.ref b), .val (.int ((1 : Int32) + (own_bit (nar .boolean (own_fE_0 c0))))), .val (.int (((1 : Int32) + (own_bit (nar .boolean (own_fE_0 c0)))) + (own_bit (nar .boolean (own_fEL_0 c0 c1))))), .val (.int ((((1 : Int32) + (own_bit (nar .boolean (own_fE_0 c0)))) + (own_bit (nar .boolean (own_fEL_0 c0 c1)))) + (own_bit (nar .boolean (own_fEL_0 c1 c2))))), .val (.ref a), .val (.int u0), .val (.int v0), .val (.int u1), .val (.int v1), .val (.int u2), .val (.int v2), .val (.int (1 : Int32)), .val (.int (1 : Int32)), .unset]) rfl ?_
    show Steps p.tables e below (T23.setTop (mkF m 215 #[.val (.int p0), .val (.int p1), .val (.int p2), .val (.int c0), .val (.int c1), .val (.int c2), .val (.ref b), .val (.int ((1 : Int32) + (own_bit (nar .boolean (own_fE_0 c0))))), .val (.int (((1 : Int32) + (own_bit (nar .boolean (own_fE_0 c0)))) + (own_bit (nar .boolean (own_fEL_0 c0 c1))))), .val (.int ((((1 : Int32) + (own_bit (nar .boolean (own_fE_0 c0)))) + (own_bit (nar .boolean (own_fEL_0 c0 c1)))) + (own_bit (nar .boolean (own_fEL_0 c1 c2))))), .val (.ref a), .val (.int u0), .val (.int v0), .val (.int u1), .val (.int v1), .val (.int u2), .val (.int v2), .val (.int (1 : Int32)), .val (.int (1 : Int32)), .unset] [])) _
    refine XS.iload X23.here hx rfl (hb hby at_215) rfl ?_
    show Steps p.tables e below (T23.setTop (mkF m 217 #[.val (.int p0), .val (.int p1), .val (.int p2), .val (.int c0), .val (.int c1), .val (.int c2), .val (.ref b), .val (.int ((1 : Int32) + (own_bit (nar .boolean (own_fE_0 c0))))), .val (.int (((1 : Int32) + (own_bit (nar .boolean (own_fE_0 c0)))) + (own_bit (nar .boolean (own_fEL_0 c0 c1))))), .val (.int ((((1 : Int32) + (own_bit (nar .boolean (own_fE_0 c0)))) + (own_bit (nar .boolean (own_fEL_0 c0 c1)))) + (own_bit (nar .boolean (own_fEL_0 c1 c2))))), .val (.ref a), .val (.int u0), .val (.int v0), .val (.int u1), .val (.int v1), .val (.int u2), .val (.int v2), .val (.int (1 : Int32)), .val (.int (1 : Int32)), .unset] [(.int u2)])) _
    refine XS.iload X23.here hx rfl (hb hby at_217) rfl ?_
    show Steps p.tables e below (T23.setTop (mkF m 219 #[.val (.int p0), .val (.int p1), .val (.int p2), .val (.int c0), .val (.int c1), .val (.int c2), .val (.ref b), .val (.int ((1 : Int32) + (own_bit (nar .boolean (own_fE_0 c0))))), .val (.int (((1 : Int32) + (own_bit (nar .boolean (own_fE_0 c0)))) + (own_bit (nar .boolean (own_fEL_0 c0 c1))))), .val (.int ((((1 : Int32) + (own_bit (nar .boolean (own_fE_0 c0)))) + (own_bit (nar .boolean (own_fEL_0 c0 c1)))) + (own_bit (nar .boolean (own_fEL_0 c1 c2))))), .val (.ref a), .val (.int u0), .val (.int v0), .val (.int u1), .val (.int v1), .val (.int u2), .val (.int v2), .val (.int (1 : Int32)), .val (.int (1 : Int32)), .unset] [(.int ((((1 : Int32) + (own_bit (nar .boolean (own_fE_0 c0)))) + (own_bit (nar .boolean (own_fEL_0 c0 c1)))) + (own_bit (nar .boolean (own_fEL_0 c1 c2))))), (.int u2)])) _
    refine XS.icmpNo X23.here hx rfl (hb hby at_219) rfl (teq j5).2 ?_
    show Steps p.tables e below (T23.setTop (mkF m 222 #[.val (.int p0), .val (.int p1), .val (.int p2), .val (.int c0), .val (.int c1), .val (.int c2), .val (.ref b), .val (.int ((1 : Int32) + (own_bit (nar .boolean (own_fE_0 c0))))), .val (.int (((1 : Int32) + (own_bit (nar .boolean (own_fE_0 c0)))) + (own_bit (nar .boolean (own_fEL_0 c0 c1))))), .val (.int ((((1 : Int32) + (own_bit (nar .boolean (own_fE_0 c0)))) + (own_bit (nar .boolean (own_fEL_0 c0 c1)))) + (own_bit (nar .boolean (own_fEL_0 c1 c2))))), .val (.ref a), .val (.int u0), .val (.int v0), .val (.int u1), .val (.int v1), .val (.int u2), .val (.int v2), .val (.int (1 : Int32)), .val (.int (1 : Int32)), .unset] [])) _
    refine XS.iload X23.here hx rfl (hb hby at_222) rfl ?_
    show Steps p.tables e below (T23.setTop (mkF m 224 #[.val (.int p0), .val (.int p1), .val (.int p2), .val (.int c0), .val (.int c1), .val (.int c2), .val (.ref b), .val (.int ((1 : Int32) + (own_bit (nar .boolean (own_fE_0 c0))))), .val (.int (((1 : Int32) + (own_bit (nar .boolean (own_fE_0 c0)))) + (own_bit (nar .boolean (own_fEL_0 c0 c1))))), .val (.int ((((1 : Int32) + (own_bit (nar .boolean (own_fE_0 c0)))) + (own_bit (nar .boolean (own_fEL_0 c0 c1)))) + (own_bit (nar .boolean (own_fEL_0 c1 c2))))), .val (.ref a), .val (.int u0), .val (.int v0), .val (.int u1), .val (.int v1), .val (.int u2), .val (.int v2), .val (.int (1 : Int32)), .val (.int (1 : Int32)), .unset] [(.int v2)])) _
    refine XS.aload X23.here hx rfl (hb hby at_224) rfl rfl ?_
    show Steps p.tables e below (T23.setTop (mkF m 226 #[.val (.int p0), .val (.int p1), .val (.int p2), .val (.int c0), .val (.int c1), .val (.int c2), .val (.ref b), .val (.int ((1 : Int32) + (own_bit (nar .boolean (own_fE_0 c0))))), .val (.int (((1 : Int32) + (own_bit (nar .boolean (own_fE_0 c0)))) + (own_bit (nar .boolean (own_fEL_0 c0 c1))))), .val (.int ((((1 : Int32) + (own_bit (nar .boolean (own_fE_0 c0)))) + (own_bit (nar .boolean (own_fEL_0 c0 c1)))) + (own_bit (nar .boolean (own_fEL_0 c1 c2))))), .val (.ref a), .val (.int u0), .val (.int v0), .val (.int u1), .val (.int v1), .val (.int u2), .val (.int v2), .val (.int (1 : Int32)), .val (.int (1 : Int32)), .unset] [(.ref b), (.int v2)])) _
    refine XS.iconst X23.here hx rfl (hb hby at_226) ?_
    show Steps p.tables e below (T23.setTop (mkF m 227 #[.val (.int p0), .val (.int p1), .val (.int p2), .val (.int c0), .val (.int c1), .val (.int c2), .val (.ref b), .val (.int ((1 : Int32) + (own_bit (nar .boolean (own_fE_0 c0))))), .val (.int (((1 : Int32) + (own_bit (nar .boolean (own_fE_0 c0)))) + (own_bit (nar .boolean (own_fEL_0 c0 c1))))), .val (.int ((((1 : Int32) + (own_bit (nar .boolean (own_fE_0 c0)))) + (own_bit (nar .boolean (own_fEL_0 c0 c1)))) + (own_bit (nar .boolean (own_fEL_0 c1 c2))))), .val (.ref a), .val (.int u0), .val (.int v0), .val (.int u1), .val (.int v1), .val (.int u2), .val (.int v2), .val (.int (1 : Int32)), .val (.int (1 : Int32)), .unset] [(.int (3 : Int32)), (.ref b), (.int v2)])) _
    refine st24 _ ?_
    show Steps p.tables e below (T24.setTop (mkF m 230 #[.val (.int p0), .val (.int p1), .val (.int p2), .val (.int c0), .val (.int c1), .val (.int c2), .val (.ref b), .val (.int ((1 : Int32) + (own_bit (nar .boolean (own_fE_0 c0))))), .val (.int (((1 : Int32) + (own_bit (nar .boolean (own_fE_0 c0)))) + (own_bit (nar .boolean (own_fEL_0 c0 c1))))), .val (.int ((((1 : Int32) + (own_bit (nar .boolean (own_fE_0 c0)))) + (own_bit (nar .boolean (own_fEL_0 c0 c1)))) + (own_bit (nar .boolean (own_fEL_0 c1 c2))))), .val (.ref a), .val (.int u0), .val (.int v0), .val (.int u1), .val (.int v1), .val (.int u2), .val (.int v2), .val (.int (1 : Int32)), .val (.int (1 : Int32)), .unset] [(.int (own_col3 c0 c1 c2)), (.int v2)])) _
    refine XS.icmpNo X24.here hx rfl (hb hby at_230) rfl (teq j6).2 ?_
    show Steps p.tables e below (T24.setTop (mkF m 233 #[.val (.int p0), .val (.int p1), .val (.int p2), .val (.int c0), .val (.int c1), .val (.int c2), .val (.ref b), .val (.int ((1 : Int32) + (own_bit (nar .boolean (own_fE_0 c0))))), .val (.int (((1 : Int32) + (own_bit (nar .boolean (own_fE_0 c0)))) + (own_bit (nar .boolean (own_fEL_0 c0 c1))))), .val (.int ((((1 : Int32) + (own_bit (nar .boolean (own_fE_0 c0)))) + (own_bit (nar .boolean (own_fEL_0 c0 c1)))) + (own_bit (nar .boolean (own_fEL_0 c1 c2))))), .val (.ref a), .val (.int u0), .val (.int v0), .val (.int u1), .val (.int v1), .val (.int u2), .val (.int v2), .val (.int (1 : Int32)), .val (.int (1 : Int32)), .unset] [])) _
    refine XS.iconst X24.here hx rfl (hb hby at_233) ?_
    show Steps p.tables e below (T24.setTop (mkF m 234 #[.val (.int p0), .val (.int p1), .val (.int p2), .val (.int c0), .val (.int c1), .val (.int c2), .val (.ref b), .val (.int ((1 : Int32) + (own_bit (nar .boolean (own_fE_0 c0))))), .val (.int (((1 : Int32) + (own_bit (nar .boolean (own_fE_0 c0)))) + (own_bit (nar .boolean (own_fEL_0 c0 c1))))), .val (.int ((((1 : Int32) + (own_bit (nar .boolean (own_fE_0 c0)))) + (own_bit (nar .boolean (own_fEL_0 c0 c1)))) + (own_bit (nar .boolean (own_fEL_0 c1 c2))))), .val (.ref a), .val (.int u0), .val (.int v0), .val (.int u1), .val (.int v1), .val (.int u2), .val (.int v2), .val (.int (1 : Int32)), .val (.int (1 : Int32)), .unset] [(.int (1 : Int32))])) _
    refine XS.goto X24.here hx rfl (pc0 := 234) (pc' := 238) rfl (hb hby at_234) (by decide) (by decide) ?_
    show Steps p.tables e below (T24.setTop (mkF m 238 #[.val (.int p0), .val (.int p1), .val (.int p2), .val (.int c0), .val (.int c1), .val (.int c2), .val (.ref b), .val (.int ((1 : Int32) + (own_bit (nar .boolean (own_fE_0 c0))))), .val (.int (((1 : Int32) + (own_bit (nar .boolean (own_fE_0 c0)))) + (own_bit (nar .boolean (own_fEL_0 c0 c1))))), .val (.int ((((1 : Int32) + (own_bit (nar .boolean (own_fE_0 c0)))) + (own_bit (nar .boolean (own_fEL_0 c0 c1)))) + (own_bit (nar .boolean (own_fEL_0 c1 c2))))), .val (.ref a), .val (.int u0), .val (.int v0), .val (.int u1), .val (.int v1), .val (.int u2), .val (.int v2), .val (.int (1 : Int32)), .val (.int (1 : Int32)), .unset] [(.int (1 : Int32))])) _
    refine XS.istore X24.here hx rfl (hb hby at_238) rfl (l' := #[.val (.int p0), .val (.int p1), .val (.int p2), .val (.int c0), .val (.int c1), .val (.int c2), .val (.ref b), .val (.int ((1 : Int32) + (own_bit (nar .boolean (own_fE_0 c0))))), .val (.int (((1 : Int32) + (own_bit (nar .boolean (own_fE_0 c0)))) + (own_bit (nar .boolean (own_fEL_0 c0 c1))))), .val (.int ((((1 : Int32) + (own_bit (nar .boolean (own_fE_0 c0)))) + (own_bit (nar .boolean (own_fEL_0 c0 c1)))) + (own_bit (nar .boolean (own_fEL_0 c1 c2))))), .val (.ref a), .val (.int u0), .val (.int v0), .val (.int u1), .val (.int v1), .val (.int u2), .val (.int v2), .val (.int (1 : Int32)), .val (.int (1 : Int32)), .val (.int (1 : Int32))]) rfl ?_
    show Steps p.tables e below (T24.setTop (mkF m 240 #[.val (.int p0), .val (.int p1), .val (.int p2), .val (.int c0), .val (.int c1), .val (.int c2), .val (.ref b), .val (.int ((1 : Int32) + (own_bit (nar .boolean (own_fE_0 c0))))), .val (.int (((1 : Int32) + (own_bit (nar .boolean (own_fE_0 c0)))) + (own_bit (nar .boolean (own_fEL_0 c0 c1))))), .val (.int ((((1 : Int32) + (own_bit (nar .boolean (own_fE_0 c0)))) + (own_bit (nar .boolean (own_fEL_0 c0 c1)))) + (own_bit (nar .boolean (own_fEL_0 c1 c2))))), .val (.ref a), .val (.int u0), .val (.int v0), .val (.int u1), .val (.int v1), .val (.int u2), .val (.int v2), .val (.int (1 : Int32)), .val (.int (1 : Int32)), .val (.int (1 : Int32))] [])) _
    refine XS.iload X24.here hx rfl (hb hby at_240) rfl ?_
    show Steps p.tables e below (T24.setTop (mkF m 242 #[.val (.int p0), .val (.int p1), .val (.int p2), .val (.int c0), .val (.int c1), .val (.int c2), .val (.ref b), .val (.int ((1 : Int32) + (own_bit (nar .boolean (own_fE_0 c0))))), .val (.int (((1 : Int32) + (own_bit (nar .boolean (own_fE_0 c0)))) + (own_bit (nar .boolean (own_fEL_0 c0 c1))))), .val (.int ((((1 : Int32) + (own_bit (nar .boolean (own_fE_0 c0)))) + (own_bit (nar .boolean (own_fEL_0 c0 c1)))) + (own_bit (nar .boolean (own_fEL_0 c1 c2))))), .val (.ref a), .val (.int u0), .val (.int v0), .val (.int u1), .val (.int v1), .val (.int u2), .val (.int v2), .val (.int (1 : Int32)), .val (.int (1 : Int32)), .val (.int (1 : Int32))] [(.int (1 : Int32))])) _
    refine XS.ifNo X24.here hx rfl (hb hby at_242) rfl (by decide) ?_
    show Steps p.tables e below (T24.setTop (mkF m 245 #[.val (.int p0), .val (.int p1), .val (.int p2), .val (.int c0), .val (.int c1), .val (.int c2), .val (.ref b), .val (.int ((1 : Int32) + (own_bit (nar .boolean (own_fE_0 c0))))), .val (.int (((1 : Int32) + (own_bit (nar .boolean (own_fE_0 c0)))) + (own_bit (nar .boolean (own_fEL_0 c0 c1))))), .val (.int ((((1 : Int32) + (own_bit (nar .boolean (own_fE_0 c0)))) + (own_bit (nar .boolean (own_fEL_0 c0 c1)))) + (own_bit (nar .boolean (own_fEL_0 c1 c2))))), .val (.ref a), .val (.int u0), .val (.int v0), .val (.int u1), .val (.int v1), .val (.int u2), .val (.int v2), .val (.int (1 : Int32)), .val (.int (1 : Int32)), .val (.int (1 : Int32))] [])) _
    refine XS.iload X24.here hx rfl (hb hby at_245) rfl ?_
    show Steps p.tables e below (T24.setTop (mkF m 247 #[.val (.int p0), .val (.int p1), .val (.int p2), .val (.int c0), .val (.int c1), .val (.int c2), .val (.ref b), .val (.int ((1 : Int32) + (own_bit (nar .boolean (own_fE_0 c0))))), .val (.int (((1 : Int32) + (own_bit (nar .boolean (own_fE_0 c0)))) + (own_bit (nar .boolean (own_fEL_0 c0 c1))))), .val (.int ((((1 : Int32) + (own_bit (nar .boolean (own_fE_0 c0)))) + (own_bit (nar .boolean (own_fEL_0 c0 c1)))) + (own_bit (nar .boolean (own_fEL_0 c1 c2))))), .val (.ref a), .val (.int u0), .val (.int v0), .val (.int u1), .val (.int v1), .val (.int u2), .val (.int v2), .val (.int (1 : Int32)), .val (.int (1 : Int32)), .val (.int (1 : Int32))] [(.int (1 : Int32))])) _
    refine XS.ifNo X24.here hx rfl (hb hby at_247) rfl (by decide) ?_
    show Steps p.tables e below (T24.setTop (mkF m 250 #[.val (.int p0), .val (.int p1), .val (.int p2), .val (.int c0), .val (.int c1), .val (.int c2), .val (.ref b), .val (.int ((1 : Int32) + (own_bit (nar .boolean (own_fE_0 c0))))), .val (.int (((1 : Int32) + (own_bit (nar .boolean (own_fE_0 c0)))) + (own_bit (nar .boolean (own_fEL_0 c0 c1))))), .val (.int ((((1 : Int32) + (own_bit (nar .boolean (own_fE_0 c0)))) + (own_bit (nar .boolean (own_fEL_0 c0 c1)))) + (own_bit (nar .boolean (own_fEL_0 c1 c2))))), .val (.ref a), .val (.int u0), .val (.int v0), .val (.int u1), .val (.int v1), .val (.int u2), .val (.int v2), .val (.int (1 : Int32)), .val (.int (1 : Int32)), .val (.int (1 : Int32))] [])) _
    refine XS.iload X24.here hx rfl (hb hby at_250) rfl ?_
    show Steps p.tables e below (T24.setTop (mkF m 252 #[.val (.int p0), .val (.int p1), .val (.int p2), .val (.int c0), .val (.int c1), .val (.int c2), .val (.ref b), .val (.int ((1 : Int32) + (own_bit (nar .boolean (own_fE_0 c0))))), .val (.int (((1 : Int32) + (own_bit (nar .boolean (own_fE_0 c0)))) + (own_bit (nar .boolean (own_fEL_0 c0 c1))))), .val (.int ((((1 : Int32) + (own_bit (nar .boolean (own_fE_0 c0)))) + (own_bit (nar .boolean (own_fEL_0 c0 c1)))) + (own_bit (nar .boolean (own_fEL_0 c1 c2))))), .val (.ref a), .val (.int u0), .val (.int v0), .val (.int u1), .val (.int v1), .val (.int u2), .val (.int v2), .val (.int (1 : Int32)), .val (.int (1 : Int32)), .val (.int (1 : Int32))] [(.int (1 : Int32))])) _
    refine XS.ifNo X24.here hx rfl (hb hby at_252) rfl (by decide) ?_
    show Steps p.tables e below (T24.setTop (mkF m 255 #[.val (.int p0), .val (.int p1), .val (.int p2), .val (.int c0), .val (.int c1), .val (.int c2), .val (.ref b), .val (.int ((1 : Int32) + (own_bit (nar .boolean (own_fE_0 c0))))), .val (.int (((1 : Int32) + (own_bit (nar .boolean (own_fE_0 c0)))) + (own_bit (nar .boolean (own_fEL_0 c0 c1))))), .val (.int ((((1 : Int32) + (own_bit (nar .boolean (own_fE_0 c0)))) + (own_bit (nar .boolean (own_fEL_0 c0 c1)))) + (own_bit (nar .boolean (own_fEL_0 c1 c2))))), .val (.ref a), .val (.int u0), .val (.int v0), .val (.int u1), .val (.int v1), .val (.int u2), .val (.int v2), .val (.int (1 : Int32)), .val (.int (1 : Int32)), .val (.int (1 : Int32))] [])) _
    refine XS.iconst X24.here hx rfl (hb hby at_255) ?_
    show Steps p.tables e below (T24.setTop (mkF m 256 #[.val (.int p0), .val (.int p1), .val (.int p2), .val (.int c0), .val (.int c1), .val (.int c2), .val (.ref b), .val (.int ((1 : Int32) + (own_bit (nar .boolean (own_fE_0 c0))))), .val (.int (((1 : Int32) + (own_bit (nar .boolean (own_fE_0 c0)))) + (own_bit (nar .boolean (own_fEL_0 c0 c1))))), .val (.int ((((1 : Int32) + (own_bit (nar .boolean (own_fE_0 c0)))) + (own_bit (nar .boolean (own_fEL_0 c0 c1)))) + (own_bit (nar .boolean (own_fEL_0 c1 c2))))), .val (.ref a), .val (.int u0), .val (.int v0), .val (.int u1), .val (.int v1), .val (.int u2), .val (.int v2), .val (.int (1 : Int32)), .val (.int (1 : Int32)), .val (.int (1 : Int32))] [(.int (1 : Int32))])) _
    refine XS.goto X24.here hx rfl (pc0 := 256) (pc' := 260) rfl (hb hby at_256) (by decide) (by decide) ?_
    show Steps p.tables e below (T24.setTop (mkF m 260 #[.val (.int p0), .val (.int p1), .val (.int p2), .val (.int c0), .val (.int c1), .val (.int c2), .val (.ref b), .val (.int ((1 : Int32) + (own_bit (nar .boolean (own_fE_0 c0))))), .val (.int (((1 : Int32) + (own_bit (nar .boolean (own_fE_0 c0)))) + (own_bit (nar .boolean (own_fEL_0 c0 c1))))), .val (.int ((((1 : Int32) + (own_bit (nar .boolean (own_fE_0 c0)))) + (own_bit (nar .boolean (own_fEL_0 c0 c1)))) + (own_bit (nar .boolean (own_fEL_0 c1 c2))))), .val (.ref a), .val (.int u0), .val (.int v0), .val (.int u1), .val (.int v1), .val (.int u2), .val (.int v2), .val (.int (1 : Int32)), .val (.int (1 : Int32)), .val (.int (1 : Int32))] [(.int (1 : Int32))])) _
    exact retN X24 hx (t := .boolean) Bd.returns (by simp) (hb hby at_260) hr
  · exact ⟨rfl, N24⟩
set_option maxRecDepth 65536 in
set_option maxHeartbeats 40000000 in
theorem own_comes {Post : Tables → Env → Array Value → State → Outcome → State → Prop} (hpost : ∀ tb e args s v u, (limb_1_1.after args s (.returned v) u = true ∧ limb_1_2.after args s (.returned v) u = true ∧ True) → FrameEnd s (.returned v) u (Jvm.fieldLocs frame_1_writes args s ++ Jvm.arrayLocs frame_1_arrays args s ++ Jvm.staticLocs frame_1_statics s) 16 128 → Post tb e args s (.returned v) u) :
    ArmFor flags0 classFile x code maxLocals ret World_1 tables_1 room_1 Calls_1 rest_1 Pre_1 Post := by
  intro l hfl _ _ p e ha hc hk s m args below hf hA hF happ hP
  obtain ⟨hcalls, hrest, hpre⟩ := hP
  obtain ⟨-, -, -, hnamed, -, -, -, hat⟩ := (Spec.applies_iff hf).mp happ
  obtain ⟨hg, hn⟩ := and_e (Cond.before_iff.mp (show (Jvm.Cond.and given_1 narrow_1).before args s = true from hpre))
  obtain ⟨g0, k0⟩ := and_e hg
  obtain ⟨q0, k1⟩ := and_e k0
  obtain ⟨q1, k2⟩ := and_e k1
  obtain ⟨w0, w1, w2, rfl⟩ : ∃ w0 w1 w2 : Value, args = #[w0, w1, w2] := by
    have hs : args.size = 3 := by simpa [Cond.value, given_1] using g0
    obtain ⟨L⟩ := args
    match L, hs with
    | [w0, w1, w2], _ => exact ⟨w0, w1, w2, rfl⟩
  have hw := fun d (hd : d ∈ tables_1) => atoms_spec (ws := Jvm.Cond.code x code maxLocals ret :: tables_1) hat d (List.mem_cons_of_mem _ hd)
  obtain ⟨i0, ei0⟩ := is_v q0
  obtain rfl : w0 = (.int i0) := Option.some.inj ei0
  obtain ⟨i1, ei1⟩ := is_v q1
  obtain rfl : w1 = (.int i1) := Option.some.inj ei1
  obtain ⟨i2, ei2⟩ := is_v k2
  obtain rfl : w2 = (.int i2) := Option.some.inj ei2
  obtain ⟨n, o, h1, h2, h3, _, L, rfl, ⟨rfl, N⟩, hq⟩ := own_rm0 l s _ hw tables_1 i0 i1 i2 s.heap s.heap.size (Nat.le_refl _) p e ha hc hk s m _ below hf ((Spec.applies_iff_loose hf).mp happ).1 ⟨rfl, State.Warmed39.refl s, rfl⟩ trivial
  refine ⟨n, _, h1, h2, h3, hpost _ _ _ _ _ _ ⟨Cond.after_iff.mpr rfl, Cond.after_iff.mpr (eq_i res_at (Term.int_eval (1)) rfl), trivial⟩ ⟨hq.1, hq.2.1, (hq.2.2.sift fun y hy => Or.inr (N y hy)).mono (by decide) (by decide)⟩⟩
theorem main_1_1 : Claimed_1_1 := own_comes fun _ _ _ _ _ _ h hF => ⟨h.1, hF⟩
theorem main_1_2 : Claimed_1_2 := own_comes fun _ _ _ _ _ _ h hF => ⟨h.2.1, hF⟩
end Jvm.Pilot.@@N@@
namespace Jvm.Pilot.@@N@@
open Jvm Jvm.ClassFile Sem Op Lib Jvm.Free Jvm.Stand Jvm.Pilot.@@N@@.Jvm.D
/-! MADE BY PROGRAM (witnessworld.py) out of the Statement's table words and the real class files: 11 classes; the members and pool entries that the words name. The judged class is class 1, her method 5. -/
namespace start1
open Jvm.ClassFile
def u (s : String) : CpInfo := .utf8 (stringToUtf16 s)
/-- a pool by its gaps: so many unusable entries, then the entry; so many at the end -/
def gap : Nat → List CpInfo → List CpInfo
  | 0, r => r
  | n + 1, r => .unusable :: gap n r
def poolList (es : List (Nat × CpInfo)) (last : Nat) : List CpInfo := es.foldr (fun e r => gap e.1 (e.2 :: r)) (gap last [])
def pool (es : List (Nat × CpInfo)) (last : Nat) : Array CpInfo := ⟨poolList es last⟩
def fileOf (pool : Array CpInfo) (this : Nat) (attrs : Array Attribute := #[]) (ms : Array MethodInfo := #[]) (fl : Nat := 33) (sup : Nat := 0) (ifs : Array Nat := #[]) (fds : Array FieldInfo := #[]) : ClassFile where
  minorVersion := 0
  majorVersion := 65
  constantPool := pool
  accessFlags := fl
  thisClass := this
  superClass := sup
  interfaces := ifs
  fields := fds
  methods := ms
  attributes := attrs
def plain (name : String) (sup : Option ClassId) : Class where
  name := name
  kind := .ordinary
  loader := none
  accessFlags := 33
  super := sup
  interfaces := #[]
  cf := none
  fields := #[]
  methods := #[]
  instanceTypes := #[]
  staticTypes := #[]
  resolved := #[]
  callSites := []
  init := .initialized
  statics := none
  mirror := none

def pool0 : Array CpInfo := pool [(5, u "<init>"), (0, u "()V"), (1, .class_ 10), (1, u "java/lang/Object")] 113

def k0c0 : Code := { maxStack := 0, maxLocals := 1, code := object_method_1_code, exceptionTable := #[], attributes := #[] }
def k0m0 : Method := { name := "<init>", desc := "()V", sig := { parameters := [], returnType := none }, accessFlags := 1, code := some k0c0 }
/-- java/lang/Object -/
def k0 : Class := { plain "java/lang/Object" none with
  accessFlags := 33
  interfaces := #[]
  cf := some (fileOf pool0 8 #[] #[{ accessFlags := 1, nameIndex := 5, descriptorIndex := 6, attributes := #[] }] 33 0 #[] #[])
  fields := #[]
  methods := #[k0m0]
  instanceTypes := #[]
  staticTypes := #[]
  resolved := Array.replicate 124 none
  statics := none }

def pool1 : Array CpInfo := pool [(2, .class_ 4), (0, .nameAndType 5 6), (0, u "java/lang/Object"), (0, u "<init>"), (0, u "()V"), (0, .methodref 8 9), (0, .class_ 10), (0, .nameAndType 11 12), (0, u "com/example/amberwire/amberwire/core/text/PlaceCounterPassPinLaw"), (0, u "isEnd"), (0, u "(C)Z"), (0, .methodref 8 14), (0, .nameAndType 15 16), (0, u "pick"), (0, u "(I)C"), (0, .methodref 8 18), (0, .nameAndType 19 20), (0, u "endsLine"), (0, u "(CC)Z"), (0, .class_ 22), (0, u "com/example/amberwire/amberwire/core/text/PlaceCounter"), (0, .methodref 21 3), (0, .methodref 21 25), (0, .nameAndType 26 27), (0, u "pass"), (0, u "(C)V"), (0, .methodref 21 29), (0, .nameAndType 30 31), (0, u "line"), (0, u "()I"), (0, .methodref 21 33), (0, .nameAndType 34 31), (0, u "column"), (0, .methodref 8 36), (0, .nameAndType 37 38), (0, u "col"), (0, u "([CI)I"), (3, u "law"), (0, u "(III)Z")] 4

def k1m0 : Method := { name := "<init>", desc := "()V", sig := { parameters := [], returnType := none }, accessFlags := 1, code := none }
def k1c1 : Code := { maxStack := 2, maxLocals := 2, code := method_2_code, exceptionTable := #[], attributes := #[] }
def k1m1 : Method := { name := "pick", desc := "(I)C", sig := { parameters := [.int], returnType := some .char }, accessFlags := 10, code := some k1c1 }
def k1c2 : Code := { maxStack := 2, maxLocals := 1, code := method_3_code, exceptionTable := #[], attributes := #[] }
def k1m2 : Method := { name := "isEnd", desc := "(C)Z", sig := { parameters := [.char], returnType := some .boolean }, accessFlags := 10, code := some k1c2 }
def k1c3 : Code := { maxStack := 2, maxLocals := 2, code := method_4_code, exceptionTable := #[], attributes := #[] }
def k1m3 : Method := { name := "endsLine", desc := "(CC)Z", sig := { parameters := [.char, .char], returnType := some .boolean }, accessFlags := 10, code := some k1c3 }
def k1c4 : Code := { maxStack := 3, maxLocals := 2, code := method_5_code, exceptionTable := #[], attributes := #[] }
def k1m4 : Method := { name := "col", desc := "([CI)I", sig := { parameters := [(.array .char), .int], returnType := some .int }, accessFlags := 10, code := some k1c4 }
def k1c5 : Code := { maxStack := 3, maxLocals := 20, code := code, exceptionTable := #[], attributes := #[] }
def k1m5 : Method := { name := "law", desc := "(III)Z", sig := { parameters := [.int, .int, .int], returnType := some .boolean }, accessFlags := 9, code := some k1c5 }
/-- com/example/amberwire/amberwire/core/text/PlaceCounterPassPinLaw -/
def k1 : Class := { plain "com/example/amberwire/amberwire/core/text/PlaceCounterPassPinLaw" (some 0) with
  accessFlags := 49
  interfaces := #[]
  cf := some (fileOf pool1 8 #[] #[{ accessFlags := 1, nameIndex := 5, descriptorIndex := 6, attributes := #[] }, { accessFlags := 10, nameIndex := 15, descriptorIndex := 16, attributes := #[] }, { accessFlags := 10, nameIndex := 11, descriptorIndex := 12, attributes := #[] }, { accessFlags := 10, nameIndex := 19, descriptorIndex := 20, attributes := #[] }, { accessFlags := 10, nameIndex := 37, descriptorIndex := 38, attributes := #[] }, { accessFlags := 9, nameIndex := 42, descriptorIndex := 43, attributes := #[] }] 49 2 #[] #[])
  fields := #[]
  methods := #[k1m0, k1m1, k1m2, k1m3, k1m4, k1m5]
  instanceTypes := #[]
  staticTypes := #[]
  resolved := Array.replicate 48 none
  statics := none }

def pool2 : Array CpInfo := pool [(1, .methodref 2 3), (0, .class_ 4), (0, .nameAndType 5 6), (0, u "java/lang/Object"), (0, u "<init>"), (0, u "()V"), (0, .fieldref 8 9), (0, .class_ 10), (0, .nameAndType 11 12), (0, u "com/example/amberwire/amberwire/core/text/PlaceCounter"), (0, u "line"), (0, u "I"), (0, .fieldref 8 14), (0, .nameAndType 15 16), (0, u "afterCarriageReturn"), (0, u "Z"), (0, .fieldref 8 18), (0, .nameAndType 19 12), (0, u "column"), (5, u "()I"), (6, u "pass"), (0, u "(C)V")] 15

def k2c0 : Code := { maxStack := 2, maxLocals := 1, code := prog_161_method_1_code, exceptionTable := #[], attributes := #[] }
def k2m0 : Method := { name := "<init>", desc := "()V", sig := { parameters := [], returnType := none }, accessFlags := 1, code := some k2c0 }
def k2c1 : Code := { maxStack := 3, maxLocals := 3, code := prog_161_method_2_code, exceptionTable := #[], attributes := #[] }
def k2m1 : Method := { name := "pass", desc := "(C)V", sig := { parameters := [.char], returnType := none }, accessFlags := 1, code := some k2c1 }
def k2c2 : Code := { maxStack := 1, maxLocals := 1, code := prog_161_method_5_code, exceptionTable := #[], attributes := #[] }
def k2m2 : Method := { name := "line", desc := "()I", sig := { parameters := [], returnType := some .int }, accessFlags := 1, code := some k2c2 }
def k2c3 : Code := { maxStack := 1, maxLocals := 1, code := prog_161_method_6_code, exceptionTable := #[], attributes := #[] }
def k2m3 : Method := { name := "column", desc := "()I", sig := { parameters := [], returnType := some .int }, accessFlags := 1, code := some k2c3 }
/-- com/example/amberwire/amberwire/core/text/PlaceCounter -/
def k2 : Class := { plain "com/example/amberwire/amberwire/core/text/PlaceCounter" (some 0) with
  accessFlags := 49
  interfaces := #[]
  cf := some (fileOf pool2 8 #[] #[{ accessFlags := 1, nameIndex := 5, descriptorIndex := 6, attributes := #[] }, { accessFlags := 1, nameIndex := 32, descriptorIndex := 33, attributes := #[] }, { accessFlags := 1, nameIndex := 11, descriptorIndex := 25, attributes := #[] }, { accessFlags := 1, nameIndex := 19, descriptorIndex := 25, attributes := #[] }] 49 2 #[] #[{ accessFlags := 2, nameIndex := 11, descriptorIndex := 12, attributes := #[] }, { accessFlags := 2, nameIndex := 19, descriptorIndex := 12, attributes := #[] }, { accessFlags := 2, nameIndex := 15, descriptorIndex := 16, attributes := #[] }])
  fields := #[{ name := "line", type := .int, accessFlags := 2, slot := 0, constantValue := 0 }, { name := "column", type := .int, accessFlags := 2, slot := 1, constantValue := 0 }, { name := "afterCarriageReturn", type := .boolean, accessFlags := 2, slot := 2, constantValue := 0 }]
  methods := #[k2m0, k2m1, k2m2, k2m3]
  instanceTypes := #[.int, .int, .boolean]
  staticTypes := #[]
  resolved := Array.replicate 49 none
  statics := none }

def pool3 : Array CpInfo := pool [(1, u "java/lang/Cloneable"), (0, .class_ 1), (0, u "java/lang/Object"), (0, .class_ 3)] 3

/-- java/lang/Cloneable -/
def k3 : Class := { plain "java/lang/Cloneable" (some 0) with
  accessFlags := 1537
  interfaces := #[]
  cf := some (fileOf pool3 2 #[] #[] 1537 4 #[] #[])
  fields := #[]
  methods := #[]
  instanceTypes := #[]
  staticTypes := #[]
  resolved := Array.replicate 8 none
  statics := none }

def pool4 : Array CpInfo := pool [(1, u "java/io/Serializable"), (0, .class_ 1), (0, u "java/lang/Object"), (0, .class_ 3)] 3

/-- java/io/Serializable -/
def k4 : Class := { plain "java/io/Serializable" (some 0) with
  accessFlags := 1537
  interfaces := #[]
  cf := some (fileOf pool4 2 #[] #[] 1537 4 #[] #[])
  fields := #[]
  methods := #[]
  instanceTypes := #[]
  staticTypes := #[]
  resolved := Array.replicate 8 none
  statics := none }

/-- the primitive byte -/
def k5 : Class := { plain "byte" none with kind := .primitive 'B', accessFlags := 0x411 }
/-- [B -/
def k6 : Class := { plain "[B" (some 0) with kind := .array 5 .byte, interfaces := #[3, 4], accessFlags := 1041 }

/-- the primitive char -/
def k7 : Class := { plain "char" none with kind := .primitive 'C', accessFlags := 0x411 }
/-- [C -/
def k8 : Class := { plain "[C" (some 0) with kind := .array 7 .char, interfaces := #[3, 4], accessFlags := 1041 }

/-- the primitive int -/
def k9 : Class := { plain "int" none with kind := .primitive 'I', accessFlags := 0x411 }
/-- [I -/
def k10 : Class := { plain "[I" (some 0) with kind := .array 9 .int, interfaces := #[3, 4], accessFlags := 1041 }

def heap : Heap := #[]
def classes : Array Class := #[k0, k1, k2, k3, k4, k5, k6, k7, k8, k9, k10]
def interned : List (Array UInt16 × Addr) := []
def slotsUsed : Nat := 0
def theMethod : MethodId := ⟨1, 5⟩
def args0 : Array Value := #[.int 4, .int 5, .int 6]
def aboutOver (below : List Frame) : State where
  vm := { classes := classes, interned := interned.toArray }
  heap := heap
  slotsUsed := slotsUsed
  threads := #[{ frames := .invoking theMethod args0 :: below }]
def below0 : List Frame := [.native { method := ⟨0, 0⟩, args := #[] }]
def about1 : State := aboutOver below0
def p0 : Program := .bare "" "" ""
def e0 : Env := launch0.env 0 0 0
theorem w_frames : about1.frames = Frame.invoking theMethod args0 :: below0 := rfl
set_option maxRecDepth 65536 in
theorem w_args : argsFit about1.vm theMethod args0 = true := by decide +kernel
set_option maxRecDepth 65536 in
theorem w_heap : heapFits about1 = true := by decide +kernel
set_option maxRecDepth 65536 in
theorem w_runnable : about1.curStatus? = some .runnable := by decide +kernel
set_option maxRecDepth 65536 in
theorem w_alone : about1.alone = true := by decide +kernel
set_option maxRecDepth 65536 in
theorem w_named : about1.methodNamed? x = some theMethod := by decide +kernel
set_option maxRecDepth 65536 in
theorem w_hears : about1.hears theMethod below0 = true := by decide +kernel
set_option maxRecDepth 65536 in
theorem w_ripe : about1.ripe theMethod args0 below0 = true := by decide +kernel
theorem w_running : about1.status = .running := rfl
set_option maxRecDepth 65536 in
theorem w_room : about1.hasRoom e0.platform room_1 = true :=
  launch0.hasRoom_least _ room_1 (by decide +kernel) (by decide +kernel) (by decide +kernel) (by decide +kernel) (by decide +kernel) (by decide +kernel)
theorem allAtoms_all (ts : List Jvm.Cond) (a : Array Jvm.Value) (st : Jvm.State) : (allAtoms ts).before a st = ts.all (fun c => c.before a st) := by
  induction ts with
  | nil => rfl
  | cons c t ih =>
    show (Jvm.Cond.and c (allAtoms t)).before a st = _
    rw [Jvm.Cond.before_and, ih, List.all_cons]
def words1 : List Jvm.Cond := Jvm.Cond.code x code maxLocals ret :: tables_1
/-- a 'code' word, met by the world's own term for the bytes: nothing is compared byte by byte -/
theorem code_word {y : MethodName} {bytes : ByteArray} {mx : Nat} {rt : Option FieldType} {a : Array Value} {s : State} {m : MethodId} {meth : Method} {c : Code} (h1 : s.methodNamed? y = some m) (h2 : s.vm.method? m = some meth) (h3 : meth.code = some c) (h4 : c.code = bytes)
    (h5 : (c.maxLocals == mx && c.exceptionTable.isEmpty && decide (c.maxStack ≤ mostOperands) && decide (meth.sig.returnType = rt) && !meth.locks && decide (parseMethodDescriptor y.desc = some meth.sig)) = true) : (Jvm.Cond.code y bytes mx rt).before a s = true := by
  simp only [Bool.and_eq_true, beq_iff_eq, Bool.not_eq_true', decide_eq_true_eq] at h5
  obtain ⟨⟨⟨⟨⟨g1, g2⟩, g3⟩, g4⟩, g5⟩, g6⟩ := h5
  simp [Cond.before, Cond.holds, Cond.value, h1, h2, h3, h4, g1, g2, g3, g4, g5, g6]
def isCode : Jvm.Cond → Bool
  | .code _ _ _ _ => true
  | _ => false
theorem all_split {L : List Jvm.Cond} {P : Jvm.Cond → Bool} (h1 : L.all (fun c => isCode c || P c) = true) (h2 : ∀ c ∈ L.filter isCode, P c = true) : L.all P = true := by
  refine List.all_eq_true.mpr fun c hc => ?_
  have h := List.all_eq_true.mp h1 c hc
  rcases Bool.eq_false_or_eq_true (isCode c) with hi | hi
  · exact h2 c (List.mem_filter.mpr ⟨hc, hi⟩)
  · simpa [hi] using h
set_option maxRecDepth 65536 in
theorem w_c0 : (Jvm.Cond.code x code maxLocals ret).before args0 about1 = true := code_word (m := ⟨1, 5⟩) (meth := k1m5) (c := k1c5) (by decide +kernel) rfl rfl rfl (by decide +kernel)
set_option maxRecDepth 65536 in
theorem w_c1 : (Jvm.Cond.code ({ cls := "com/example/amberwire/amberwire/core/text/PlaceCounterPassPinLaw", name := "pick", desc := "(I)C" } : Jvm.MethodName) method_2_code (2 : Nat) (Option.some Jvm.ClassFile.FieldType.char)).before args0 about1 = true := code_word (m := ⟨1, 1⟩) (meth := k1m1) (c := k1c1) (by decide +kernel) rfl rfl rfl (by decide +kernel)
set_option maxRecDepth 65536 in
theorem w_c2 : (Jvm.Cond.code ({ cls := "com/example/amberwire/amberwire/core/text/PlaceCounterPassPinLaw", name := "isEnd", desc := "(C)Z" } : Jvm.MethodName) method_3_code (1 : Nat) (Option.some Jvm.ClassFile.FieldType.boolean)).before args0 about1 = true := code_word (m := ⟨1, 2⟩) (meth := k1m2) (c := k1c2) (by decide +kernel) rfl rfl rfl (by decide +kernel)
set_option maxRecDepth 65536 in
theorem w_c3 : (Jvm.Cond.code ({ cls := "com/example/amberwire/amberwire/core/text/PlaceCounterPassPinLaw", name := "endsLine", desc := "(CC)Z" } : Jvm.MethodName) method_4_code (2 : Nat) (Option.some Jvm.ClassFile.FieldType.boolean)).before args0 about1 = true := code_word (m := ⟨1, 3⟩) (meth := k1m3) (c := k1c3) (by decide +kernel) rfl rfl rfl (by decide +kernel)
set_option maxRecDepth 65536 in
theorem w_c4 : (Jvm.Cond.code ({ cls := "com/example/amberwire/amberwire/core/text/PlaceCounter", name := "<init>", desc := "()V" } : Jvm.MethodName) prog_161_method_1_code (1 : Nat) (Option.none : Option Jvm.ClassFile.FieldType)).before args0 about1 = true := code_word (m := ⟨2, 0⟩) (meth := k2m0) (c := k2c0) (by decide +kernel) rfl rfl rfl (by decide +kernel)
set_option maxRecDepth 65536 in
theorem w_c5 : (Jvm.Cond.code ({ cls := "java/lang/Object", name := "<init>", desc := "()V" } : Jvm.MethodName) object_method_1_code (1 : Nat) (Option.none : Option Jvm.ClassFile.FieldType)).before args0 about1 = true := code_word (m := ⟨0, 0⟩) (meth := k0m0) (c := k0c0) (by decide +kernel) rfl rfl rfl (by decide +kernel)
set_option maxRecDepth 65536 in
theorem w_c6 : (Jvm.Cond.code ({ cls := "com/example/amberwire/amberwire/core/text/PlaceCounter", name := "pass", desc := "(C)V" } : Jvm.MethodName) prog_161_method_2_code (3 : Nat) (Option.none : Option Jvm.ClassFile.FieldType)).before args0 about1 = true := code_word (m := ⟨2, 1⟩) (meth := k2m1) (c := k2c1) (by decide +kernel) rfl rfl rfl (by decide +kernel)
set_option maxRecDepth 65536 in
theorem w_c7 : (Jvm.Cond.code ({ cls := "com/example/amberwire/amberwire/core/text/PlaceCounter", name := "line", desc := "()I" } : Jvm.MethodName) prog_161_method_5_code (1 : Nat) (Option.some Jvm.ClassFile.FieldType.int)).before args0 about1 = true := code_word (m := ⟨2, 2⟩) (meth := k2m2) (c := k2c2) (by decide +kernel) rfl rfl rfl (by decide +kernel)
set_option maxRecDepth 65536 in
theorem w_c8 : (Jvm.Cond.code ({ cls := "com/example/amberwire/amberwire/core/text/PlaceCounter", name := "column", desc := "()I" } : Jvm.MethodName) prog_161_method_6_code (1 : Nat) (Option.some Jvm.ClassFile.FieldType.int)).before args0 about1 = true := code_word (m := ⟨2, 3⟩) (meth := k2m3) (c := k2c3) (by decide +kernel) rfl rfl rfl (by decide +kernel)
set_option maxRecDepth 65536 in
theorem w_c9 : (Jvm.Cond.code ({ cls := "com/example/amberwire/amberwire/core/text/PlaceCounterPassPinLaw", name := "col", desc := "([CI)I" } : Jvm.MethodName) method_5_code (2 : Nat) (Option.some Jvm.ClassFile.FieldType.int)).before args0 about1 = true := code_word (m := ⟨1, 4⟩) (meth := k1m4) (c := k1c4) (by decide +kernel) rfl rfl rfl (by decide +kernel)
def codes1 : List Jvm.Cond := [Jvm.Cond.code x code maxLocals ret, Jvm.Cond.code ({ cls := "com/example/amberwire/amberwire/core/text/PlaceCounterPassPinLaw", name := "pick", desc := "(I)C" } : Jvm.MethodName) method_2_code (2 : Nat) (Option.some Jvm.ClassFile.FieldType.char), Jvm.Cond.code ({ cls := "com/example/amberwire/amberwire/core/text/PlaceCounterPassPinLaw", name := "isEnd", desc := "(C)Z" } : Jvm.MethodName) method_3_code (1 : Nat) (Option.some Jvm.ClassFile.FieldType.boolean), Jvm.Cond.code ({ cls := "com/example/amberwire/amberwire/core/text/PlaceCounterPassPinLaw", name := "endsLine", desc := "(CC)Z" } : Jvm.MethodName) method_4_code (2 : Nat) (Option.some Jvm.ClassFile.FieldType.boolean), Jvm.Cond.code ({ cls := "com/example/amberwire/amberwire/core/text/PlaceCounter", name := "<init>", desc := "()V" } : Jvm.MethodName) prog_161_method_1_code (1 : Nat) (Option.none : Option Jvm.ClassFile.FieldType), Jvm.Cond.code ({ cls := "java/lang/Object", name := "<init>", desc := "()V" } : Jvm.MethodName) object_method_1_code (1 : Nat) (Option.none : Option Jvm.ClassFile.FieldType), Jvm.Cond.code ({ cls := "com/example/amberwire/amberwire/core/text/PlaceCounter", name := "pass", desc := "(C)V" } : Jvm.MethodName) prog_161_method_2_code (3 : Nat) (Option.none : Option Jvm.ClassFile.FieldType), Jvm.Cond.code ({ cls := "com/example/amberwire/amberwire/core/text/PlaceCounter", name := "line", desc := "()I" } : Jvm.MethodName) prog_161_method_5_code (1 : Nat) (Option.some Jvm.ClassFile.FieldType.int), Jvm.Cond.code ({ cls := "com/example/amberwire/amberwire/core/text/PlaceCounter", name := "column", desc := "()I" } : Jvm.MethodName) prog_161_method_6_code (1 : Nat) (Option.some Jvm.ClassFile.FieldType.int), Jvm.Cond.code ({ cls := "com/example/amberwire/amberwire/core/text/PlaceCounterPassPinLaw", name := "col", desc := "([CI)I" } : Jvm.MethodName) method_5_code (2 : Nat) (Option.some Jvm.ClassFile.FieldType.int)]
set_option maxRecDepth 65536 in
theorem codes_eq : words1.filter isCode = codes1 := rfl
theorem w_codes : ∀ c ∈ words1.filter isCode, c.before args0 about1 = true := by
  rw [codes_eq]
  intro c hc
  simp only [codes1, List.mem_cons, List.not_mem_nil, or_false] at hc
  rcases hc with rfl | rfl | rfl | rfl | rfl | rfl | rfl | rfl | rfl | rfl
  · exact w_c0
  · exact w_c1
  · exact w_c2
  · exact w_c3
  · exact w_c4
  · exact w_c5
  · exact w_c6
  · exact w_c7
  · exact w_c8
  · exact w_c9
set_option maxRecDepth 65536 in
theorem w_t1 : (words1.take 24).all (fun c => isCode c || c.before args0 about1) = true := by decide +kernel
set_option maxRecDepth 65536 in
theorem w_t2 : (words1.drop 24).all (fun c => isCode c || c.before args0 about1) = true := by decide +kernel
theorem w_tables : (allAtoms (Jvm.Cond.code x code maxLocals ret :: tables_1)).before args0 about1 = true := by
  rw [allAtoms_all]
  show words1.all (fun c => c.before args0 about1) = true
  refine all_split ?_ w_codes
  rw [← List.take_append_drop 24 words1, List.all_append, w_t1, w_t2]
  rfl
set_option maxRecDepth 65536 in
theorem w_case : (Jvm.Cond.and given_1 narrow_1).before args0 about1 = true := by decide +kernel
theorem w_applies : (headSpec (Jvm.Cond.code x code maxLocals ret :: tables_1) room_1).applies x e0.platform about1 = true :=
  (Spec.applies_iff w_frames).mpr ⟨w_running, w_runnable, w_alone, w_named, w_hears, w_ripe, w_room, w_tables⟩
theorem atStart : AtStart classFile x code maxLocals ret World_1 tables_1 room_1 Calls_1 rest_1 Pre_1 launch0 p0 e0 about1 theMethod args0 below0 :=
  ⟨lists_1, trivial, launch0.admits_env _ _ _, launch0.least_env, fairChoices_fair.cas, fairChoices_fair.clock, w_frames, w_args, w_heap, w_applies, trivial, trivial, w_case⟩
end start1
theorem witness_1 : WitnessClaimed_1 := ⟨start1.p0, start1.e0, start1.about1, start1.theMethod, start1.args0, start1.below0, start1.atStart⟩
end Jvm.Pilot.@@N@@
