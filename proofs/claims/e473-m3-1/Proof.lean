import JvmDerived
import JvmDerived.Pilot.@@N@@Statement
import JvmDerived.Pilot.@@N@@Code
set_option linter.unusedVariables false
set_option linter.unusedSimpArgs false
namespace Jvm.RoadKit
open Sem ClassFile Op Lib Jvm.Stand Jvm.Free Jvm.LawKit
section New
variable {p : Program} {l : Launch} {e : Env} {R : Room} {s : State} {m : MethodId} {args : Array Value} {below : List Frame} {meth : Method} {c : Code} {T : State} {locs : List Loc} {cells slots : Nat}
theorem retI (X : Stand p l e R s m args below meth c T locs cells slots) (hx : p.tables.exec = Jvm.exec) {pc : Nat} {Ls : Array Slot} {z : Int32} {rest : List Value} (hret : meth.sig.returnType = some .int) (hd : decode c.code pc = .ok (.ireturn, 1)) {fs : List Frame}
    (hl : ∀ (f : JFrame) (acts : List Action), f.method = m → f.locked = none → f.entered = [] → (doReturn e (T.setTop f) acts (some (.int z))).1 = T.setFrames fs) : Steps p.tables e below (T.setTop (mkF m pc Ls (.int z :: rest))) (T.setFrames fs) := by
  have hm' : T.vm.method? m = some meth := X.method'
  have hn : narrow .int (.int z) = .int z := rfl
  show Steps p.tables e below (T.setTop { method := m, pc := pc, locals := Ls, stack := _ :: rest, locked := none }) _
  jvm_step X.here [X.here.top, hx, hd, hm', hret, hn]
  first | (intro acts; rw [hl _ acts rfl rfl rfl]) | rw [hl _ _ rfl rfl rfl]
  exact Steps.refl _
end New
end Jvm.RoadKit
namespace Jvm.Pilot.@@N@@
open Jvm Jvm.ClassFile Sem Op Lib Jvm.Free Jvm.Stand Jvm.LawKit Jvm.RoadKit Bundle Jvm.Pilot.@@N@@.Jvm.D
theorem own_tf (b : Bool) : b = true ∨ b = false := by cases b <;> simp
theorem own_t {b : Bool} {x y z : Int32} (h : b = true) (k : x = z) : (bif b then x else y) = z := by subst h; exact k
theorem own_f {b : Bool} {x y z : Int32} (h : b = false) (k : y = z) : (bif b then x else y) = z := by subst h; exact k
theorem own_ltT {x y : Int32} {n : Int} (hy : y.toInt = n) (h : x.toInt < n) : if_icmp.holds .lt x y = true := (tlt (Int32.lt_iff_toInt_lt.mpr (by rw [hy]; exact h))).1
theorem own_ltF {x y : Int32} {n : Int} (hy : y.toInt = n) (h : n ≤ x.toInt) : if_icmp.holds .lt x y = false := (flt (fun q => absurd (Int32.lt_iff_toInt_lt.mp q) (by rw [hy]; exact Int.not_lt.mpr h))).1
theorem own_geT {x y : Int32} {n : Int} (hy : y.toInt = n) (h : n ≤ x.toInt) : if_icmp.holds .ge x y = true := (flt (fun q => absurd (Int32.lt_iff_toInt_lt.mp q) (by rw [hy]; exact Int.not_lt.mpr h))).2.1
theorem own_geF {x y : Int32} {n : Int} (hy : y.toInt = n) (h : x.toInt < n) : if_icmp.holds .ge x y = false := (tlt (Int32.lt_iff_toInt_lt.mpr (by rw [hy]; exact h))).2.1
theorem own_gtT {x y : Int32} {n : Int} (hy : y.toInt = n) (h : n < x.toInt) : if_icmp.holds .gt x y = true := (tlt (Int32.lt_iff_toInt_lt.mpr (by rw [hy]; exact h))).2.2.1
theorem own_gtF {x y : Int32} {n : Int} (hy : y.toInt = n) (h : x.toInt ≤ n) : if_icmp.holds .gt x y = false := (flt (fun q => absurd (Int32.lt_iff_toInt_lt.mp q) (by rw [hy]; exact Int.not_lt.mpr h))).2.2.1
theorem own_leT {x y : Int32} {n : Int} (hy : y.toInt = n) (h : x.toInt ≤ n) : if_icmp.holds .le x y = true := (flt (fun q => absurd (Int32.lt_iff_toInt_lt.mp q) (by rw [hy]; exact Int.not_lt.mpr h))).2.2.2
theorem own_leF {x y : Int32} {n : Int} (hy : y.toInt = n) (h : n < x.toInt) : if_icmp.holds .le x y = false := (tlt (Int32.lt_iff_toInt_lt.mpr (by rw [hy]; exact h))).2.2.2
theorem own_eqT {x y : Int32} {n : Int} (hy : y.toInt = n) (h : x.toInt = n) : if_icmp.holds .eq x y = true := (teq (Int32.toInt_inj.mp (h.trans hy.symm))).1
theorem own_eqF {x y : Int32} {n : Int} (hy : y.toInt = n) (h : x.toInt ≠ n) : if_icmp.holds .eq x y = false := (feq (fun q => h (by rw [q]; exact hy))).1
theorem own_neT {x y : Int32} {n : Int} (hy : y.toInt = n) (h : x.toInt ≠ n) : if_icmp.holds .ne x y = true := (feq (fun q => h (by rw [q]; exact hy))).2
theorem own_neF {x y : Int32} {n : Int} (hy : y.toInt = n) (h : x.toInt = n) : if_icmp.holds .ne x y = false := (teq (Int32.toInt_inj.mp (h.trans hy.symm))).2
theorem own_pt {x y : Int32} {n : Int} (hy : y.toInt = n) (h : x.toInt = n) : x = y := Int32.toInt_inj.mp (h.trans hy.symm)
def own_Q (w : Option Value) (h0 : Heap) (n0 : Nat) (v : Option Value) (h : Heap) (L : List Loc) : Prop := v = w ∧ Fr n0 L ∧ h = h0
def own_Q0 (n0 : Nat) (v : Option Value) (L : List Loc) : Prop := v = some (.int (1 : Int32)) ∧ Fr n0 L
section OwnCall
variable {p : Program} {l : Launch} {e : Env} {R : Room} {s : State} {m : MethodId} {args : Array Value} {below : List Frame} {meth : Method} {c : Code} {T : State} {locs : List Loc} {cells slots : Nat} {Z : State} {a0 : Array Value} {h : Heap}
theorem own_callS (X : Stand p l e R s m args below meth c T locs cells slots) (hx : p.tables.exec = Jvm.exec) (hZ : Z.Warmed39 s.vm) {own : String} {index : Nat} {y : MethodName} {bytes : ByteArray} {maxL : Nat} {ret : Option FieldType} (hown : s.vm.findClass own = some m.cls)
    (w1 : (Jvm.Cond.methodLink own index y).before a0 Z = true) (w2 : (Jvm.Cond.static y).before a0 Z = true) (w3 : (Jvm.Cond.initialized y.cls).before a0 Z = true) (w4 : (Jvm.Cond.code y bytes maxL ret).before a0 Z = true) (hy : y.cls ≠ "java/lang/invoke/MethodHandle" ∧ y.cls ≠ "java/lang/invoke/VarHandle")
    {W fr lo n0 : Nat} {argsL : List Value} {r : Value}
    (hM : MetFree l y (head1 [Jvm.Cond.code y bytes maxL ret] ({ frames := fr, cells := 0, slots := 0, locals := lo } : Room)) (fun a U => a = argsL.toArray ∧ Z.Warmed39 U.vm ∧ U.heap = h) (fun _ _ _ _ _ => True) (fun _ U o U' => ∃ v L, o = .returned v ∧ own_Q (some r) h n0 v U'.heap L ∧ FrameEnd U o U' L ({ frames := fr, cells := 0, slots := 0, locals := lo } : Room).cells ({ frames := fr, cells := 0, slots := 0, locals := lo } : Room).slots))
    (hf : fr + 1 ≤ R.frames) (hl : W + (maxL + 11) + lo ≤ R.locals)
    {g : JFrame} (hg : g.method = m) (hsize : g.locals.size = c.maxLocals) {rest : List Value} (hlen : ∀ sig, parseMethodDescriptor y.desc = some sig → argsL.length = sig.parameters.length) (hstack : g.stack = argsL.reverse ++ rest) (hW : 2 * g.monitorRoom + (rest.map fun v => v.category).sum ≤ W) (hdg : decode c.code g.pc = .ok (.invokestatic index, 3))
    (hc : cells ≤ R.cells) (hs : slots ≤ R.slots) (eT : T.heap = h) (N : Fr n0 locs) :
    ∃ T' locs', Stand p l e R s m args below meth c T' locs' cells slots ∧ T'.heap = h ∧ Fr n0 locs' ∧ ∀ target, Steps p.tables e below (T'.setTop { g with pc := g.pc + 3, stack := r :: rest }) target → Steps p.tables e below (T.setTop g) target := by
  obtain ⟨v, vm1, ⟨T', L', k', n'⟩, -, X', ⟨Lc, ⟨rfl, N', e'⟩, l', y', z'⟩, st⟩ := Jvm.LawKit.callS X hx hown (mvT hZ w1) (mvT hZ w2) (mvT hZ w3) (mvT hZ w4) hy (backOf (W := W) hM hZ w4 w3 hf hl) hg hsize hlen hstack hW hdg (fun _ _ => ⟨rfl, eT, hc, hs⟩)
  dsimp only [Pt.U, Pt.locs, Pt.cells, Pt.slots] at X' l' y' z' st e'
  subst l' y' z'
  exact ⟨T', _, X', e', Fr.app N N', st⟩
end OwnCall
/-! an array of ints whose values don't matter -/
def own_Ints (cl : Cell) (n : Nat) : Prop := cl.slots.size = n ∧ ∀ j, j < n → ∃ z : Int32, cl.slots[j]? = some (.int z)
theorem own_ints_new (cA : ClassId) (n : Int32) (k : Nat) (hk : n.toNatClampNeg = k) : own_Ints (newA cA .int n) k := by
  subst hk
  refine ⟨sz_new _ _ _, fun j hj => ⟨0, ?_⟩⟩
  show (Array.replicate n.toNatClampNeg (Value.int 0))[j]? = _
  rw [Array.getElem?_replicate, if_pos hj]
theorem own_ints_set {cl : Cell} {n : Nat} (k : Nat) (x : Int32) (I : own_Ints cl n) : own_Ints (cl.setSlot k (.int x)) n := by
  refine ⟨(sz_set _ _ _).trans I.1, fun j hj => ?_⟩
  show ∃ z : Int32, (cl.slots.setIfInBounds k (.int x))[j]? = some (.int z)
  rw [Array.getElem?_setIfInBounds]
  by_cases q : k = j
  · subst q; rw [if_pos rfl, if_pos (by rw [I.1]; exact hj)]; exact ⟨x, rfl⟩
  · rw [if_neg q]; exact I.2 j hj
theorem own_ints_at {cl : Cell} {n : Nat} (I : own_Ints cl n) {j : Int32} (hj : ¬ (j < 0 ∨ n ≤ j.toNatClampNeg)) : ∃ z : Int32, cl.slots[j.toNatClampNeg]? = some (.int z) := I.2 _ (Nat.lt_of_not_le fun q => hj (Or.inr q))
section OwnArr
variable {p : Program} {l : Launch} {e : Env} {R : Room} {s : State} {m : MethodId} {args : Array Value} {below : List Frame} {meth : Method} {c : Code} {T : State} {locs : List Loc} {cells slots : Nat} {Z : State} {a0 : Array Value} {h : Heap}
theorem own_st (X : Stand p l e R s m args below meth c T locs cells slots) (hx : p.tables.exec = Jvm.exec) (hZ : Z.Warmed39 s.vm) (eT : T.heap = h) {a : Addr} {cl : Cell} {n n0 : Nat} (A : Arr Z h a cl .int) (I : own_Ints cl n) (N : Fr n0 locs) (ga : n0 ≤ a) {j x : Int32} (hj : ¬ (j < 0 ∨ n ≤ j.toNatClampNeg))
    {g : JFrame} (hg : g.method = m) {rest : List Value} (hs : g.stack = .int x :: .int j :: .ref a :: rest) (hd : decode c.code g.pc = .ok (.iastore, 1)) :
    ∃ T' h' cl' locs', Stand p l e R s m args below meth c T' locs' cells slots ∧ T'.heap = h' ∧ Arr Z h' a cl' .int ∧ own_Ints cl' n ∧ Fr n0 locs' ∧ ∀ target, Steps p.tables e below (T'.setTop { g with pc := g.pc + 1, stack := rest }) target → Steps p.tables e below (T.setTop g) target := by
  obtain ⟨T', h', X', e', W, st⟩ := stI X hx hZ eT A (by rw [I.1]; exact hj) hg hs hd
  exact ⟨T', h', _, _, X', e', A.same W, own_ints_set _ _ I, Fr.snoc X' N ga, st⟩
theorem own_ld (X : Stand p l e R s m args below meth c T locs cells slots) (hx : p.tables.exec = Jvm.exec) (hZ : Z.Warmed39 s.vm) (eT : T.heap = h) {a : Addr} {cl : Cell} {n : Nat} (A : Arr Z h a cl .int) (I : own_Ints cl n) {j : Int32} (hj : ¬ (j < 0 ∨ n ≤ j.toNatClampNeg)) :
    ∃ z : Int32, ∀ {g : JFrame} (hg : g.method = m) {rest : List Value} (hs : g.stack = .int j :: .ref a :: rest) (hd : decode c.code g.pc = .ok (.iaload, 1)) (target : State), Steps p.tables e below (T.setTop { g with pc := g.pc + 1, stack := .int z :: rest }) target → Steps p.tables e below (T.setTop g) target := by
  obtain ⟨z, hz⟩ := own_ints_at I hj
  exact ⟨z, fun {g} hg {rest} hs hd target k => X.iaload hx (j := j) (v := .int z) (by rw [eT]; exact A.1) (State.isArrayOf_alike hZ.alike A.2.1) A.2.2 (by rw [I.1]; exact hj) hz hg hs hd target k⟩
theorem own_len (X : Stand p l e R s m args below meth c T locs cells slots) (hx : p.tables.exec = Jvm.exec) (hZ : Z.Warmed39 s.vm) (eT : T.heap = h) {a : Addr} {cl : Cell} {n : Nat} (A : Arr Z h a cl .int) (I : own_Ints cl n) {k : Int32} (hk : n.toInt32 = k)
    {g : JFrame} (hg : g.method = m) {rest : List Value} (hs : g.stack = .ref a :: rest) (hd : decode c.code g.pc = .ok (.arraylength, 1)) (target : State) (hr : Steps p.tables e below (T.setTop { g with pc := g.pc + 1, stack := .int k :: rest }) target) : Steps p.tables e below (T.setTop g) target := by
  refine X.arraylength hx (by rw [eT]; exact A.1) (State.isArrayOf_alike hZ.alike A.2.1) hg hs hd target ?_
  rw [I.1, hk]; exact hr
end OwnArr
theorem own_rem_in {a m : Int32} {n : Nat} (ha : 0 ≤ a.toInt) (hm : m.toInt = n) (hn : 0 < n) : ¬ ((a - (a / m) * m) < 0 ∨ n ≤ (a - (a / m) * m).toNatClampNeg) := by
  have h1 : (a - (a / m) * m).toInt = a.toInt.tmod m.toInt := rem_toInt a m
  rw [hm, Int.tmod_eq_emod_of_nonneg ha] at h1
  have h2 := Int.emod_nonneg a.toInt (b := (n : Int)) (by omega)
  have h3 := Int.emod_lt_of_pos a.toInt (b := (n : Int)) (by omega)
  rintro (q | q)
  · have q2 := Int32.lt_iff_toInt_lt.mp q
    rw [h1] at q2
    have : (0 : Int32).toInt = 0 := rfl
    omega
  · have q2 : (a - (a / m) * m).toNatClampNeg = (a - (a / m) * m).toInt.toNat := rfl
    rw [q2, h1] at q
    omega
theorem own_nn_of {x : Int32} (h : x.toBitVec.msb = false) : 0 ≤ x.toInt := by
  have q := BitVec.msb_eq_toInt (x := x.toBitVec)
  rw [h] at q
  have q2 := of_decide_eq_false q.symm
  show 0 ≤ x.toBitVec.toInt
  omega
theorem own_nn_and (a : Int32) : 0 ≤ (a &&& (2147483647 : Int32)).toInt := own_nn_of (by rw [Int32.toBitVec_and, BitVec.msb_and]; exact Bool.and_false _)
theorem own_nn_shr (a : Int32) : 0 ≤ ((a.toUInt32 >>> ((1 : Int32) &&& 31).toUInt32).toInt32).toInt := own_nn_of (by
  show (a.toUInt32 >>> ((1 : Int32) &&& 31).toUInt32).toBitVec.msb = false
  rw [BitVec.msb_eq_false_iff_two_mul_lt]
  show 2 * (a.toUInt32 >>> ((1 : Int32) &&& 31).toUInt32).toNat < _
  rw [UInt32.toNat_shiftRight]
  have h1 : ((1 : Int32) &&& 31).toUInt32.toNat % 32 = 1 := by decide
  rw [h1, Nat.shiftRight_eq_div_pow]
  have h2 := a.toUInt32.toNat_lt
  omega)

theorem own_dA_0 : decode prog_167_method_2_code 0 = .ok (.iload_n 0, 1) := by decide +kernel
theorem own_dA_1 : decode prog_167_method_2_code 1 = .ok (.bipush 32, 2) := by decide +kernel
theorem own_dA_3 : decode prog_167_method_2_code 3 = .ok (.if_icmp .lt 9, 3) := by decide +kernel
theorem own_dA_6 : decode prog_167_method_2_code 6 = .ok (.iload_n 0, 1) := by decide +kernel
theorem own_dA_7 : decode prog_167_method_2_code 7 = .ok (.ldc 7, 2) := by decide +kernel
theorem own_dA_9 : decode prog_167_method_2_code 9 = .ok (.if_icmp .le 45, 3) := by decide +kernel
theorem own_dA_12 : decode prog_167_method_2_code 12 = .ok (.iload_n 0, 1) := by decide +kernel
theorem own_dA_13 : decode prog_167_method_2_code 13 = .ok (.bipush 9, 2) := by decide +kernel
theorem own_dA_15 : decode prog_167_method_2_code 15 = .ok (.if_icmp .eq 39, 3) := by decide +kernel
theorem own_dA_18 : decode prog_167_method_2_code 18 = .ok (.iload_n 0, 1) := by decide +kernel
theorem own_dA_19 : decode prog_167_method_2_code 19 = .ok (.bipush 10, 2) := by decide +kernel
theorem own_dA_21 : decode prog_167_method_2_code 21 = .ok (.if_icmp .eq 33, 3) := by decide +kernel
theorem own_dA_24 : decode prog_167_method_2_code 24 = .ok (.iload_n 0, 1) := by decide +kernel
theorem own_dA_25 : decode prog_167_method_2_code 25 = .ok (.bipush 13, 2) := by decide +kernel
theorem own_dA_27 : decode prog_167_method_2_code 27 = .ok (.if_icmp .eq 27, 3) := by decide +kernel
theorem own_dA_30 : decode prog_167_method_2_code 30 = .ok (.iload_n 0, 1) := by decide +kernel
theorem own_dA_31 : decode prog_167_method_2_code 31 = .ok (.ldc 8, 2) := by decide +kernel
theorem own_dA_33 : decode prog_167_method_2_code 33 = .ok (.if_icmp .lt 9, 3) := by decide +kernel
theorem own_dA_36 : decode prog_167_method_2_code 36 = .ok (.iload_n 0, 1) := by decide +kernel
theorem own_dA_37 : decode prog_167_method_2_code 37 = .ok (.ldc 9, 2) := by decide +kernel
theorem own_dA_39 : decode prog_167_method_2_code 39 = .ok (.if_icmp .le 15, 3) := by decide +kernel
theorem own_dA_42 : decode prog_167_method_2_code 42 = .ok (.iload_n 0, 1) := by decide +kernel
theorem own_dA_43 : decode prog_167_method_2_code 43 = .ok (.ldc 10, 2) := by decide +kernel
theorem own_dA_45 : decode prog_167_method_2_code 45 = .ok (.if_icmp .lt 13, 3) := by decide +kernel
theorem own_dA_48 : decode prog_167_method_2_code 48 = .ok (.iload_n 0, 1) := by decide +kernel
theorem own_dA_49 : decode prog_167_method_2_code 49 = .ok (.ldc 13, 2) := by decide +kernel
theorem own_dA_51 : decode prog_167_method_2_code 51 = .ok (.if_icmp .gt 7, 3) := by decide +kernel
theorem own_dA_54 : decode prog_167_method_2_code 54 = .ok (.iconst 1, 1) := by decide +kernel
theorem own_dA_55 : decode prog_167_method_2_code 55 = .ok (.goto 4, 3) := by decide +kernel
theorem own_dA_58 : decode prog_167_method_2_code 58 = .ok (.iconst 0, 1) := by decide +kernel
theorem own_dA_59 : decode prog_167_method_2_code 59 = .ok (.ireturn, 1) := by decide +kernel
theorem own_pnA : plainName "com/example/amberwire/amberwire/core/text/XmlCharacters" = true := by first | (simp [plainName, overriddenIn]; done) | decide +kernel
theorem own_pdA : parseMethodDescriptor "(I)Z" = some ⟨[.int], some .boolean⟩ := by decide +kernel
theorem own_efA (m : MethodId) (x0 : Int32) : entryFrame m #[(.int x0)] 1 = mkF m 0 #[.val (.int x0)] [] := by first | (simp [entryFrame, mkF, argsToLocals, Value.category]; done) | rfl
def own_fA_59 (l0 : Int32) (s0 : Int32) : Int32 := s0
def own_fA_58 (l0 : Int32) : Int32 := own_fA_59 l0 (0 : Int32)
def own_fA_54 (l0 : Int32) : Int32 := own_fA_59 l0 (1 : Int32)
def own_fA_48 (l0 : Int32) : Int32 := bif if_icmp.holds .gt l0 (1114111 : Int32) then own_fA_58 l0 else own_fA_54 l0
def own_fA_42 (l0 : Int32) : Int32 := bif if_icmp.holds .lt l0 (65536 : Int32) then own_fA_58 l0 else own_fA_48 l0
def own_fA_36 (l0 : Int32) : Int32 := bif if_icmp.holds .le l0 (65533 : Int32) then own_fA_54 l0 else own_fA_42 l0
def own_fA_30 (l0 : Int32) : Int32 := bif if_icmp.holds .lt l0 (57344 : Int32) then own_fA_42 l0 else own_fA_36 l0
def own_fA_24 (l0 : Int32) : Int32 := bif if_icmp.holds .eq l0 (13 : Int32) then own_fA_54 l0 else own_fA_30 l0
def own_fA_18 (l0 : Int32) : Int32 := bif if_icmp.holds .eq l0 (10 : Int32) then own_fA_54 l0 else own_fA_24 l0
def own_fA_12 (l0 : Int32) : Int32 := bif if_icmp.holds .eq l0 (9 : Int32) then own_fA_54 l0 else own_fA_18 l0
def own_fA_6 (l0 : Int32) : Int32 := bif if_icmp.holds .le l0 (55295 : Int32) then own_fA_54 l0 else own_fA_12 l0
def own_fA_0 (l0 : Int32) : Int32 := bif if_icmp.holds .lt l0 (32 : Int32) then own_fA_12 l0 else own_fA_6 l0
set_option maxRecDepth 65536 in
set_option maxHeartbeats 40000000 in
theorem own_rmA (l : Launch) (Z : State) (a0 : Array Value) (hw : ∀ d ∈ tables_1, d.before a0 Z = true) (ws : List Jvm.Cond) (p0 : Int32) (h0 : Heap) (n0 : Nat) :
    MetFree l (⟨"com/example/amberwire/amberwire/core/text/XmlCharacters", "isChar", "(I)Z"⟩ : MethodName) (head1 (Jvm.Cond.code (⟨"com/example/amberwire/amberwire/core/text/XmlCharacters", "isChar", "(I)Z"⟩ : MethodName) prog_167_method_2_code 1 (some .boolean) :: ws) ({ frames := 0, cells := 0, slots := 0, locals := 0 } : Room)) (fun a U => a = #[(.int p0)] ∧ Z.Warmed39 U.vm ∧ U.heap = h0) (fun _ _ _ _ _ => True) (fun _ U o U' => ∃ v L, o = .returned v ∧ own_Q (some (.int (nar .boolean (own_fA_0 p0)))) h0 n0 v U'.heap L ∧ FrameEnd U o U' L ({ frames := 0, cells := 0, slots := 0, locals := 0 } : Room).cells ({ frames := 0, cells := 0, slots := 0, locals := 0 } : Room).slots) := by
  refine MetFree.of_bodySF (plainFor_of_name own_pnA) hisR ?_
  intro p e s m args below meth c s₁ Bd hml0 hP hK
  obtain ⟨rfl, hZ, hh⟩ := hP
  have hx := Bd.exec
  have hby := Bd.bytes
  have hown : s.vm.findClass "com/example/amberwire/amberwire/core/text/XmlCharacters" = some m.cls := findClass_of_methodNamed Bd.named
  have X0 : Stand p l e ({ frames := 0, cells := 0, slots := 0, locals := 0 } : Room) s m #[(.int p0)] below meth c s₁ [] 0 0 := Stand.of_body Bd
  have e0 : s₁.heap = h0 := by rw [← hh, Bd.state]; rfl
  obtain ⟨r, hr0⟩ : ∃ r, r = (own_fA_0 p0) := ⟨_, rfl⟩
  obtain ⟨fs, hr, hrun, hended, hW, hsame⟩ := X0.leave (v := some (.int (nar .boolean r))) (fun h => by rw [Bd.returns] at h; cases h)
  have B59 : ∀ (l0 : Int32) (s0 : Int32), own_fA_59 l0 s0 = r → Steps p.tables e below (s₁.setTop (mkF m 59 #[.val (.int l0)] [(.int s0)])) (s₁.setFrames fs) := by
    intro l0 s0 hf
    show Steps p.tables e below (s₁.setTop (mkF m 59 #[.val (.int l0)] [(.int s0)])) _
    have hf' : s0 = r := hf
    exact retN X0 hx (t := .boolean) Bd.returns (by simp) (hb hby own_dA_59) (by rw [hf']; exact hr)
  have B58 : ∀ (l0 : Int32), own_fA_58 l0 = r → Steps p.tables e below (s₁.setTop (mkF m 58 #[.val (.int l0)] [])) (s₁.setFrames fs) := by
    intro l0 hf
    show Steps p.tables e below (s₁.setTop (mkF m 58 #[.val (.int l0)] [])) _
    refine XS.iconst X0.here hx rfl (hb hby own_dA_58) ?_
    have hf' : own_fA_59 l0 (0 : Int32) = r := hf
    exact B59 l0 (0 : Int32) hf'
  have B54 : ∀ (l0 : Int32), own_fA_54 l0 = r → Steps p.tables e below (s₁.setTop (mkF m 54 #[.val (.int l0)] [])) (s₁.setFrames fs) := by
    intro l0 hf
    show Steps p.tables e below (s₁.setTop (mkF m 54 #[.val (.int l0)] [])) _
    refine XS.iconst X0.here hx rfl (hb hby own_dA_54) ?_
    show Steps p.tables e below (s₁.setTop (mkF m 55 #[.val (.int l0)] [(.int (1 : Int32))])) _
    refine XS.goto X0.here hx rfl (pc0 := 55) (pc' := 59) rfl (hb hby own_dA_55) (by decide) (by decide) ?_
    have hf' : own_fA_59 l0 (1 : Int32) = r := hf
    exact B59 l0 (1 : Int32) hf'
  have B48 : ∀ (l0 : Int32), own_fA_48 l0 = r → Steps p.tables e below (s₁.setTop (mkF m 48 #[.val (.int l0)] [])) (s₁.setFrames fs) := by
    intro l0 hf
    show Steps p.tables e below (s₁.setTop (mkF m 48 #[.val (.int l0)] [])) _
    refine XS.iloadN X0.here hx rfl (hb hby own_dA_48) rfl ?_
    show Steps p.tables e below (s₁.setTop (mkF m 49 #[.val (.int l0)] [(.int l0)])) _
    refine X0.ldcInt hx hown (mvT hZ (hw _ (List.mem_of_getElem? (i := 25) rfl))) (g := (mkF m 49 #[.val (.int l0)] [(.int l0)])) rfl (hb hby own_dA_49) _ ?_
    show Steps p.tables e below (s₁.setTop (mkF m 51 #[.val (.int l0)] [(.int (1114111 : Int32)), (.int l0)])) _
    have hf' : (bif if_icmp.holds .gt l0 (1114111 : Int32) then own_fA_58 l0 else own_fA_54 l0) = r := hf
    rcases own_tf (if_icmp.holds .gt l0 (1114111 : Int32)) with hc | hc
    · rw [hc] at hf'
      refine XS.icmpYes X0.here hx rfl (pc0 := 51) (pc' := 58) rfl (hb hby own_dA_51) rfl hc (by decide) (by decide) ?_
      exact B58 l0 hf'
    · rw [hc] at hf'
      refine XS.icmpNo X0.here hx rfl (hb hby own_dA_51) rfl hc ?_
      exact B54 l0 hf'
  have B42 : ∀ (l0 : Int32), own_fA_42 l0 = r → Steps p.tables e below (s₁.setTop (mkF m 42 #[.val (.int l0)] [])) (s₁.setFrames fs) := by
    intro l0 hf
    show Steps p.tables e below (s₁.setTop (mkF m 42 #[.val (.int l0)] [])) _
    refine XS.iloadN X0.here hx rfl (hb hby own_dA_42) rfl ?_
    show Steps p.tables e below (s₁.setTop (mkF m 43 #[.val (.int l0)] [(.int l0)])) _
    refine X0.ldcInt hx hown (mvT hZ (hw _ (List.mem_of_getElem? (i := 18) rfl))) (g := (mkF m 43 #[.val (.int l0)] [(.int l0)])) rfl (hb hby own_dA_43) _ ?_
    show Steps p.tables e below (s₁.setTop (mkF m 45 #[.val (.int l0)] [(.int (65536 : Int32)), (.int l0)])) _
    have hf' : (bif if_icmp.holds .lt l0 (65536 : Int32) then own_fA_58 l0 else own_fA_48 l0) = r := hf
    rcases own_tf (if_icmp.holds .lt l0 (65536 : Int32)) with hc | hc
    · rw [hc] at hf'
      refine XS.icmpYes X0.here hx rfl (pc0 := 45) (pc' := 58) rfl (hb hby own_dA_45) rfl hc (by decide) (by decide) ?_
      exact B58 l0 hf'
    · rw [hc] at hf'
      refine XS.icmpNo X0.here hx rfl (hb hby own_dA_45) rfl hc ?_
      exact B48 l0 hf'
  have B36 : ∀ (l0 : Int32), own_fA_36 l0 = r → Steps p.tables e below (s₁.setTop (mkF m 36 #[.val (.int l0)] [])) (s₁.setFrames fs) := by
    intro l0 hf
    show Steps p.tables e below (s₁.setTop (mkF m 36 #[.val (.int l0)] [])) _
    refine XS.iloadN X0.here hx rfl (hb hby own_dA_36) rfl ?_
    show Steps p.tables e below (s₁.setTop (mkF m 37 #[.val (.int l0)] [(.int l0)])) _
    refine X0.ldcInt hx hown (mvT hZ (hw _ (List.mem_of_getElem? (i := 24) rfl))) (g := (mkF m 37 #[.val (.int l0)] [(.int l0)])) rfl (hb hby own_dA_37) _ ?_
    show Steps p.tables e below (s₁.setTop (mkF m 39 #[.val (.int l0)] [(.int (65533 : Int32)), (.int l0)])) _
    have hf' : (bif if_icmp.holds .le l0 (65533 : Int32) then own_fA_54 l0 else own_fA_42 l0) = r := hf
    rcases own_tf (if_icmp.holds .le l0 (65533 : Int32)) with hc | hc
    · rw [hc] at hf'
      refine XS.icmpYes X0.here hx rfl (pc0 := 39) (pc' := 54) rfl (hb hby own_dA_39) rfl hc (by decide) (by decide) ?_
      exact B54 l0 hf'
    · rw [hc] at hf'
      refine XS.icmpNo X0.here hx rfl (hb hby own_dA_39) rfl hc ?_
      exact B42 l0 hf'
  have B30 : ∀ (l0 : Int32), own_fA_30 l0 = r → Steps p.tables e below (s₁.setTop (mkF m 30 #[.val (.int l0)] [])) (s₁.setFrames fs) := by
    intro l0 hf
    show Steps p.tables e below (s₁.setTop (mkF m 30 #[.val (.int l0)] [])) _
    refine XS.iloadN X0.here hx rfl (hb hby own_dA_30) rfl ?_
    show Steps p.tables e below (s₁.setTop (mkF m 31 #[.val (.int l0)] [(.int l0)])) _
    refine X0.ldcInt hx hown (mvT hZ (hw _ (List.mem_of_getElem? (i := 17) rfl))) (g := (mkF m 31 #[.val (.int l0)] [(.int l0)])) rfl (hb hby own_dA_31) _ ?_
    show Steps p.tables e below (s₁.setTop (mkF m 33 #[.val (.int l0)] [(.int (57344 : Int32)), (.int l0)])) _
    have hf' : (bif if_icmp.holds .lt l0 (57344 : Int32) then own_fA_42 l0 else own_fA_36 l0) = r := hf
    rcases own_tf (if_icmp.holds .lt l0 (57344 : Int32)) with hc | hc
    · rw [hc] at hf'
      refine XS.icmpYes X0.here hx rfl (pc0 := 33) (pc' := 42) rfl (hb hby own_dA_33) rfl hc (by decide) (by decide) ?_
      exact B42 l0 hf'
    · rw [hc] at hf'
      refine XS.icmpNo X0.here hx rfl (hb hby own_dA_33) rfl hc ?_
      exact B36 l0 hf'
  have B24 : ∀ (l0 : Int32), own_fA_24 l0 = r → Steps p.tables e below (s₁.setTop (mkF m 24 #[.val (.int l0)] [])) (s₁.setFrames fs) := by
    intro l0 hf
    show Steps p.tables e below (s₁.setTop (mkF m 24 #[.val (.int l0)] [])) _
    refine XS.iloadN X0.here hx rfl (hb hby own_dA_24) rfl ?_
    show Steps p.tables e below (s₁.setTop (mkF m 25 #[.val (.int l0)] [(.int l0)])) _
    refine XS.bipush X0.here hx rfl (hb hby own_dA_25) ?_
    show Steps p.tables e below (s₁.setTop (mkF m 27 #[.val (.int l0)] [(.int (13 : Int32)), (.int l0)])) _
    have hf' : (bif if_icmp.holds .eq l0 (13 : Int32) then own_fA_54 l0 else own_fA_30 l0) = r := hf
    rcases own_tf (if_icmp.holds .eq l0 (13 : Int32)) with hc | hc
    · rw [hc] at hf'
      refine XS.icmpYes X0.here hx rfl (pc0 := 27) (pc' := 54) rfl (hb hby own_dA_27) rfl hc (by decide) (by decide) ?_
      exact B54 l0 hf'
    · rw [hc] at hf'
      refine XS.icmpNo X0.here hx rfl (hb hby own_dA_27) rfl hc ?_
      exact B30 l0 hf'
  have B18 : ∀ (l0 : Int32), own_fA_18 l0 = r → Steps p.tables e below (s₁.setTop (mkF m 18 #[.val (.int l0)] [])) (s₁.setFrames fs) := by
    intro l0 hf
    show Steps p.tables e below (s₁.setTop (mkF m 18 #[.val (.int l0)] [])) _
    refine XS.iloadN X0.here hx rfl (hb hby own_dA_18) rfl ?_
    show Steps p.tables e below (s₁.setTop (mkF m 19 #[.val (.int l0)] [(.int l0)])) _
    refine XS.bipush X0.here hx rfl (hb hby own_dA_19) ?_
    show Steps p.tables e below (s₁.setTop (mkF m 21 #[.val (.int l0)] [(.int (10 : Int32)), (.int l0)])) _
    have hf' : (bif if_icmp.holds .eq l0 (10 : Int32) then own_fA_54 l0 else own_fA_24 l0) = r := hf
    rcases own_tf (if_icmp.holds .eq l0 (10 : Int32)) with hc | hc
    · rw [hc] at hf'
      refine XS.icmpYes X0.here hx rfl (pc0 := 21) (pc' := 54) rfl (hb hby own_dA_21) rfl hc (by decide) (by decide) ?_
      exact B54 l0 hf'
    · rw [hc] at hf'
      refine XS.icmpNo X0.here hx rfl (hb hby own_dA_21) rfl hc ?_
      exact B24 l0 hf'
  have B12 : ∀ (l0 : Int32), own_fA_12 l0 = r → Steps p.tables e below (s₁.setTop (mkF m 12 #[.val (.int l0)] [])) (s₁.setFrames fs) := by
    intro l0 hf
    show Steps p.tables e below (s₁.setTop (mkF m 12 #[.val (.int l0)] [])) _
    refine XS.iloadN X0.here hx rfl (hb hby own_dA_12) rfl ?_
    show Steps p.tables e below (s₁.setTop (mkF m 13 #[.val (.int l0)] [(.int l0)])) _
    refine XS.bipush X0.here hx rfl (hb hby own_dA_13) ?_
    show Steps p.tables e below (s₁.setTop (mkF m 15 #[.val (.int l0)] [(.int (9 : Int32)), (.int l0)])) _
    have hf' : (bif if_icmp.holds .eq l0 (9 : Int32) then own_fA_54 l0 else own_fA_18 l0) = r := hf
    rcases own_tf (if_icmp.holds .eq l0 (9 : Int32)) with hc | hc
    · rw [hc] at hf'
      refine XS.icmpYes X0.here hx rfl (pc0 := 15) (pc' := 54) rfl (hb hby own_dA_15) rfl hc (by decide) (by decide) ?_
      exact B54 l0 hf'
    · rw [hc] at hf'
      refine XS.icmpNo X0.here hx rfl (hb hby own_dA_15) rfl hc ?_
      exact B18 l0 hf'
  have B6 : ∀ (l0 : Int32), own_fA_6 l0 = r → Steps p.tables e below (s₁.setTop (mkF m 6 #[.val (.int l0)] [])) (s₁.setFrames fs) := by
    intro l0 hf
    show Steps p.tables e below (s₁.setTop (mkF m 6 #[.val (.int l0)] [])) _
    refine XS.iloadN X0.here hx rfl (hb hby own_dA_6) rfl ?_
    show Steps p.tables e below (s₁.setTop (mkF m 7 #[.val (.int l0)] [(.int l0)])) _
    refine X0.ldcInt hx hown (mvT hZ (hw _ (List.mem_of_getElem? (i := 23) rfl))) (g := (mkF m 7 #[.val (.int l0)] [(.int l0)])) rfl (hb hby own_dA_7) _ ?_
    show Steps p.tables e below (s₁.setTop (mkF m 9 #[.val (.int l0)] [(.int (55295 : Int32)), (.int l0)])) _
    have hf' : (bif if_icmp.holds .le l0 (55295 : Int32) then own_fA_54 l0 else own_fA_12 l0) = r := hf
    rcases own_tf (if_icmp.holds .le l0 (55295 : Int32)) with hc | hc
    · rw [hc] at hf'
      refine XS.icmpYes X0.here hx rfl (pc0 := 9) (pc' := 54) rfl (hb hby own_dA_9) rfl hc (by decide) (by decide) ?_
      exact B54 l0 hf'
    · rw [hc] at hf'
      refine XS.icmpNo X0.here hx rfl (hb hby own_dA_9) rfl hc ?_
      exact B12 l0 hf'
  have B0 : ∀ (l0 : Int32), own_fA_0 l0 = r → Steps p.tables e below (s₁.setTop (mkF m 0 #[.val (.int l0)] [])) (s₁.setFrames fs) := by
    intro l0 hf
    show Steps p.tables e below (s₁.setTop (mkF m 0 #[.val (.int l0)] [])) _
    refine XS.iloadN X0.here hx rfl (hb hby own_dA_0) rfl ?_
    show Steps p.tables e below (s₁.setTop (mkF m 1 #[.val (.int l0)] [(.int l0)])) _
    refine XS.bipush X0.here hx rfl (hb hby own_dA_1) ?_
    show Steps p.tables e below (s₁.setTop (mkF m 3 #[.val (.int l0)] [(.int (32 : Int32)), (.int l0)])) _
    have hf' : (bif if_icmp.holds .lt l0 (32 : Int32) then own_fA_12 l0 else own_fA_6 l0) = r := hf
    rcases own_tf (if_icmp.holds .lt l0 (32 : Int32)) with hc | hc
    · rw [hc] at hf'
      refine XS.icmpYes X0.here hx rfl (pc0 := 3) (pc' := 12) rfl (hb hby own_dA_3) rfl hc (by decide) (by decide) ?_
      exact B12 l0 hf'
    · rw [hc] at hf'
      refine XS.icmpNo X0.here hx rfl (hb hby own_dA_3) rfl hc ?_
      exact B6 l0 hf'
  refine ⟨_, _, castTop (own_efA m p0) (B0 p0 hr0.symm), hrun, hended, _, _, rfl, ?_, ⟨_, rfl⟩, hW, hsame.mono (by decide) (by decide)⟩
  show own_Q _ h0 n0 _ s₁.heap _
  exact ⟨by rw [hr0], Fr.nil n0, e0⟩
theorem own_dB_0 : decode method_3_code 0 = .ok (.iload_n 0, 1) := by decide +kernel
theorem own_dB_1 : decode method_3_code 1 = .ok (.ifCond .lt 13, 3) := by decide +kernel
theorem own_dB_4 : decode method_3_code 4 = .ok (.iload_n 0, 1) := by decide +kernel
theorem own_dB_5 : decode method_3_code 5 = .ok (.ldc 15, 2) := by decide +kernel
theorem own_dB_7 : decode method_3_code 7 = .ok (.if_icmp .gt 7, 3) := by decide +kernel
theorem own_dB_10 : decode method_3_code 10 = .ok (.iconst 1, 1) := by decide +kernel
theorem own_dB_11 : decode method_3_code 11 = .ok (.goto 4, 3) := by decide +kernel
theorem own_dB_14 : decode method_3_code 14 = .ok (.iconst 0, 1) := by decide +kernel
theorem own_dB_15 : decode method_3_code 15 = .ok (.istore_n 1, 1) := by decide +kernel
theorem own_dB_16 : decode method_3_code 16 = .ok (.iload_n 0, 1) := by decide +kernel
theorem own_dB_17 : decode method_3_code 17 = .ok (.bipush 32, 2) := by decide +kernel
theorem own_dB_19 : decode method_3_code 19 = .ok (.if_icmp .ge 25, 3) := by decide +kernel
theorem own_dB_22 : decode method_3_code 22 = .ok (.iload_n 0, 1) := by decide +kernel
theorem own_dB_23 : decode method_3_code 23 = .ok (.bipush 9, 2) := by decide +kernel
theorem own_dB_25 : decode method_3_code 25 = .ok (.if_icmp .eq 19, 3) := by decide +kernel
theorem own_dB_28 : decode method_3_code 28 = .ok (.iload_n 0, 1) := by decide +kernel
theorem own_dB_29 : decode method_3_code 29 = .ok (.bipush 10, 2) := by decide +kernel
theorem own_dB_31 : decode method_3_code 31 = .ok (.if_icmp .eq 13, 3) := by decide +kernel
theorem own_dB_34 : decode method_3_code 34 = .ok (.iload_n 0, 1) := by decide +kernel
theorem own_dB_35 : decode method_3_code 35 = .ok (.bipush 13, 2) := by decide +kernel
theorem own_dB_37 : decode method_3_code 37 = .ok (.if_icmp .eq 7, 3) := by decide +kernel
theorem own_dB_40 : decode method_3_code 40 = .ok (.iconst 1, 1) := by decide +kernel
theorem own_dB_41 : decode method_3_code 41 = .ok (.goto 4, 3) := by decide +kernel
theorem own_dB_44 : decode method_3_code 44 = .ok (.iconst 0, 1) := by decide +kernel
theorem own_dB_45 : decode method_3_code 45 = .ok (.istore_n 2, 1) := by decide +kernel
theorem own_dB_46 : decode method_3_code 46 = .ok (.iload_n 0, 1) := by decide +kernel
theorem own_dB_47 : decode method_3_code 47 = .ok (.ldc 8, 2) := by decide +kernel
theorem own_dB_49 : decode method_3_code 49 = .ok (.if_icmp .lt 13, 3) := by decide +kernel
theorem own_dB_52 : decode method_3_code 52 = .ok (.iload_n 0, 1) := by decide +kernel
theorem own_dB_53 : decode method_3_code 53 = .ok (.ldc 9, 2) := by decide +kernel
theorem own_dB_55 : decode method_3_code 55 = .ok (.if_icmp .gt 7, 3) := by decide +kernel
theorem own_dB_58 : decode method_3_code 58 = .ok (.iconst 1, 1) := by decide +kernel
theorem own_dB_59 : decode method_3_code 59 = .ok (.goto 4, 3) := by decide +kernel
theorem own_dB_62 : decode method_3_code 62 = .ok (.iconst 0, 1) := by decide +kernel
theorem own_dB_63 : decode method_3_code 63 = .ok (.istore_n 3, 1) := by decide +kernel
theorem own_dB_64 : decode method_3_code 64 = .ok (.iload_n 0, 1) := by decide +kernel
theorem own_dB_65 : decode method_3_code 65 = .ok (.ldc 12, 2) := by decide +kernel
theorem own_dB_67 : decode method_3_code 67 = .ok (.if_icmp .eq 9, 3) := by decide +kernel
theorem own_dB_70 : decode method_3_code 70 = .ok (.iload_n 0, 1) := by decide +kernel
theorem own_dB_71 : decode method_3_code 71 = .ok (.ldc 13, 2) := by decide +kernel
theorem own_dB_73 : decode method_3_code 73 = .ok (.if_icmp .ne 7, 3) := by decide +kernel
theorem own_dB_76 : decode method_3_code 76 = .ok (.iconst 1, 1) := by decide +kernel
theorem own_dB_77 : decode method_3_code 77 = .ok (.goto 4, 3) := by decide +kernel
theorem own_dB_80 : decode method_3_code 80 = .ok (.iconst 0, 1) := by decide +kernel
theorem own_dB_81 : decode method_3_code 81 = .ok (.istore 4, 2) := by decide +kernel
theorem own_dB_83 : decode method_3_code 83 = .ok (.iload_n 1, 1) := by decide +kernel
theorem own_dB_84 : decode method_3_code 84 = .ok (.ifCond .eq 20, 3) := by decide +kernel
theorem own_dB_87 : decode method_3_code 87 = .ok (.iload_n 2, 1) := by decide +kernel
theorem own_dB_88 : decode method_3_code 88 = .ok (.ifCond .ne 16, 3) := by decide +kernel
theorem own_dB_91 : decode method_3_code 91 = .ok (.iload_n 3, 1) := by decide +kernel
theorem own_dB_92 : decode method_3_code 92 = .ok (.ifCond .ne 12, 3) := by decide +kernel
theorem own_dB_95 : decode method_3_code 95 = .ok (.iload 4, 2) := by decide +kernel
theorem own_dB_97 : decode method_3_code 97 = .ok (.ifCond .ne 7, 3) := by decide +kernel
theorem own_dB_100 : decode method_3_code 100 = .ok (.iconst 1, 1) := by decide +kernel
theorem own_dB_101 : decode method_3_code 101 = .ok (.goto 4, 3) := by decide +kernel
theorem own_dB_104 : decode method_3_code 104 = .ok (.iconst 0, 1) := by decide +kernel
theorem own_dB_105 : decode method_3_code 105 = .ok (.ireturn, 1) := by decide +kernel
theorem own_pnB : plainName "com/example/amberwire/amberwire/core/text/XmlCharactersIsCharPinLaw" = true := by first | (simp [plainName, overriddenIn]; done) | decide +kernel
theorem own_pdB : parseMethodDescriptor "(I)Z" = some ⟨[.int], some .boolean⟩ := by decide +kernel
theorem own_efB (m : MethodId) (x0 : Int32) : entryFrame m #[(.int x0)] 5 = mkF m 0 #[.val (.int x0), .unset, .unset, .unset, .unset] [] := by first | (simp [entryFrame, mkF, argsToLocals, Value.category]; done) | rfl
def own_fB_105 (l0 : Int32) (l1 : Int32) (l2 : Int32) (l3 : Int32) (l4 : Int32) (s0 : Int32) : Int32 := s0
def own_fB_104 (l0 : Int32) (l1 : Int32) (l2 : Int32) (l3 : Int32) (l4 : Int32) : Int32 := own_fB_105 l0 l1 l2 l3 l4 (0 : Int32)
def own_fB_100 (l0 : Int32) (l1 : Int32) (l2 : Int32) (l3 : Int32) (l4 : Int32) : Int32 := own_fB_105 l0 l1 l2 l3 l4 (1 : Int32)
def own_fB_95 (l0 : Int32) (l1 : Int32) (l2 : Int32) (l3 : Int32) (l4 : Int32) : Int32 := bif ifCond.holds .ne l4 then own_fB_104 l0 l1 l2 l3 l4 else own_fB_100 l0 l1 l2 l3 l4
def own_fB_91 (l0 : Int32) (l1 : Int32) (l2 : Int32) (l3 : Int32) (l4 : Int32) : Int32 := bif ifCond.holds .ne l3 then own_fB_104 l0 l1 l2 l3 l4 else own_fB_95 l0 l1 l2 l3 l4
def own_fB_87 (l0 : Int32) (l1 : Int32) (l2 : Int32) (l3 : Int32) (l4 : Int32) : Int32 := bif ifCond.holds .ne l2 then own_fB_104 l0 l1 l2 l3 l4 else own_fB_91 l0 l1 l2 l3 l4
def own_fB_81 (l0 : Int32) (l1 : Int32) (l2 : Int32) (l3 : Int32) (s0 : Int32) : Int32 := bif ifCond.holds .eq l1 then own_fB_104 l0 l1 l2 l3 s0 else own_fB_87 l0 l1 l2 l3 s0
def own_fB_80 (l0 : Int32) (l1 : Int32) (l2 : Int32) (l3 : Int32) : Int32 := own_fB_81 l0 l1 l2 l3 (0 : Int32)
def own_fB_76 (l0 : Int32) (l1 : Int32) (l2 : Int32) (l3 : Int32) : Int32 := own_fB_81 l0 l1 l2 l3 (1 : Int32)
def own_fB_70 (l0 : Int32) (l1 : Int32) (l2 : Int32) (l3 : Int32) : Int32 := bif if_icmp.holds .ne l0 (65535 : Int32) then own_fB_80 l0 l1 l2 l3 else own_fB_76 l0 l1 l2 l3
def own_fB_63 (l0 : Int32) (l1 : Int32) (l2 : Int32) (s0 : Int32) : Int32 := bif if_icmp.holds .eq l0 (65534 : Int32) then own_fB_76 l0 l1 l2 s0 else own_fB_70 l0 l1 l2 s0
def own_fB_62 (l0 : Int32) (l1 : Int32) (l2 : Int32) : Int32 := own_fB_63 l0 l1 l2 (0 : Int32)
def own_fB_58 (l0 : Int32) (l1 : Int32) (l2 : Int32) : Int32 := own_fB_63 l0 l1 l2 (1 : Int32)
def own_fB_52 (l0 : Int32) (l1 : Int32) (l2 : Int32) : Int32 := bif if_icmp.holds .gt l0 (57343 : Int32) then own_fB_62 l0 l1 l2 else own_fB_58 l0 l1 l2
def own_fB_45 (l0 : Int32) (l1 : Int32) (s0 : Int32) : Int32 := bif if_icmp.holds .lt l0 (55296 : Int32) then own_fB_62 l0 l1 s0 else own_fB_52 l0 l1 s0
def own_fB_44 (l0 : Int32) (l1 : Int32) : Int32 := own_fB_45 l0 l1 (0 : Int32)
def own_fB_40 (l0 : Int32) (l1 : Int32) : Int32 := own_fB_45 l0 l1 (1 : Int32)
def own_fB_34 (l0 : Int32) (l1 : Int32) : Int32 := bif if_icmp.holds .eq l0 (13 : Int32) then own_fB_44 l0 l1 else own_fB_40 l0 l1
def own_fB_28 (l0 : Int32) (l1 : Int32) : Int32 := bif if_icmp.holds .eq l0 (10 : Int32) then own_fB_44 l0 l1 else own_fB_34 l0 l1
def own_fB_22 (l0 : Int32) (l1 : Int32) : Int32 := bif if_icmp.holds .eq l0 (9 : Int32) then own_fB_44 l0 l1 else own_fB_28 l0 l1
def own_fB_15 (l0 : Int32) (s0 : Int32) : Int32 := bif if_icmp.holds .ge l0 (32 : Int32) then own_fB_44 l0 s0 else own_fB_22 l0 s0
def own_fB_14 (l0 : Int32) : Int32 := own_fB_15 l0 (0 : Int32)
def own_fB_10 (l0 : Int32) : Int32 := own_fB_15 l0 (1 : Int32)
def own_fB_4 (l0 : Int32) : Int32 := bif if_icmp.holds .gt l0 (1114111 : Int32) then own_fB_14 l0 else own_fB_10 l0
def own_fB_0 (l0 : Int32) : Int32 := bif ifCond.holds .lt l0 then own_fB_14 l0 else own_fB_4 l0
set_option maxRecDepth 65536 in
set_option maxHeartbeats 40000000 in
theorem own_rmB (l : Launch) (Z : State) (a0 : Array Value) (hw : ∀ d ∈ tables_1, d.before a0 Z = true) (ws : List Jvm.Cond) (p0 : Int32) (h0 : Heap) (n0 : Nat) :
    MetFree l (⟨"com/example/amberwire/amberwire/core/text/XmlCharactersIsCharPinLaw", "expected", "(I)Z"⟩ : MethodName) (head1 (Jvm.Cond.code (⟨"com/example/amberwire/amberwire/core/text/XmlCharactersIsCharPinLaw", "expected", "(I)Z"⟩ : MethodName) method_3_code 5 (some .boolean) :: ws) ({ frames := 0, cells := 0, slots := 0, locals := 0 } : Room)) (fun a U => a = #[(.int p0)] ∧ Z.Warmed39 U.vm ∧ U.heap = h0) (fun _ _ _ _ _ => True) (fun _ U o U' => ∃ v L, o = .returned v ∧ own_Q (some (.int (nar .boolean (own_fB_0 p0)))) h0 n0 v U'.heap L ∧ FrameEnd U o U' L ({ frames := 0, cells := 0, slots := 0, locals := 0 } : Room).cells ({ frames := 0, cells := 0, slots := 0, locals := 0 } : Room).slots) := by
  refine MetFree.of_bodySF (plainFor_of_name own_pnB) hisR ?_
  intro p e s m args below meth c s₁ Bd hml0 hP hK
  obtain ⟨rfl, hZ, hh⟩ := hP
  have hx := Bd.exec
  have hby := Bd.bytes
  have hown : s.vm.findClass "com/example/amberwire/amberwire/core/text/XmlCharactersIsCharPinLaw" = some m.cls := findClass_of_methodNamed Bd.named
  have X0 : Stand p l e ({ frames := 0, cells := 0, slots := 0, locals := 0 } : Room) s m #[(.int p0)] below meth c s₁ [] 0 0 := Stand.of_body Bd
  have e0 : s₁.heap = h0 := by rw [← hh, Bd.state]; rfl
  obtain ⟨r, hr0⟩ : ∃ r, r = (own_fB_0 p0) := ⟨_, rfl⟩
  obtain ⟨fs, hr, hrun, hended, hW, hsame⟩ := X0.leave (v := some (.int (nar .boolean r))) (fun h => by rw [Bd.returns] at h; cases h)
  have B105 : ∀ (l0 : Int32) (l1 : Int32) (l2 : Int32) (l3 : Int32) (l4 : Int32) (s0 : Int32), own_fB_105 l0 l1 l2 l3 l4 s0 = r → Steps p.tables e below (s₁.setTop (mkF m 105 #[.val (.int l0), .val (.int l1), .val (.int l2), .val (.int l3), .val (.int l4)] [(.int s0)])) (s₁.setFrames fs) := by
    intro l0 l1 l2 l3 l4 s0 hf
    show Steps p.tables e below (s₁.setTop (mkF m 105 #[.val (.int l0), .val (.int l1), .val (.int l2), .val (.int l3), .val (.int l4)] [(.int s0)])) _
    have hf' : s0 = r := hf
    exact retN X0 hx (t := .boolean) Bd.returns (by simp) (hb hby own_dB_105) (by rw [hf']; exact hr)
  have B104 : ∀ (l0 : Int32) (l1 : Int32) (l2 : Int32) (l3 : Int32) (l4 : Int32), own_fB_104 l0 l1 l2 l3 l4 = r → Steps p.tables e below (s₁.setTop (mkF m 104 #[.val (.int l0), .val (.int l1), .val (.int l2), .val (.int l3), .val (.int l4)] [])) (s₁.setFrames fs) := by
    intro l0 l1 l2 l3 l4 hf
    show Steps p.tables e below (s₁.setTop (mkF m 104 #[.val (.int l0), .val (.int l1), .val (.int l2), .val (.int l3), .val (.int l4)] [])) _
    refine XS.iconst X0.here hx rfl (hb hby own_dB_104) ?_
    have hf' : own_fB_105 l0 l1 l2 l3 l4 (0 : Int32) = r := hf
    exact B105 l0 l1 l2 l3 l4 (0 : Int32) hf'
  have B100 : ∀ (l0 : Int32) (l1 : Int32) (l2 : Int32) (l3 : Int32) (l4 : Int32), own_fB_100 l0 l1 l2 l3 l4 = r → Steps p.tables e below (s₁.setTop (mkF m 100 #[.val (.int l0), .val (.int l1), .val (.int l2), .val (.int l3), .val (.int l4)] [])) (s₁.setFrames fs) := by
    intro l0 l1 l2 l3 l4 hf
    show Steps p.tables e below (s₁.setTop (mkF m 100 #[.val (.int l0), .val (.int l1), .val (.int l2), .val (.int l3), .val (.int l4)] [])) _
    refine XS.iconst X0.here hx rfl (hb hby own_dB_100) ?_
    show Steps p.tables e below (s₁.setTop (mkF m 101 #[.val (.int l0), .val (.int l1), .val (.int l2), .val (.int l3), .val (.int l4)] [(.int (1 : Int32))])) _
    refine XS.goto X0.here hx rfl (pc0 := 101) (pc' := 105) rfl (hb hby own_dB_101) (by decide) (by decide) ?_
    have hf' : own_fB_105 l0 l1 l2 l3 l4 (1 : Int32) = r := hf
    exact B105 l0 l1 l2 l3 l4 (1 : Int32) hf'
  have B95 : ∀ (l0 : Int32) (l1 : Int32) (l2 : Int32) (l3 : Int32) (l4 : Int32), own_fB_95 l0 l1 l2 l3 l4 = r → Steps p.tables e below (s₁.setTop (mkF m 95 #[.val (.int l0), .val (.int l1), .val (.int l2), .val (.int l3), .val (.int l4)] [])) (s₁.setFrames fs) := by
    intro l0 l1 l2 l3 l4 hf
    show Steps p.tables e below (s₁.setTop (mkF m 95 #[.val (.int l0), .val (.int l1), .val (.int l2), .val (.int l3), .val (.int l4)] [])) _
    refine XS.iload X0.here hx rfl (hb hby own_dB_95) rfl ?_
    show Steps p.tables e below (s₁.setTop (mkF m 97 #[.val (.int l0), .val (.int l1), .val (.int l2), .val (.int l3), .val (.int l4)] [(.int l4)])) _
    have hf' : (bif ifCond.holds .ne l4 then own_fB_104 l0 l1 l2 l3 l4 else own_fB_100 l0 l1 l2 l3 l4) = r := hf
    rcases own_tf (ifCond.holds .ne l4) with hc | hc
    · rw [hc] at hf'
      refine XS.ifYes X0.here hx rfl (pc0 := 97) (pc' := 104) rfl (hb hby own_dB_97) rfl hc (by decide) (by decide) ?_
      exact B104 l0 l1 l2 l3 l4 hf'
    · rw [hc] at hf'
      refine XS.ifNo X0.here hx rfl (hb hby own_dB_97) rfl hc ?_
      exact B100 l0 l1 l2 l3 l4 hf'
  have B91 : ∀ (l0 : Int32) (l1 : Int32) (l2 : Int32) (l3 : Int32) (l4 : Int32), own_fB_91 l0 l1 l2 l3 l4 = r → Steps p.tables e below (s₁.setTop (mkF m 91 #[.val (.int l0), .val (.int l1), .val (.int l2), .val (.int l3), .val (.int l4)] [])) (s₁.setFrames fs) := by
    intro l0 l1 l2 l3 l4 hf
    show Steps p.tables e below (s₁.setTop (mkF m 91 #[.val (.int l0), .val (.int l1), .val (.int l2), .val (.int l3), .val (.int l4)] [])) _
    refine XS.iloadN X0.here hx rfl (hb hby own_dB_91) rfl ?_
    show Steps p.tables e below (s₁.setTop (mkF m 92 #[.val (.int l0), .val (.int l1), .val (.int l2), .val (.int l3), .val (.int l4)] [(.int l3)])) _
    have hf' : (bif ifCond.holds .ne l3 then own_fB_104 l0 l1 l2 l3 l4 else own_fB_95 l0 l1 l2 l3 l4) = r := hf
    rcases own_tf (ifCond.holds .ne l3) with hc | hc
    · rw [hc] at hf'
      refine XS.ifYes X0.here hx rfl (pc0 := 92) (pc' := 104) rfl (hb hby own_dB_92) rfl hc (by decide) (by decide) ?_
      exact B104 l0 l1 l2 l3 l4 hf'
    · rw [hc] at hf'
      refine XS.ifNo X0.here hx rfl (hb hby own_dB_92) rfl hc ?_
      exact B95 l0 l1 l2 l3 l4 hf'
  have B87 : ∀ (l0 : Int32) (l1 : Int32) (l2 : Int32) (l3 : Int32) (l4 : Int32), own_fB_87 l0 l1 l2 l3 l4 = r → Steps p.tables e below (s₁.setTop (mkF m 87 #[.val (.int l0), .val (.int l1), .val (.int l2), .val (.int l3), .val (.int l4)] [])) (s₁.setFrames fs) := by
    intro l0 l1 l2 l3 l4 hf
    show Steps p.tables e below (s₁.setTop (mkF m 87 #[.val (.int l0), .val (.int l1), .val (.int l2), .val (.int l3), .val (.int l4)] [])) _
    refine XS.iloadN X0.here hx rfl (hb hby own_dB_87) rfl ?_
    show Steps p.tables e below (s₁.setTop (mkF m 88 #[.val (.int l0), .val (.int l1), .val (.int l2), .val (.int l3), .val (.int l4)] [(.int l2)])) _
    have hf' : (bif ifCond.holds .ne l2 then own_fB_104 l0 l1 l2 l3 l4 else own_fB_91 l0 l1 l2 l3 l4) = r := hf
    rcases own_tf (ifCond.holds .ne l2) with hc | hc
    · rw [hc] at hf'
      refine XS.ifYes X0.here hx rfl (pc0 := 88) (pc' := 104) rfl (hb hby own_dB_88) rfl hc (by decide) (by decide) ?_
      exact B104 l0 l1 l2 l3 l4 hf'
    · rw [hc] at hf'
      refine XS.ifNo X0.here hx rfl (hb hby own_dB_88) rfl hc ?_
      exact B91 l0 l1 l2 l3 l4 hf'
  have B81 : ∀ (l0 : Int32) (l1 : Int32) (l2 : Int32) (l3 : Int32) (s0 : Int32), own_fB_81 l0 l1 l2 l3 s0 = r → Steps p.tables e below (s₁.setTop (mkF m 81 #[.val (.int l0), .val (.int l1), .val (.int l2), .val (.int l3), .unset] [(.int s0)])) (s₁.setFrames fs) := by
    intro l0 l1 l2 l3 s0 hf
    show Steps p.tables e below (s₁.setTop (mkF m 81 #[.val (.int l0), .val (.int l1), .val (.int l2), .val (.int l3), .unset] [(.int s0)])) _
    refine XS.istore X0.here hx rfl (hb hby own_dB_81) rfl (l' := #[.val (.int l0), .val (.int l1), .val (.int l2), .val (.int l3), .val (.int s0)]) rfl ?_
    show Steps p.tables e below (s₁.setTop (mkF m 83 #[.val (.int l0), .val (.int l1), .val (.int l2), .val (.int l3), .val (.int s0)] [])) _
    refine XS.iloadN X0.here hx rfl (hb hby own_dB_83) rfl ?_
    show Steps p.tables e below (s₁.setTop (mkF m 84 #[.val (.int l0), .val (.int l1), .val (.int l2), .val (.int l3), .val (.int s0)] [(.int l1)])) _
    have hf' : (bif ifCond.holds .eq l1 then own_fB_104 l0 l1 l2 l3 s0 else own_fB_87 l0 l1 l2 l3 s0) = r := hf
    rcases own_tf (ifCond.holds .eq l1) with hc | hc
    · rw [hc] at hf'
      refine XS.ifYes X0.here hx rfl (pc0 := 84) (pc' := 104) rfl (hb hby own_dB_84) rfl hc (by decide) (by decide) ?_
      exact B104 l0 l1 l2 l3 s0 hf'
    · rw [hc] at hf'
      refine XS.ifNo X0.here hx rfl (hb hby own_dB_84) rfl hc ?_
      exact B87 l0 l1 l2 l3 s0 hf'
  have B80 : ∀ (l0 : Int32) (l1 : Int32) (l2 : Int32) (l3 : Int32), own_fB_80 l0 l1 l2 l3 = r → Steps p.tables e below (s₁.setTop (mkF m 80 #[.val (.int l0), .val (.int l1), .val (.int l2), .val (.int l3), .unset] [])) (s₁.setFrames fs) := by
    intro l0 l1 l2 l3 hf
    show Steps p.tables e below (s₁.setTop (mkF m 80 #[.val (.int l0), .val (.int l1), .val (.int l2), .val (.int l3), .unset] [])) _
    refine XS.iconst X0.here hx rfl (hb hby own_dB_80) ?_
    have hf' : own_fB_81 l0 l1 l2 l3 (0 : Int32) = r := hf
    exact B81 l0 l1 l2 l3 (0 : Int32) hf'
  have B76 : ∀ (l0 : Int32) (l1 : Int32) (l2 : Int32) (l3 : Int32), own_fB_76 l0 l1 l2 l3 = r → Steps p.tables e below (s₁.setTop (mkF m 76 #[.val (.int l0), .val (.int l1), .val (.int l2), .val (.int l3), .unset] [])) (s₁.setFrames fs) := by
    intro l0 l1 l2 l3 hf
    show Steps p.tables e below (s₁.setTop (mkF m 76 #[.val (.int l0), .val (.int l1), .val (.int l2), .val (.int l3), .unset] [])) _
    refine XS.iconst X0.here hx rfl (hb hby own_dB_76) ?_
    show Steps p.tables e below (s₁.setTop (mkF m 77 #[.val (.int l0), .val (.int l1), .val (.int l2), .val (.int l3), .unset] [(.int (1 : Int32))])) _
    refine XS.goto X0.here hx rfl (pc0 := 77) (pc' := 81) rfl (hb hby own_dB_77) (by decide) (by decide) ?_
    have hf' : own_fB_81 l0 l1 l2 l3 (1 : Int32) = r := hf
    exact B81 l0 l1 l2 l3 (1 : Int32) hf'
  have B70 : ∀ (l0 : Int32) (l1 : Int32) (l2 : Int32) (l3 : Int32), own_fB_70 l0 l1 l2 l3 = r → Steps p.tables e below (s₁.setTop (mkF m 70 #[.val (.int l0), .val (.int l1), .val (.int l2), .val (.int l3), .unset] [])) (s₁.setFrames fs) := by
    intro l0 l1 l2 l3 hf
    show Steps p.tables e below (s₁.setTop (mkF m 70 #[.val (.int l0), .val (.int l1), .val (.int l2), .val (.int l3), .unset] [])) _
    refine XS.iloadN X0.here hx rfl (hb hby own_dB_70) rfl ?_
    show Steps p.tables e below (s₁.setTop (mkF m 71 #[.val (.int l0), .val (.int l1), .val (.int l2), .val (.int l3), .unset] [(.int l0)])) _
    refine X0.ldcInt hx hown (mvT hZ (hw _ (List.mem_of_getElem? (i := 7) rfl))) (g := (mkF m 71 #[.val (.int l0), .val (.int l1), .val (.int l2), .val (.int l3), .unset] [(.int l0)])) rfl (hb hby own_dB_71) _ ?_
    show Steps p.tables e below (s₁.setTop (mkF m 73 #[.val (.int l0), .val (.int l1), .val (.int l2), .val (.int l3), .unset] [(.int (65535 : Int32)), (.int l0)])) _
    have hf' : (bif if_icmp.holds .ne l0 (65535 : Int32) then own_fB_80 l0 l1 l2 l3 else own_fB_76 l0 l1 l2 l3) = r := hf
    rcases own_tf (if_icmp.holds .ne l0 (65535 : Int32)) with hc | hc
    · rw [hc] at hf'
      refine XS.icmpYes X0.here hx rfl (pc0 := 73) (pc' := 80) rfl (hb hby own_dB_73) rfl hc (by decide) (by decide) ?_
      exact B80 l0 l1 l2 l3 hf'
    · rw [hc] at hf'
      refine XS.icmpNo X0.here hx rfl (hb hby own_dB_73) rfl hc ?_
      exact B76 l0 l1 l2 l3 hf'
  have B63 : ∀ (l0 : Int32) (l1 : Int32) (l2 : Int32) (s0 : Int32), own_fB_63 l0 l1 l2 s0 = r → Steps p.tables e below (s₁.setTop (mkF m 63 #[.val (.int l0), .val (.int l1), .val (.int l2), .unset, .unset] [(.int s0)])) (s₁.setFrames fs) := by
    intro l0 l1 l2 s0 hf
    show Steps p.tables e below (s₁.setTop (mkF m 63 #[.val (.int l0), .val (.int l1), .val (.int l2), .unset, .unset] [(.int s0)])) _
    refine XS.istoreN X0.here hx rfl (hb hby own_dB_63) rfl (l' := #[.val (.int l0), .val (.int l1), .val (.int l2), .val (.int s0), .unset]) rfl ?_
    show Steps p.tables e below (s₁.setTop (mkF m 64 #[.val (.int l0), .val (.int l1), .val (.int l2), .val (.int s0), .unset] [])) _
    refine XS.iloadN X0.here hx rfl (hb hby own_dB_64) rfl ?_
    show Steps p.tables e below (s₁.setTop (mkF m 65 #[.val (.int l0), .val (.int l1), .val (.int l2), .val (.int s0), .unset] [(.int l0)])) _
    refine X0.ldcInt hx hown (mvT hZ (hw _ (List.mem_of_getElem? (i := 6) rfl))) (g := (mkF m 65 #[.val (.int l0), .val (.int l1), .val (.int l2), .val (.int s0), .unset] [(.int l0)])) rfl (hb hby own_dB_65) _ ?_
    show Steps p.tables e below (s₁.setTop (mkF m 67 #[.val (.int l0), .val (.int l1), .val (.int l2), .val (.int s0), .unset] [(.int (65534 : Int32)), (.int l0)])) _
    have hf' : (bif if_icmp.holds .eq l0 (65534 : Int32) then own_fB_76 l0 l1 l2 s0 else own_fB_70 l0 l1 l2 s0) = r := hf
    rcases own_tf (if_icmp.holds .eq l0 (65534 : Int32)) with hc | hc
    · rw [hc] at hf'
      refine XS.icmpYes X0.here hx rfl (pc0 := 67) (pc' := 76) rfl (hb hby own_dB_67) rfl hc (by decide) (by decide) ?_
      exact B76 l0 l1 l2 s0 hf'
    · rw [hc] at hf'
      refine XS.icmpNo X0.here hx rfl (hb hby own_dB_67) rfl hc ?_
      exact B70 l0 l1 l2 s0 hf'
  have B62 : ∀ (l0 : Int32) (l1 : Int32) (l2 : Int32), own_fB_62 l0 l1 l2 = r → Steps p.tables e below (s₁.setTop (mkF m 62 #[.val (.int l0), .val (.int l1), .val (.int l2), .unset, .unset] [])) (s₁.setFrames fs) := by
    intro l0 l1 l2 hf
    show Steps p.tables e below (s₁.setTop (mkF m 62 #[.val (.int l0), .val (.int l1), .val (.int l2), .unset, .unset] [])) _
    refine XS.iconst X0.here hx rfl (hb hby own_dB_62) ?_
    have hf' : own_fB_63 l0 l1 l2 (0 : Int32) = r := hf
    exact B63 l0 l1 l2 (0 : Int32) hf'
  have B58 : ∀ (l0 : Int32) (l1 : Int32) (l2 : Int32), own_fB_58 l0 l1 l2 = r → Steps p.tables e below (s₁.setTop (mkF m 58 #[.val (.int l0), .val (.int l1), .val (.int l2), .unset, .unset] [])) (s₁.setFrames fs) := by
    intro l0 l1 l2 hf
    show Steps p.tables e below (s₁.setTop (mkF m 58 #[.val (.int l0), .val (.int l1), .val (.int l2), .unset, .unset] [])) _
    refine XS.iconst X0.here hx rfl (hb hby own_dB_58) ?_
    show Steps p.tables e below (s₁.setTop (mkF m 59 #[.val (.int l0), .val (.int l1), .val (.int l2), .unset, .unset] [(.int (1 : Int32))])) _
    refine XS.goto X0.here hx rfl (pc0 := 59) (pc' := 63) rfl (hb hby own_dB_59) (by decide) (by decide) ?_
    have hf' : own_fB_63 l0 l1 l2 (1 : Int32) = r := hf
    exact B63 l0 l1 l2 (1 : Int32) hf'
  have B52 : ∀ (l0 : Int32) (l1 : Int32) (l2 : Int32), own_fB_52 l0 l1 l2 = r → Steps p.tables e below (s₁.setTop (mkF m 52 #[.val (.int l0), .val (.int l1), .val (.int l2), .unset, .unset] [])) (s₁.setFrames fs) := by
    intro l0 l1 l2 hf
    show Steps p.tables e below (s₁.setTop (mkF m 52 #[.val (.int l0), .val (.int l1), .val (.int l2), .unset, .unset] [])) _
    refine XS.iloadN X0.here hx rfl (hb hby own_dB_52) rfl ?_
    show Steps p.tables e below (s₁.setTop (mkF m 53 #[.val (.int l0), .val (.int l1), .val (.int l2), .unset, .unset] [(.int l0)])) _
    refine X0.ldcInt hx hown (mvT hZ (hw _ (List.mem_of_getElem? (i := 3) rfl))) (g := (mkF m 53 #[.val (.int l0), .val (.int l1), .val (.int l2), .unset, .unset] [(.int l0)])) rfl (hb hby own_dB_53) _ ?_
    show Steps p.tables e below (s₁.setTop (mkF m 55 #[.val (.int l0), .val (.int l1), .val (.int l2), .unset, .unset] [(.int (57343 : Int32)), (.int l0)])) _
    have hf' : (bif if_icmp.holds .gt l0 (57343 : Int32) then own_fB_62 l0 l1 l2 else own_fB_58 l0 l1 l2) = r := hf
    rcases own_tf (if_icmp.holds .gt l0 (57343 : Int32)) with hc | hc
    · rw [hc] at hf'
      refine XS.icmpYes X0.here hx rfl (pc0 := 55) (pc' := 62) rfl (hb hby own_dB_55) rfl hc (by decide) (by decide) ?_
      exact B62 l0 l1 l2 hf'
    · rw [hc] at hf'
      refine XS.icmpNo X0.here hx rfl (hb hby own_dB_55) rfl hc ?_
      exact B58 l0 l1 l2 hf'
  have B45 : ∀ (l0 : Int32) (l1 : Int32) (s0 : Int32), own_fB_45 l0 l1 s0 = r → Steps p.tables e below (s₁.setTop (mkF m 45 #[.val (.int l0), .val (.int l1), .unset, .unset, .unset] [(.int s0)])) (s₁.setFrames fs) := by
    intro l0 l1 s0 hf
    show Steps p.tables e below (s₁.setTop (mkF m 45 #[.val (.int l0), .val (.int l1), .unset, .unset, .unset] [(.int s0)])) _
    refine XS.istoreN X0.here hx rfl (hb hby own_dB_45) rfl (l' := #[.val (.int l0), .val (.int l1), .val (.int s0), .unset, .unset]) rfl ?_
    show Steps p.tables e below (s₁.setTop (mkF m 46 #[.val (.int l0), .val (.int l1), .val (.int s0), .unset, .unset] [])) _
    refine XS.iloadN X0.here hx rfl (hb hby own_dB_46) rfl ?_
    show Steps p.tables e below (s₁.setTop (mkF m 47 #[.val (.int l0), .val (.int l1), .val (.int s0), .unset, .unset] [(.int l0)])) _
    refine X0.ldcInt hx hown (mvT hZ (hw _ (List.mem_of_getElem? (i := 2) rfl))) (g := (mkF m 47 #[.val (.int l0), .val (.int l1), .val (.int s0), .unset, .unset] [(.int l0)])) rfl (hb hby own_dB_47) _ ?_
    show Steps p.tables e below (s₁.setTop (mkF m 49 #[.val (.int l0), .val (.int l1), .val (.int s0), .unset, .unset] [(.int (55296 : Int32)), (.int l0)])) _
    have hf' : (bif if_icmp.holds .lt l0 (55296 : Int32) then own_fB_62 l0 l1 s0 else own_fB_52 l0 l1 s0) = r := hf
    rcases own_tf (if_icmp.holds .lt l0 (55296 : Int32)) with hc | hc
    · rw [hc] at hf'
      refine XS.icmpYes X0.here hx rfl (pc0 := 49) (pc' := 62) rfl (hb hby own_dB_49) rfl hc (by decide) (by decide) ?_
      exact B62 l0 l1 s0 hf'
    · rw [hc] at hf'
      refine XS.icmpNo X0.here hx rfl (hb hby own_dB_49) rfl hc ?_
      exact B52 l0 l1 s0 hf'
  have B44 : ∀ (l0 : Int32) (l1 : Int32), own_fB_44 l0 l1 = r → Steps p.tables e below (s₁.setTop (mkF m 44 #[.val (.int l0), .val (.int l1), .unset, .unset, .unset] [])) (s₁.setFrames fs) := by
    intro l0 l1 hf
    show Steps p.tables e below (s₁.setTop (mkF m 44 #[.val (.int l0), .val (.int l1), .unset, .unset, .unset] [])) _
    refine XS.iconst X0.here hx rfl (hb hby own_dB_44) ?_
    have hf' : own_fB_45 l0 l1 (0 : Int32) = r := hf
    exact B45 l0 l1 (0 : Int32) hf'
  have B40 : ∀ (l0 : Int32) (l1 : Int32), own_fB_40 l0 l1 = r → Steps p.tables e below (s₁.setTop (mkF m 40 #[.val (.int l0), .val (.int l1), .unset, .unset, .unset] [])) (s₁.setFrames fs) := by
    intro l0 l1 hf
    show Steps p.tables e below (s₁.setTop (mkF m 40 #[.val (.int l0), .val (.int l1), .unset, .unset, .unset] [])) _
    refine XS.iconst X0.here hx rfl (hb hby own_dB_40) ?_
    show Steps p.tables e below (s₁.setTop (mkF m 41 #[.val (.int l0), .val (.int l1), .unset, .unset, .unset] [(.int (1 : Int32))])) _
    refine XS.goto X0.here hx rfl (pc0 := 41) (pc' := 45) rfl (hb hby own_dB_41) (by decide) (by decide) ?_
    have hf' : own_fB_45 l0 l1 (1 : Int32) = r := hf
    exact B45 l0 l1 (1 : Int32) hf'
  have B34 : ∀ (l0 : Int32) (l1 : Int32), own_fB_34 l0 l1 = r → Steps p.tables e below (s₁.setTop (mkF m 34 #[.val (.int l0), .val (.int l1), .unset, .unset, .unset] [])) (s₁.setFrames fs) := by
    intro l0 l1 hf
    show Steps p.tables e below (s₁.setTop (mkF m 34 #[.val (.int l0), .val (.int l1), .unset, .unset, .unset] [])) _
    refine XS.iloadN X0.here hx rfl (hb hby own_dB_34) rfl ?_
    show Steps p.tables e below (s₁.setTop (mkF m 35 #[.val (.int l0), .val (.int l1), .unset, .unset, .unset] [(.int l0)])) _
    refine XS.bipush X0.here hx rfl (hb hby own_dB_35) ?_
    show Steps p.tables e below (s₁.setTop (mkF m 37 #[.val (.int l0), .val (.int l1), .unset, .unset, .unset] [(.int (13 : Int32)), (.int l0)])) _
    have hf' : (bif if_icmp.holds .eq l0 (13 : Int32) then own_fB_44 l0 l1 else own_fB_40 l0 l1) = r := hf
    rcases own_tf (if_icmp.holds .eq l0 (13 : Int32)) with hc | hc
    · rw [hc] at hf'
      refine XS.icmpYes X0.here hx rfl (pc0 := 37) (pc' := 44) rfl (hb hby own_dB_37) rfl hc (by decide) (by decide) ?_
      exact B44 l0 l1 hf'
    · rw [hc] at hf'
      refine XS.icmpNo X0.here hx rfl (hb hby own_dB_37) rfl hc ?_
      exact B40 l0 l1 hf'
  have B28 : ∀ (l0 : Int32) (l1 : Int32), own_fB_28 l0 l1 = r → Steps p.tables e below (s₁.setTop (mkF m 28 #[.val (.int l0), .val (.int l1), .unset, .unset, .unset] [])) (s₁.setFrames fs) := by
    intro l0 l1 hf
    show Steps p.tables e below (s₁.setTop (mkF m 28 #[.val (.int l0), .val (.int l1), .unset, .unset, .unset] [])) _
    refine XS.iloadN X0.here hx rfl (hb hby own_dB_28) rfl ?_
    show Steps p.tables e below (s₁.setTop (mkF m 29 #[.val (.int l0), .val (.int l1), .unset, .unset, .unset] [(.int l0)])) _
    refine XS.bipush X0.here hx rfl (hb hby own_dB_29) ?_
    show Steps p.tables e below (s₁.setTop (mkF m 31 #[.val (.int l0), .val (.int l1), .unset, .unset, .unset] [(.int (10 : Int32)), (.int l0)])) _
    have hf' : (bif if_icmp.holds .eq l0 (10 : Int32) then own_fB_44 l0 l1 else own_fB_34 l0 l1) = r := hf
    rcases own_tf (if_icmp.holds .eq l0 (10 : Int32)) with hc | hc
    · rw [hc] at hf'
      refine XS.icmpYes X0.here hx rfl (pc0 := 31) (pc' := 44) rfl (hb hby own_dB_31) rfl hc (by decide) (by decide) ?_
      exact B44 l0 l1 hf'
    · rw [hc] at hf'
      refine XS.icmpNo X0.here hx rfl (hb hby own_dB_31) rfl hc ?_
      exact B34 l0 l1 hf'
  have B22 : ∀ (l0 : Int32) (l1 : Int32), own_fB_22 l0 l1 = r → Steps p.tables e below (s₁.setTop (mkF m 22 #[.val (.int l0), .val (.int l1), .unset, .unset, .unset] [])) (s₁.setFrames fs) := by
    intro l0 l1 hf
    show Steps p.tables e below (s₁.setTop (mkF m 22 #[.val (.int l0), .val (.int l1), .unset, .unset, .unset] [])) _
    refine XS.iloadN X0.here hx rfl (hb hby own_dB_22) rfl ?_
    show Steps p.tables e below (s₁.setTop (mkF m 23 #[.val (.int l0), .val (.int l1), .unset, .unset, .unset] [(.int l0)])) _
    refine XS.bipush X0.here hx rfl (hb hby own_dB_23) ?_
    show Steps p.tables e below (s₁.setTop (mkF m 25 #[.val (.int l0), .val (.int l1), .unset, .unset, .unset] [(.int (9 : Int32)), (.int l0)])) _
    have hf' : (bif if_icmp.holds .eq l0 (9 : Int32) then own_fB_44 l0 l1 else own_fB_28 l0 l1) = r := hf
    rcases own_tf (if_icmp.holds .eq l0 (9 : Int32)) with hc | hc
    · rw [hc] at hf'
      refine XS.icmpYes X0.here hx rfl (pc0 := 25) (pc' := 44) rfl (hb hby own_dB_25) rfl hc (by decide) (by decide) ?_
      exact B44 l0 l1 hf'
    · rw [hc] at hf'
      refine XS.icmpNo X0.here hx rfl (hb hby own_dB_25) rfl hc ?_
      exact B28 l0 l1 hf'
  have B15 : ∀ (l0 : Int32) (s0 : Int32), own_fB_15 l0 s0 = r → Steps p.tables e below (s₁.setTop (mkF m 15 #[.val (.int l0), .unset, .unset, .unset, .unset] [(.int s0)])) (s₁.setFrames fs) := by
    intro l0 s0 hf
    show Steps p.tables e below (s₁.setTop (mkF m 15 #[.val (.int l0), .unset, .unset, .unset, .unset] [(.int s0)])) _
    refine XS.istoreN X0.here hx rfl (hb hby own_dB_15) rfl (l' := #[.val (.int l0), .val (.int s0), .unset, .unset, .unset]) rfl ?_
    show Steps p.tables e below (s₁.setTop (mkF m 16 #[.val (.int l0), .val (.int s0), .unset, .unset, .unset] [])) _
    refine XS.iloadN X0.here hx rfl (hb hby own_dB_16) rfl ?_
    show Steps p.tables e below (s₁.setTop (mkF m 17 #[.val (.int l0), .val (.int s0), .unset, .unset, .unset] [(.int l0)])) _
    refine XS.bipush X0.here hx rfl (hb hby own_dB_17) ?_
    show Steps p.tables e below (s₁.setTop (mkF m 19 #[.val (.int l0), .val (.int s0), .unset, .unset, .unset] [(.int (32 : Int32)), (.int l0)])) _
    have hf' : (bif if_icmp.holds .ge l0 (32 : Int32) then own_fB_44 l0 s0 else own_fB_22 l0 s0) = r := hf
    rcases own_tf (if_icmp.holds .ge l0 (32 : Int32)) with hc | hc
    · rw [hc] at hf'
      refine XS.icmpYes X0.here hx rfl (pc0 := 19) (pc' := 44) rfl (hb hby own_dB_19) rfl hc (by decide) (by decide) ?_
      exact B44 l0 s0 hf'
    · rw [hc] at hf'
      refine XS.icmpNo X0.here hx rfl (hb hby own_dB_19) rfl hc ?_
      exact B22 l0 s0 hf'
  have B14 : ∀ (l0 : Int32), own_fB_14 l0 = r → Steps p.tables e below (s₁.setTop (mkF m 14 #[.val (.int l0), .unset, .unset, .unset, .unset] [])) (s₁.setFrames fs) := by
    intro l0 hf
    show Steps p.tables e below (s₁.setTop (mkF m 14 #[.val (.int l0), .unset, .unset, .unset, .unset] [])) _
    refine XS.iconst X0.here hx rfl (hb hby own_dB_14) ?_
    have hf' : own_fB_15 l0 (0 : Int32) = r := hf
    exact B15 l0 (0 : Int32) hf'
  have B10 : ∀ (l0 : Int32), own_fB_10 l0 = r → Steps p.tables e below (s₁.setTop (mkF m 10 #[.val (.int l0), .unset, .unset, .unset, .unset] [])) (s₁.setFrames fs) := by
    intro l0 hf
    show Steps p.tables e below (s₁.setTop (mkF m 10 #[.val (.int l0), .unset, .unset, .unset, .unset] [])) _
    refine XS.iconst X0.here hx rfl (hb hby own_dB_10) ?_
    show Steps p.tables e below (s₁.setTop (mkF m 11 #[.val (.int l0), .unset, .unset, .unset, .unset] [(.int (1 : Int32))])) _
    refine XS.goto X0.here hx rfl (pc0 := 11) (pc' := 15) rfl (hb hby own_dB_11) (by decide) (by decide) ?_
    have hf' : own_fB_15 l0 (1 : Int32) = r := hf
    exact B15 l0 (1 : Int32) hf'
  have B4 : ∀ (l0 : Int32), own_fB_4 l0 = r → Steps p.tables e below (s₁.setTop (mkF m 4 #[.val (.int l0), .unset, .unset, .unset, .unset] [])) (s₁.setFrames fs) := by
    intro l0 hf
    show Steps p.tables e below (s₁.setTop (mkF m 4 #[.val (.int l0), .unset, .unset, .unset, .unset] [])) _
    refine XS.iloadN X0.here hx rfl (hb hby own_dB_4) rfl ?_
    show Steps p.tables e below (s₁.setTop (mkF m 5 #[.val (.int l0), .unset, .unset, .unset, .unset] [(.int l0)])) _
    refine X0.ldcInt hx hown (mvT hZ (hw _ (List.mem_of_getElem? (i := 9) rfl))) (g := (mkF m 5 #[.val (.int l0), .unset, .unset, .unset, .unset] [(.int l0)])) rfl (hb hby own_dB_5) _ ?_
    show Steps p.tables e below (s₁.setTop (mkF m 7 #[.val (.int l0), .unset, .unset, .unset, .unset] [(.int (1114111 : Int32)), (.int l0)])) _
    have hf' : (bif if_icmp.holds .gt l0 (1114111 : Int32) then own_fB_14 l0 else own_fB_10 l0) = r := hf
    rcases own_tf (if_icmp.holds .gt l0 (1114111 : Int32)) with hc | hc
    · rw [hc] at hf'
      refine XS.icmpYes X0.here hx rfl (pc0 := 7) (pc' := 14) rfl (hb hby own_dB_7) rfl hc (by decide) (by decide) ?_
      exact B14 l0 hf'
    · rw [hc] at hf'
      refine XS.icmpNo X0.here hx rfl (hb hby own_dB_7) rfl hc ?_
      exact B10 l0 hf'
  have B0 : ∀ (l0 : Int32), own_fB_0 l0 = r → Steps p.tables e below (s₁.setTop (mkF m 0 #[.val (.int l0), .unset, .unset, .unset, .unset] [])) (s₁.setFrames fs) := by
    intro l0 hf
    show Steps p.tables e below (s₁.setTop (mkF m 0 #[.val (.int l0), .unset, .unset, .unset, .unset] [])) _
    refine XS.iloadN X0.here hx rfl (hb hby own_dB_0) rfl ?_
    show Steps p.tables e below (s₁.setTop (mkF m 1 #[.val (.int l0), .unset, .unset, .unset, .unset] [(.int l0)])) _
    have hf' : (bif ifCond.holds .lt l0 then own_fB_14 l0 else own_fB_4 l0) = r := hf
    rcases own_tf (ifCond.holds .lt l0) with hc | hc
    · rw [hc] at hf'
      refine XS.ifYes X0.here hx rfl (pc0 := 1) (pc' := 14) rfl (hb hby own_dB_1) rfl hc (by decide) (by decide) ?_
      exact B14 l0 hf'
    · rw [hc] at hf'
      refine XS.ifNo X0.here hx rfl (hb hby own_dB_1) rfl hc ?_
      exact B4 l0 hf'
  refine ⟨_, _, castTop (own_efB m p0) (B0 p0 hr0.symm), hrun, hended, _, _, rfl, ?_, ⟨_, rfl⟩, hW, hsame.mono (by decide) (by decide)⟩
  show own_Q _ h0 n0 _ s₁.heap _
  exact ⟨by rw [hr0], Fr.nil n0, e0⟩
theorem own_same_0 (c : Int32) (h2 : c.toInt < 0) : nar .boolean (own_fA_0 c) = nar .boolean (own_fB_0 c) := by
  have qa : own_fA_0 c = (0 : Int32) := (own_t (own_ltT (n := 32) rfl (by omega)) (own_f (own_eqF (n := 9) rfl (by omega)) (own_f (own_eqF (n := 10) rfl (by omega)) (own_f (own_eqF (n := 13) rfl (by omega)) (own_t (own_ltT (n := 57344) rfl (by omega)) (own_t (own_ltT (n := 65536) rfl (by omega)) rfl))))))
  have qb : own_fB_0 c = (0 : Int32) := (own_t ((if0 _ _).trans (own_ltT (n := 0) rfl (by omega))) (own_f (own_geF (n := 32) rfl (by omega)) (own_f (own_eqF (n := 9) rfl (by omega)) (own_f (own_eqF (n := 10) rfl (by omega)) (own_f (own_eqF (n := 13) rfl (by omega)) (own_t (own_ltT (n := 55296) rfl (by omega)) (own_f (own_eqF (n := 65534) rfl (by omega)) (own_t (own_neT (n := 65535) rfl (by omega)) rfl))))))))
  rw [qa, qb]
theorem own_same_1 (c : Int32) (h1 : 0 ≤ c.toInt) (h2 : c.toInt < 1) : nar .boolean (own_fA_0 c) = nar .boolean (own_fB_0 c) := by
  have qa : own_fA_0 c = (0 : Int32) := (own_t (own_ltT (n := 32) rfl (by omega)) (own_f (own_eqF (n := 9) rfl (by omega)) (own_f (own_eqF (n := 10) rfl (by omega)) (own_f (own_eqF (n := 13) rfl (by omega)) (own_t (own_ltT (n := 57344) rfl (by omega)) (own_t (own_ltT (n := 65536) rfl (by omega)) rfl))))))
  have qb : own_fB_0 c = (0 : Int32) := (own_f ((if0 _ _).trans (own_ltF (n := 0) rfl (by omega))) (own_f (own_gtF (n := 1114111) rfl (by omega)) (own_f (own_geF (n := 32) rfl (by omega)) (own_f (own_eqF (n := 9) rfl (by omega)) (own_f (own_eqF (n := 10) rfl (by omega)) (own_f (own_eqF (n := 13) rfl (by omega)) (own_t (own_ltT (n := 55296) rfl (by omega)) (own_f (own_eqF (n := 65534) rfl (by omega)) (own_t (own_neT (n := 65535) rfl (by omega)) rfl)))))))))
  rw [qa, qb]
theorem own_same_2 (c : Int32) (h1 : 1 ≤ c.toInt) (h2 : c.toInt < 9) : nar .boolean (own_fA_0 c) = nar .boolean (own_fB_0 c) := by
  have qa : own_fA_0 c = (0 : Int32) := (own_t (own_ltT (n := 32) rfl (by omega)) (own_f (own_eqF (n := 9) rfl (by omega)) (own_f (own_eqF (n := 10) rfl (by omega)) (own_f (own_eqF (n := 13) rfl (by omega)) (own_t (own_ltT (n := 57344) rfl (by omega)) (own_t (own_ltT (n := 65536) rfl (by omega)) rfl))))))
  have qb : own_fB_0 c = (0 : Int32) := (own_f ((if0 _ _).trans (own_ltF (n := 0) rfl (by omega))) (own_f (own_gtF (n := 1114111) rfl (by omega)) (own_f (own_geF (n := 32) rfl (by omega)) (own_f (own_eqF (n := 9) rfl (by omega)) (own_f (own_eqF (n := 10) rfl (by omega)) (own_f (own_eqF (n := 13) rfl (by omega)) (own_t (own_ltT (n := 55296) rfl (by omega)) (own_f (own_eqF (n := 65534) rfl (by omega)) (own_t (own_neT (n := 65535) rfl (by omega)) rfl)))))))))
  rw [qa, qb]
theorem own_same_3 (c : Int32) (h1 : 9 ≤ c.toInt) (h2 : c.toInt < 10) : nar .boolean (own_fA_0 c) = nar .boolean (own_fB_0 c) := by
  have qa : own_fA_0 c = (1 : Int32) := (own_t (own_ltT (n := 32) rfl (by omega)) (own_t (own_eqT (n := 9) rfl (by omega)) rfl))
  have qb : own_fB_0 c = (1 : Int32) := (own_f ((if0 _ _).trans (own_ltF (n := 0) rfl (by omega))) (own_f (own_gtF (n := 1114111) rfl (by omega)) (own_f (own_geF (n := 32) rfl (by omega)) (own_t (own_eqT (n := 9) rfl (by omega)) (own_t (own_ltT (n := 55296) rfl (by omega)) (own_f (own_eqF (n := 65534) rfl (by omega)) (own_t (own_neT (n := 65535) rfl (by omega)) rfl)))))))
  rw [qa, qb]
theorem own_same_4 (c : Int32) (h1 : 10 ≤ c.toInt) (h2 : c.toInt < 11) : nar .boolean (own_fA_0 c) = nar .boolean (own_fB_0 c) := by
  have qa : own_fA_0 c = (1 : Int32) := (own_t (own_ltT (n := 32) rfl (by omega)) (own_f (own_eqF (n := 9) rfl (by omega)) (own_t (own_eqT (n := 10) rfl (by omega)) rfl)))
  have qb : own_fB_0 c = (1 : Int32) := (own_f ((if0 _ _).trans (own_ltF (n := 0) rfl (by omega))) (own_f (own_gtF (n := 1114111) rfl (by omega)) (own_f (own_geF (n := 32) rfl (by omega)) (own_f (own_eqF (n := 9) rfl (by omega)) (own_t (own_eqT (n := 10) rfl (by omega)) (own_t (own_ltT (n := 55296) rfl (by omega)) (own_f (own_eqF (n := 65534) rfl (by omega)) (own_t (own_neT (n := 65535) rfl (by omega)) rfl))))))))
  rw [qa, qb]
theorem own_same_5 (c : Int32) (h1 : 11 ≤ c.toInt) (h2 : c.toInt < 13) : nar .boolean (own_fA_0 c) = nar .boolean (own_fB_0 c) := by
  have qa : own_fA_0 c = (0 : Int32) := (own_t (own_ltT (n := 32) rfl (by omega)) (own_f (own_eqF (n := 9) rfl (by omega)) (own_f (own_eqF (n := 10) rfl (by omega)) (own_f (own_eqF (n := 13) rfl (by omega)) (own_t (own_ltT (n := 57344) rfl (by omega)) (own_t (own_ltT (n := 65536) rfl (by omega)) rfl))))))
  have qb : own_fB_0 c = (0 : Int32) := (own_f ((if0 _ _).trans (own_ltF (n := 0) rfl (by omega))) (own_f (own_gtF (n := 1114111) rfl (by omega)) (own_f (own_geF (n := 32) rfl (by omega)) (own_f (own_eqF (n := 9) rfl (by omega)) (own_f (own_eqF (n := 10) rfl (by omega)) (own_f (own_eqF (n := 13) rfl (by omega)) (own_t (own_ltT (n := 55296) rfl (by omega)) (own_f (own_eqF (n := 65534) rfl (by omega)) (own_t (own_neT (n := 65535) rfl (by omega)) rfl)))))))))
  rw [qa, qb]
theorem own_same_6 (c : Int32) (h1 : 13 ≤ c.toInt) (h2 : c.toInt < 14) : nar .boolean (own_fA_0 c) = nar .boolean (own_fB_0 c) := by
  have qa : own_fA_0 c = (1 : Int32) := (own_t (own_ltT (n := 32) rfl (by omega)) (own_f (own_eqF (n := 9) rfl (by omega)) (own_f (own_eqF (n := 10) rfl (by omega)) (own_t (own_eqT (n := 13) rfl (by omega)) rfl))))
  have qb : own_fB_0 c = (1 : Int32) := (own_f ((if0 _ _).trans (own_ltF (n := 0) rfl (by omega))) (own_f (own_gtF (n := 1114111) rfl (by omega)) (own_f (own_geF (n := 32) rfl (by omega)) (own_f (own_eqF (n := 9) rfl (by omega)) (own_f (own_eqF (n := 10) rfl (by omega)) (own_t (own_eqT (n := 13) rfl (by omega)) (own_t (own_ltT (n := 55296) rfl (by omega)) (own_f (own_eqF (n := 65534) rfl (by omega)) (own_t (own_neT (n := 65535) rfl (by omega)) rfl)))))))))
  rw [qa, qb]
theorem own_same_7 (c : Int32) (h1 : 14 ≤ c.toInt) (h2 : c.toInt < 32) : nar .boolean (own_fA_0 c) = nar .boolean (own_fB_0 c) := by
  have qa : own_fA_0 c = (0 : Int32) := (own_t (own_ltT (n := 32) rfl (by omega)) (own_f (own_eqF (n := 9) rfl (by omega)) (own_f (own_eqF (n := 10) rfl (by omega)) (own_f (own_eqF (n := 13) rfl (by omega)) (own_t (own_ltT (n := 57344) rfl (by omega)) (own_t (own_ltT (n := 65536) rfl (by omega)) rfl))))))
  have qb : own_fB_0 c = (0 : Int32) := (own_f ((if0 _ _).trans (own_ltF (n := 0) rfl (by omega))) (own_f (own_gtF (n := 1114111) rfl (by omega)) (own_f (own_geF (n := 32) rfl (by omega)) (own_f (own_eqF (n := 9) rfl (by omega)) (own_f (own_eqF (n := 10) rfl (by omega)) (own_f (own_eqF (n := 13) rfl (by omega)) (own_t (own_ltT (n := 55296) rfl (by omega)) (own_f (own_eqF (n := 65534) rfl (by omega)) (own_t (own_neT (n := 65535) rfl (by omega)) rfl)))))))))
  rw [qa, qb]
theorem own_same_8 (c : Int32) (h1 : 32 ≤ c.toInt) (h2 : c.toInt < 55296) : nar .boolean (own_fA_0 c) = nar .boolean (own_fB_0 c) := by
  have qa : own_fA_0 c = (1 : Int32) := (own_f (own_ltF (n := 32) rfl (by omega)) (own_t (own_leT (n := 55295) rfl (by omega)) rfl))
  have qb : own_fB_0 c = (1 : Int32) := (own_f ((if0 _ _).trans (own_ltF (n := 0) rfl (by omega))) (own_f (own_gtF (n := 1114111) rfl (by omega)) (own_t (own_geT (n := 32) rfl (by omega)) (own_t (own_ltT (n := 55296) rfl (by omega)) (own_f (own_eqF (n := 65534) rfl (by omega)) (own_t (own_neT (n := 65535) rfl (by omega)) rfl))))))
  rw [qa, qb]
theorem own_same_9 (c : Int32) (h1 : 55296 ≤ c.toInt) (h2 : c.toInt < 57344) : nar .boolean (own_fA_0 c) = nar .boolean (own_fB_0 c) := by
  have qa : own_fA_0 c = (0 : Int32) := (own_f (own_ltF (n := 32) rfl (by omega)) (own_f (own_leF (n := 55295) rfl (by omega)) (own_f (own_eqF (n := 9) rfl (by omega)) (own_f (own_eqF (n := 10) rfl (by omega)) (own_f (own_eqF (n := 13) rfl (by omega)) (own_t (own_ltT (n := 57344) rfl (by omega)) (own_t (own_ltT (n := 65536) rfl (by omega)) rfl)))))))
  have qb : own_fB_0 c = (0 : Int32) := (own_f ((if0 _ _).trans (own_ltF (n := 0) rfl (by omega))) (own_f (own_gtF (n := 1114111) rfl (by omega)) (own_t (own_geT (n := 32) rfl (by omega)) (own_f (own_ltF (n := 55296) rfl (by omega)) (own_f (own_gtF (n := 57343) rfl (by omega)) (own_f (own_eqF (n := 65534) rfl (by omega)) (own_t (own_neT (n := 65535) rfl (by omega)) rfl)))))))
  rw [qa, qb]
theorem own_same_10 (c : Int32) (h1 : 57344 ≤ c.toInt) (h2 : c.toInt < 65534) : nar .boolean (own_fA_0 c) = nar .boolean (own_fB_0 c) := by
  have qa : own_fA_0 c = (1 : Int32) := (own_f (own_ltF (n := 32) rfl (by omega)) (own_f (own_leF (n := 55295) rfl (by omega)) (own_f (own_eqF (n := 9) rfl (by omega)) (own_f (own_eqF (n := 10) rfl (by omega)) (own_f (own_eqF (n := 13) rfl (by omega)) (own_f (own_ltF (n := 57344) rfl (by omega)) (own_t (own_leT (n := 65533) rfl (by omega)) rfl)))))))
  have qb : own_fB_0 c = (1 : Int32) := (own_f ((if0 _ _).trans (own_ltF (n := 0) rfl (by omega))) (own_f (own_gtF (n := 1114111) rfl (by omega)) (own_t (own_geT (n := 32) rfl (by omega)) (own_f (own_ltF (n := 55296) rfl (by omega)) (own_t (own_gtT (n := 57343) rfl (by omega)) (own_f (own_eqF (n := 65534) rfl (by omega)) (own_t (own_neT (n := 65535) rfl (by omega)) rfl)))))))
  rw [qa, qb]
theorem own_same_11 (c : Int32) (h1 : 65534 ≤ c.toInt) (h2 : c.toInt < 65535) : nar .boolean (own_fA_0 c) = nar .boolean (own_fB_0 c) := by
  have qa : own_fA_0 c = (0 : Int32) := (own_f (own_ltF (n := 32) rfl (by omega)) (own_f (own_leF (n := 55295) rfl (by omega)) (own_f (own_eqF (n := 9) rfl (by omega)) (own_f (own_eqF (n := 10) rfl (by omega)) (own_f (own_eqF (n := 13) rfl (by omega)) (own_f (own_ltF (n := 57344) rfl (by omega)) (own_f (own_leF (n := 65533) rfl (by omega)) (own_t (own_ltT (n := 65536) rfl (by omega)) rfl))))))))
  have qb : own_fB_0 c = (0 : Int32) := (own_f ((if0 _ _).trans (own_ltF (n := 0) rfl (by omega))) (own_f (own_gtF (n := 1114111) rfl (by omega)) (own_t (own_geT (n := 32) rfl (by omega)) (own_f (own_ltF (n := 55296) rfl (by omega)) (own_t (own_gtT (n := 57343) rfl (by omega)) (own_t (own_eqT (n := 65534) rfl (by omega)) rfl))))))
  rw [qa, qb]
theorem own_same_12 (c : Int32) (h1 : 65535 ≤ c.toInt) (h2 : c.toInt < 65536) : nar .boolean (own_fA_0 c) = nar .boolean (own_fB_0 c) := by
  have qa : own_fA_0 c = (0 : Int32) := (own_f (own_ltF (n := 32) rfl (by omega)) (own_f (own_leF (n := 55295) rfl (by omega)) (own_f (own_eqF (n := 9) rfl (by omega)) (own_f (own_eqF (n := 10) rfl (by omega)) (own_f (own_eqF (n := 13) rfl (by omega)) (own_f (own_ltF (n := 57344) rfl (by omega)) (own_f (own_leF (n := 65533) rfl (by omega)) (own_t (own_ltT (n := 65536) rfl (by omega)) rfl))))))))
  have qb : own_fB_0 c = (0 : Int32) := (own_f ((if0 _ _).trans (own_ltF (n := 0) rfl (by omega))) (own_f (own_gtF (n := 1114111) rfl (by omega)) (own_t (own_geT (n := 32) rfl (by omega)) (own_f (own_ltF (n := 55296) rfl (by omega)) (own_t (own_gtT (n := 57343) rfl (by omega)) (own_f (own_eqF (n := 65534) rfl (by omega)) (own_f (own_neF (n := 65535) rfl (by omega)) rfl)))))))
  rw [qa, qb]
theorem own_same_13 (c : Int32) (h1 : 65536 ≤ c.toInt) (h2 : c.toInt < 1114112) : nar .boolean (own_fA_0 c) = nar .boolean (own_fB_0 c) := by
  have qa : own_fA_0 c = (1 : Int32) := (own_f (own_ltF (n := 32) rfl (by omega)) (own_f (own_leF (n := 55295) rfl (by omega)) (own_f (own_eqF (n := 9) rfl (by omega)) (own_f (own_eqF (n := 10) rfl (by omega)) (own_f (own_eqF (n := 13) rfl (by omega)) (own_f (own_ltF (n := 57344) rfl (by omega)) (own_f (own_leF (n := 65533) rfl (by omega)) (own_f (own_ltF (n := 65536) rfl (by omega)) (own_f (own_gtF (n := 1114111) rfl (by omega)) rfl)))))))))
  have qb : own_fB_0 c = (1 : Int32) := (own_f ((if0 _ _).trans (own_ltF (n := 0) rfl (by omega))) (own_f (own_gtF (n := 1114111) rfl (by omega)) (own_t (own_geT (n := 32) rfl (by omega)) (own_f (own_ltF (n := 55296) rfl (by omega)) (own_t (own_gtT (n := 57343) rfl (by omega)) (own_f (own_eqF (n := 65534) rfl (by omega)) (own_t (own_neT (n := 65535) rfl (by omega)) rfl)))))))
  rw [qa, qb]
theorem own_same_14 (c : Int32) (h1 : 1114112 ≤ c.toInt) : nar .boolean (own_fA_0 c) = nar .boolean (own_fB_0 c) := by
  have qa : own_fA_0 c = (0 : Int32) := (own_f (own_ltF (n := 32) rfl (by omega)) (own_f (own_leF (n := 55295) rfl (by omega)) (own_f (own_eqF (n := 9) rfl (by omega)) (own_f (own_eqF (n := 10) rfl (by omega)) (own_f (own_eqF (n := 13) rfl (by omega)) (own_f (own_ltF (n := 57344) rfl (by omega)) (own_f (own_leF (n := 65533) rfl (by omega)) (own_f (own_ltF (n := 65536) rfl (by omega)) (own_t (own_gtT (n := 1114111) rfl (by omega)) rfl)))))))))
  have qb : own_fB_0 c = (0 : Int32) := (own_f ((if0 _ _).trans (own_ltF (n := 0) rfl (by omega))) (own_t (own_gtT (n := 1114111) rfl (by omega)) (own_t (own_geT (n := 32) rfl (by omega)) (own_f (own_ltF (n := 55296) rfl (by omega)) (own_t (own_gtT (n := 57343) rfl (by omega)) (own_f (own_eqF (n := 65534) rfl (by omega)) (own_t (own_neT (n := 65535) rfl (by omega)) rfl)))))))
  rw [qa, qb]
theorem own_same (c : Int32) : nar .boolean (own_fA_0 c) = nar .boolean (own_fB_0 c) := by
  by_cases q0 : c.toInt < 0
  · exact own_same_0 c q0
  by_cases q1 : c.toInt < 1
  · exact own_same_1 c (by omega) q1
  by_cases q2 : c.toInt < 9
  · exact own_same_2 c (by omega) q2
  by_cases q3 : c.toInt < 10
  · exact own_same_3 c (by omega) q3
  by_cases q4 : c.toInt < 11
  · exact own_same_4 c (by omega) q4
  by_cases q5 : c.toInt < 13
  · exact own_same_5 c (by omega) q5
  by_cases q6 : c.toInt < 14
  · exact own_same_6 c (by omega) q6
  by_cases q7 : c.toInt < 32
  · exact own_same_7 c (by omega) q7
  by_cases q8 : c.toInt < 55296
  · exact own_same_8 c (by omega) q8
  by_cases q9 : c.toInt < 57344
  · exact own_same_9 c (by omega) q9
  by_cases q10 : c.toInt < 65534
  · exact own_same_10 c (by omega) q10
  by_cases q11 : c.toInt < 65535
  · exact own_same_11 c (by omega) q11
  by_cases q12 : c.toInt < 65536
  · exact own_same_12 c (by omega) q12
  by_cases q13 : c.toInt < 1114112
  · exact own_same_13 c (by omega) q13
  exact own_same_14 c (by omega)
theorem own_pn0 : plainName "com/example/amberwire/amberwire/core/text/XmlCharactersIsCharPinLaw" = true := by first | (simp [plainName, overriddenIn]; done) | decide +kernel
theorem own_ef0 (m : MethodId) (x0 : Int32) (x1 : Int32) (x2 : Int32) : entryFrame m #[(.int x0), (.int x1), (.int x2)] maxLocals = mkF m 0 #[.val (.int x0), .val (.int x1), .val (.int x2), .unset, .unset] [] := by first | (simp [entryFrame, mkF, argsToLocals, Value.category, maxLocals]; done) | rfl
set_option maxRecDepth 65536 in
set_option maxHeartbeats 40000000 in
theorem own_rm0 (l : Launch) (Z : State) (a0 : Array Value) (hw : ∀ d ∈ tables_1, d.before a0 Z = true) (ws : List Jvm.Cond) (p0 : Int32) (p1 : Int32) (p2 : Int32) (h0 : Heap) (n0 : Nat) (Z0 : n0 ≤ h0.size) :
    MetFree l x (head1 (Jvm.Cond.code x code maxLocals ret :: ws) room_1) (fun a U => a = #[(.int p0), (.int p1), (.int p2)] ∧ Z.Warmed39 U.vm ∧ U.heap = h0) (fun _ _ _ _ _ => True) (fun _ U o U' => ∃ v L, o = .returned v ∧ own_Q0 n0 v L ∧ FrameEnd U o U' L room_1.cells room_1.slots) := by
  refine MetFree.of_bodySF (plainFor_of_name own_pn0) hisR ?_
  intro p e s m args below meth c s₁ Bd hml0 hP hK
  obtain ⟨rfl, hZ, hh⟩ := hP
  have hx := Bd.exec
  have hby := Bd.bytes
  have hml : c.maxLocals = 5 := hml0
  have hown : s.vm.findClass "com/example/amberwire/amberwire/core/text/XmlCharactersIsCharPinLaw" = some m.cls := findClass_of_methodNamed Bd.named
  have hnm := (name_of_methodNamed Bd.named Bd.method).1
  have X0 : Stand p l e room_1 s m #[(.int p0), (.int p1), (.int p2)] below meth c s₁ [] 0 0 := Stand.of_body Bd
  have e0 : s₁.heap = h0 := by rw [← hh, Bd.state]; rfl
  have N0 := Fr.nil n0
  have pre0 : ∀ t, Steps p.tables e below (s₁.setTop (mkF m 0 #[.val (.int p0), .val (.int p1), .val (.int p2), .unset, .unset] [])) t → Steps p.tables e below (s₁.setTop (entryFrame m #[(.int p0), (.int p1), (.int p2)] maxLocals)) t := fun t k => castTop (own_ef0 m p0 p1 p2) k
  obtain ⟨T1, h1, k1, X1, e1, E1, A1, st1⟩ := newP X0 hx hZ (hw _ (List.mem_of_getElem? (i := 0) rfl)) e0 (g := (mkF m 2 #[.val (.int p0), .val (.int p1), .val (.int p2), .unset, .unset] [(.int (18 : Int32))])) rfl (hb hby at_2) rfl (by decide) (cap := 18) (by decide) (by decide) (by decide) (by decide)
  obtain ⟨b1, gb1⟩ : ∃ z, z = h0.size := ⟨_, rfl⟩
  rw [← gb1] at A1 st1
  have I1 : own_Ints (newA k1 .int (18 : Int32)) 18 := own_ints_new k1 _ _ (by decide)
  have ga1 : n0 ≤ b1 := Nat.le_trans Z0 (Nat.le_of_eq gb1.symm)
  obtain ⟨T2, h2, cl2, L2, X2, e2, A2, I2, N2, st2⟩ := own_st X1 hx hZ e1 A1 I1 N0 ga1 (j := (0 : Int32)) (x := (0 : Int32)) (by decide) (g := (mkF m 7 #[.val (.int p0), .val (.int p1), .val (.int p2), .unset, .unset] [(.int (0 : Int32)), (.int (0 : Int32)), (.ref b1), (.ref b1)])) rfl rfl (hb hby at_7)
  obtain ⟨T3, h3, cl3, L3, X3, e3, A3, I3, N3, st3⟩ := own_st X2 hx hZ e2 A2 I2 N2 ga1 (j := (1 : Int32)) (x := (9 : Int32)) (by decide) (g := (mkF m 12 #[.val (.int p0), .val (.int p1), .val (.int p2), .unset, .unset] [(.int (9 : Int32)), (.int (1 : Int32)), (.ref b1), (.ref b1)])) rfl rfl (hb hby at_12)
  obtain ⟨T4, h4, cl4, L4, X4, e4, A4, I4, N4, st4⟩ := own_st X3 hx hZ e3 A3 I3 N3 ga1 (j := (2 : Int32)) (x := (10 : Int32)) (by decide) (g := (mkF m 17 #[.val (.int p0), .val (.int p1), .val (.int p2), .unset, .unset] [(.int (10 : Int32)), (.int (2 : Int32)), (.ref b1), (.ref b1)])) rfl rfl (hb hby at_17)
  obtain ⟨T5, h5, cl5, L5, X5, e5, A5, I5, N5, st5⟩ := own_st X4 hx hZ e4 A4 I4 N4 ga1 (j := (3 : Int32)) (x := (13 : Int32)) (by decide) (g := (mkF m 22 #[.val (.int p0), .val (.int p1), .val (.int p2), .unset, .unset] [(.int (13 : Int32)), (.int (3 : Int32)), (.ref b1), (.ref b1)])) rfl rfl (hb hby at_22)
  obtain ⟨T6, h6, cl6, L6, X6, e6, A6, I6, N6, st6⟩ := own_st X5 hx hZ e5 A5 I5 N5 ga1 (j := (4 : Int32)) (x := (32 : Int32)) (by decide) (g := (mkF m 27 #[.val (.int p0), .val (.int p1), .val (.int p2), .unset, .unset] [(.int (32 : Int32)), (.int (4 : Int32)), (.ref b1), (.ref b1)])) rfl rfl (hb hby at_27)
  obtain ⟨T7, h7, cl7, L7, X7, e7, A7, I7, N7, st7⟩ := own_st X6 hx hZ e6 A6 I6 N6 ga1 (j := (5 : Int32)) (x := (55295 : Int32)) (by decide) (g := (mkF m 32 #[.val (.int p0), .val (.int p1), .val (.int p2), .unset, .unset] [(.int (55295 : Int32)), (.int (5 : Int32)), (.ref b1), (.ref b1)])) rfl rfl (hb hby at_32)
  obtain ⟨T8, h8, cl8, L8, X8, e8, A8, I8, N8, st8⟩ := own_st X7 hx hZ e7 A7 I7 N7 ga1 (j := (6 : Int32)) (x := (55296 : Int32)) (by decide) (g := (mkF m 38 #[.val (.int p0), .val (.int p1), .val (.int p2), .unset, .unset] [(.int (55296 : Int32)), (.int (6 : Int32)), (.ref b1), (.ref b1)])) rfl rfl (hb hby at_38)
  obtain ⟨T9, h9, cl9, L9, X9, e9, A9, I9, N9, st9⟩ := own_st X8 hx hZ e8 A8 I8 N8 ga1 (j := (7 : Int32)) (x := (57343 : Int32)) (by decide) (g := (mkF m 44 #[.val (.int p0), .val (.int p1), .val (.int p2), .unset, .unset] [(.int (57343 : Int32)), (.int (7 : Int32)), (.ref b1), (.ref b1)])) rfl rfl (hb hby at_44)
  obtain ⟨T10, h10, cl10, L10, X10, e10, A10, I10, N10, st10⟩ := own_st X9 hx hZ e9 A9 I9 N9 ga1 (j := (8 : Int32)) (x := (57344 : Int32)) (by decide) (g := (mkF m 50 #[.val (.int p0), .val (.int p1), .val (.int p2), .unset, .unset] [(.int (57344 : Int32)), (.int (8 : Int32)), (.ref b1), (.ref b1)])) rfl rfl (hb hby at_50)
  obtain ⟨T11, h11, cl11, L11, X11, e11, A11, I11, N11, st11⟩ := own_st X10 hx hZ e10 A10 I10 N10 ga1 (j := (9 : Int32)) (x := (65533 : Int32)) (by decide) (g := (mkF m 56 #[.val (.int p0), .val (.int p1), .val (.int p2), .unset, .unset] [(.int (65533 : Int32)), (.int (9 : Int32)), (.ref b1), (.ref b1)])) rfl rfl (hb hby at_56)
  obtain ⟨T12, h12, cl12, L12, X12, e12, A12, I12, N12, st12⟩ := own_st X11 hx hZ e11 A11 I11 N11 ga1 (j := (10 : Int32)) (x := (65534 : Int32)) (by decide) (g := (mkF m 62 #[.val (.int p0), .val (.int p1), .val (.int p2), .unset, .unset] [(.int (65534 : Int32)), (.int (10 : Int32)), (.ref b1), (.ref b1)])) rfl rfl (hb hby at_62)
  obtain ⟨T13, h13, cl13, L13, X13, e13, A13, I13, N13, st13⟩ := own_st X12 hx hZ e12 A12 I12 N12 ga1 (j := (11 : Int32)) (x := (65535 : Int32)) (by decide) (g := (mkF m 68 #[.val (.int p0), .val (.int p1), .val (.int p2), .unset, .unset] [(.int (65535 : Int32)), (.int (11 : Int32)), (.ref b1), (.ref b1)])) rfl rfl (hb hby at_68)
  obtain ⟨T14, h14, cl14, L14, X14, e14, A14, I14, N14, st14⟩ := own_st X13 hx hZ e13 A13 I13 N13 ga1 (j := (12 : Int32)) (x := (65536 : Int32)) (by decide) (g := (mkF m 74 #[.val (.int p0), .val (.int p1), .val (.int p2), .unset, .unset] [(.int (65536 : Int32)), (.int (12 : Int32)), (.ref b1), (.ref b1)])) rfl rfl (hb hby at_74)
  obtain ⟨T15, h15, cl15, L15, X15, e15, A15, I15, N15, st15⟩ := own_st X14 hx hZ e14 A14 I14 N14 ga1 (j := (13 : Int32)) (x := (1114111 : Int32)) (by decide) (g := (mkF m 80 #[.val (.int p0), .val (.int p1), .val (.int p2), .unset, .unset] [(.int (1114111 : Int32)), (.int (13 : Int32)), (.ref b1), (.ref b1)])) rfl rfl (hb hby at_80)
  obtain ⟨T16, h16, cl16, L16, X16, e16, A16, I16, N16, st16⟩ := own_st X15 hx hZ e15 A15 I15 N15 ga1 (j := (14 : Int32)) (x := (1114112 : Int32)) (by decide) (g := (mkF m 86 #[.val (.int p0), .val (.int p1), .val (.int p2), .unset, .unset] [(.int (1114112 : Int32)), (.int (14 : Int32)), (.ref b1), (.ref b1)])) rfl rfl (hb hby at_86)
  obtain ⟨T17, h17, cl17, L17, X17, e17, A17, I17, N17, st17⟩ := own_st X16 hx hZ e16 A16 I16 N16 ga1 (j := (15 : Int32)) (x := (-2147483648 : Int32)) (by decide) (g := (mkF m 92 #[.val (.int p0), .val (.int p1), .val (.int p2), .unset, .unset] [(.int (-2147483648 : Int32)), (.int (15 : Int32)), (.ref b1), (.ref b1)])) rfl rfl (hb hby at_92)
  obtain ⟨T18, h18, cl18, L18, X18, e18, A18, I18, N18, st18⟩ := own_st X17 hx hZ e17 A17 I17 N17 ga1 (j := (16 : Int32)) (x := (2147483647 : Int32)) (by decide) (g := (mkF m 98 #[.val (.int p0), .val (.int p1), .val (.int p2), .unset, .unset] [(.int (2147483647 : Int32)), (.int (16 : Int32)), (.ref b1), (.ref b1)])) rfl rfl (hb hby at_98)
  obtain ⟨T19, h19, cl19, L19, X19, e19, A19, I19, N19, st19⟩ := own_st X18 hx hZ e18 A18 I18 N18 ga1 (j := (17 : Int32)) (x := (-1 : Int32)) (by decide) (g := (mkF m 103 #[.val (.int p0), .val (.int p1), .val (.int p2), .unset, .unset] [(.int (-1 : Int32)), (.int (17 : Int32)), (.ref b1), (.ref b1)])) rfl rfl (hb hby at_103)
  obtain ⟨cv, stJ⟩ : ∃ cv : Int32, ∀ t, Steps p.tables e below (T19.setTop (mkF m 131 #[.val (.int p0), .val (.int p1), .val (.int p2), .val (.ref b1), .val (.int cv)] [])) t → Steps p.tables e below (T19.setTop (mkF m 108 #[.val (.int p0), .val (.int p1), .val (.int p2), .val (.ref b1), .unset] [(.int (p1 &&& (1 : Int32)))])) t := by
    rcases own_tf (ifCond.holds .eq (p1 &&& (1 : Int32))) with hc | hc
    · obtain ⟨z20, sz20⟩ := own_ld X19 hx hZ e19 A19 I19 (j := ((((p1).toUInt32 >>> ((1 : Int32) &&& 31).toUInt32).toInt32) - ((((p1).toUInt32 >>> ((1 : Int32) &&& 31).toUInt32).toInt32) / (18 : Int32)) * (18 : Int32))) (own_rem_in (own_nn_shr p1) rfl (by decide))
      refine ⟨(z20 + (p2 - (p2 / (5 : Int32)) * (5 : Int32))), fun t k => ?_⟩
      show Steps p.tables e below (T19.setTop (mkF m 108 #[.val (.int p0), .val (.int p1), .val (.int p2), .val (.ref b1), .unset] [(.int (p1 &&& (1 : Int32)))])) _
      refine XS.ifYes X19.here hx rfl (pc0 := 108) (pc' := 117) rfl (hb hby at_108) rfl hc (by decide) (by decide) ?_
      show Steps p.tables e below (T19.setTop (mkF m 117 #[.val (.int p0), .val (.int p1), .val (.int p2), .val (.ref b1), .unset] [])) _
      refine XS.aloadN X19.here hx rfl (hb hby at_117) rfl rfl ?_
      show Steps p.tables e below (T19.setTop (mkF m 118 #[.val (.int p0), .val (.int p1), .val (.int p2), .val (.ref b1), .unset] [(.ref b1)])) _
      refine XS.iloadN X19.here hx rfl (hb hby at_118) rfl ?_
      show Steps p.tables e below (T19.setTop (mkF m 119 #[.val (.int p0), .val (.int p1), .val (.int p2), .val (.ref b1), .unset] [(.int p1), (.ref b1)])) _
      refine XS.iconst X19.here hx rfl (hb hby at_119) ?_
      show Steps p.tables e below (T19.setTop (mkF m 120 #[.val (.int p0), .val (.int p1), .val (.int p2), .val (.ref b1), .unset] [(.int (1 : Int32)), (.int p1), (.ref b1)])) _
      refine XS.iushr X19.here hx rfl (hb hby at_120) rfl ?_
      show Steps p.tables e below (T19.setTop (mkF m 121 #[.val (.int p0), .val (.int p1), .val (.int p2), .val (.ref b1), .unset] [(.int (((p1).toUInt32 >>> ((1 : Int32) &&& 31).toUInt32).toInt32)), (.ref b1)])) _
      refine XS.bipush X19.here hx rfl (hb hby at_121) ?_
      show Steps p.tables e below (T19.setTop (mkF m 123 #[.val (.int p0), .val (.int p1), .val (.int p2), .val (.ref b1), .unset] [(.int (18 : Int32)), (.int (((p1).toUInt32 >>> ((1 : Int32) &&& 31).toUInt32).toInt32)), (.ref b1)])) _
      refine XS.irem X19.here hx rfl (hb hby at_123) rfl (by decide) ?_
      show Steps p.tables e below (T19.setTop (mkF m 124 #[.val (.int p0), .val (.int p1), .val (.int p2), .val (.ref b1), .unset] [(.int ((((p1).toUInt32 >>> ((1 : Int32) &&& 31).toUInt32).toInt32) - ((((p1).toUInt32 >>> ((1 : Int32) &&& 31).toUInt32).toInt32) / (18 : Int32)) * (18 : Int32))), (.ref b1)])) _
      refine sz20 (g := (mkF m 124 #[.val (.int p0), .val (.int p1), .val (.int p2), .val (.ref b1), .unset] [(.int ((((p1).toUInt32 >>> ((1 : Int32) &&& 31).toUInt32).toInt32) - ((((p1).toUInt32 >>> ((1 : Int32) &&& 31).toUInt32).toInt32) / (18 : Int32)) * (18 : Int32))), (.ref b1)])) rfl rfl (hb hby at_124) _ ?_
      show Steps p.tables e below (T19.setTop (mkF m 125 #[.val (.int p0), .val (.int p1), .val (.int p2), .val (.ref b1), .unset] [(.int z20)])) _
      refine XS.iloadN X19.here hx rfl (hb hby at_125) rfl ?_
      show Steps p.tables e below (T19.setTop (mkF m 126 #[.val (.int p0), .val (.int p1), .val (.int p2), .val (.ref b1), .unset] [(.int p2), (.int z20)])) _
      refine XS.iconst X19.here hx rfl (hb hby at_126) ?_
      show Steps p.tables e below (T19.setTop (mkF m 127 #[.val (.int p0), .val (.int p1), .val (.int p2), .val (.ref b1), .unset] [(.int (5 : Int32)), (.int p2), (.int z20)])) _
      refine XS.irem X19.here hx rfl (hb hby at_127) rfl (by decide) ?_
      show Steps p.tables e below (T19.setTop (mkF m 128 #[.val (.int p0), .val (.int p1), .val (.int p2), .val (.ref b1), .unset] [(.int (p2 - (p2 / (5 : Int32)) * (5 : Int32))), (.int z20)])) _
      refine XS.iadd X19.here hx rfl (hb hby at_128) rfl ?_
      show Steps p.tables e below (T19.setTop (mkF m 129 #[.val (.int p0), .val (.int p1), .val (.int p2), .val (.ref b1), .unset] [(.int (z20 + (p2 - (p2 / (5 : Int32)) * (5 : Int32))))])) _
      refine XS.istore X19.here hx rfl (hb hby at_129) rfl (l' := #[.val (.int p0), .val (.int p1), .val (.int p2), .val (.ref b1), .val (.int (z20 + (p2 - (p2 / (5 : Int32)) * (5 : Int32))))]) rfl ?_
      exact k
    · refine ⟨p0, fun t k => ?_⟩
      show Steps p.tables e below (T19.setTop (mkF m 108 #[.val (.int p0), .val (.int p1), .val (.int p2), .val (.ref b1), .unset] [(.int (p1 &&& (1 : Int32)))])) _
      refine XS.ifNo X19.here hx rfl (hb hby at_108) rfl hc ?_
      show Steps p.tables e below (T19.setTop (mkF m 111 #[.val (.int p0), .val (.int p1), .val (.int p2), .val (.ref b1), .unset] [])) _
      refine XS.iloadN X19.here hx rfl (hb hby at_111) rfl ?_
      show Steps p.tables e below (T19.setTop (mkF m 112 #[.val (.int p0), .val (.int p1), .val (.int p2), .val (.ref b1), .unset] [(.int p0)])) _
      refine XS.istore X19.here hx rfl (hb hby at_112) rfl (l' := #[.val (.int p0), .val (.int p1), .val (.int p2), .val (.ref b1), .val (.int p0)]) rfl ?_
      show Steps p.tables e below (T19.setTop (mkF m 114 #[.val (.int p0), .val (.int p1), .val (.int p2), .val (.ref b1), .val (.int p0)] [])) _
      refine XS.goto X19.here hx rfl (pc0 := 114) (pc' := 131) rfl (hb hby at_114) (by decide) (by decide) ?_
      exact k
  obtain ⟨T21, L21, X21, e21, N21, st21⟩ := own_callS X19 hx hZ (y := (⟨"com/example/amberwire/amberwire/core/text/XmlCharacters", "isChar", "(I)Z"⟩ : MethodName)) hown (hw _ (List.mem_of_getElem? (i := 13) rfl)) (hw _ (List.mem_of_getElem? (i := 14) rfl)) (hw _ (List.mem_of_getElem? (i := 15) rfl)) (hw _ (List.mem_of_getElem? (i := 16) rfl)) (by decide) (W := 0) (own_rmA l Z a0 hw [] cv h19 n0) (by decide) (by decide) (g := (mkF m 133 #[.val (.int p0), .val (.int p1), .val (.int p2), .val (.ref b1), .val (.int cv)] [(.int cv)])) rfl (by rw [hml]; rfl) (rest := []) (lenOf own_pdA rfl) rfl (by show 2 * 0 + _ ≤ _; exact Nat.le_of_eq rfl) (hb hby at_133) (by decide) (by decide) e19 N19
  obtain ⟨T22, L22, X22, e22, N22, st22⟩ := own_callS X21 hx hZ (y := (⟨"com/example/amberwire/amberwire/core/text/XmlCharactersIsCharPinLaw", "expected", "(I)Z"⟩ : MethodName)) hown (hw _ (List.mem_of_getElem? (i := 19) rfl)) (hw _ (List.mem_of_getElem? (i := 20) rfl)) (hw _ (List.mem_of_getElem? (i := 21) rfl)) (hw _ (List.mem_of_getElem? (i := 22) rfl)) (by decide) (W := 1) (own_rmB l Z a0 hw [] cv h19 n0) (by decide) (by decide) (g := (mkF m 138 #[.val (.int p0), .val (.int p1), .val (.int p2), .val (.ref b1), .val (.int cv)] [(.int cv), (.int (nar .boolean (own_fA_0 cv)))])) rfl (by rw [hml]; rfl) (rest := [(.int (nar .boolean (own_fA_0 cv)))]) (lenOf own_pdB rfl) rfl (by show 2 * 0 + _ ≤ _; exact Nat.le_of_eq rfl) (hb hby at_138) (by decide) (by decide) e21 N21
  obtain ⟨fs, hr, hrun, hended, hW, hsame⟩ := X22.leave (v := some (.int (1 : Int32))) (fun h => by rw [Bd.returns] at h; cases h)
  refine ⟨_, _, pre0 _ ?_, hrun, hended, _, _, rfl, ?_, ⟨_, rfl⟩, hW, hsame.mono (by decide) (by decide)⟩
  · show Steps p.tables e below (s₁.setTop (mkF m 0 #[.val (.int p0), .val (.int p1), .val (.int p2), .unset, .unset] [])) _
    refine XS.bipush X0.here hx rfl (hb hby at_0) ?_
    show Steps p.tables e below (s₁.setTop (mkF m 2 #[.val (.int p0), .val (.int p1), .val (.int p2), .unset, .unset] [(.int (18 : Int32))])) _
    refine st1 _ ?_
    show Steps p.tables e below (T1.setTop (mkF m 4 #[.val (.int p0), .val (.int p1), .val (.int p2), .unset, .unset] [(.ref b1)])) _
    refine XS.dup X1.here hx rfl (hb hby at_4) rfl rfl ?_
    show Steps p.tables e below (T1.setTop (mkF m 5 #[.val (.int p0), .val (.int p1), .val (.int p2), .unset, .unset] [(.ref b1), (.ref b1)])) _
    refine XS.iconst X1.here hx rfl (hb hby at_5) ?_
    show Steps p.tables e below (T1.setTop (mkF m 6 #[.val (.int p0), .val (.int p1), .val (.int p2), .unset, .unset] [(.int (0 : Int32)), (.ref b1), (.ref b1)])) _
    refine XS.iconst X1.here hx rfl (hb hby at_6) ?_
    show Steps p.tables e below (T1.setTop (mkF m 7 #[.val (.int p0), .val (.int p1), .val (.int p2), .unset, .unset] [(.int (0 : Int32)), (.int (0 : Int32)), (.ref b1), (.ref b1)])) _
    refine st2 _ ?_
    show Steps p.tables e below (T2.setTop (mkF m 8 #[.val (.int p0), .val (.int p1), .val (.int p2), .unset, .unset] [(.ref b1)])) _
    refine XS.dup X2.here hx rfl (hb hby at_8) rfl rfl ?_
    show Steps p.tables e below (T2.setTop (mkF m 9 #[.val (.int p0), .val (.int p1), .val (.int p2), .unset, .unset] [(.ref b1), (.ref b1)])) _
    refine XS.iconst X2.here hx rfl (hb hby at_9) ?_
    show Steps p.tables e below (T2.setTop (mkF m 10 #[.val (.int p0), .val (.int p1), .val (.int p2), .unset, .unset] [(.int (1 : Int32)), (.ref b1), (.ref b1)])) _
    refine XS.bipush X2.here hx rfl (hb hby at_10) ?_
    show Steps p.tables e below (T2.setTop (mkF m 12 #[.val (.int p0), .val (.int p1), .val (.int p2), .unset, .unset] [(.int (9 : Int32)), (.int (1 : Int32)), (.ref b1), (.ref b1)])) _
    refine st3 _ ?_
    show Steps p.tables e below (T3.setTop (mkF m 13 #[.val (.int p0), .val (.int p1), .val (.int p2), .unset, .unset] [(.ref b1)])) _
    refine XS.dup X3.here hx rfl (hb hby at_13) rfl rfl ?_
    show Steps p.tables e below (T3.setTop (mkF m 14 #[.val (.int p0), .val (.int p1), .val (.int p2), .unset, .unset] [(.ref b1), (.ref b1)])) _
    refine XS.iconst X3.here hx rfl (hb hby at_14) ?_
    show Steps p.tables e below (T3.setTop (mkF m 15 #[.val (.int p0), .val (.int p1), .val (.int p2), .unset, .unset] [(.int (2 : Int32)), (.ref b1), (.ref b1)])) _
    refine XS.bipush X3.here hx rfl (hb hby at_15) ?_
    show Steps p.tables e below (T3.setTop (mkF m 17 #[.val (.int p0), .val (.int p1), .val (.int p2), .unset, .unset] [(.int (10 : Int32)), (.int (2 : Int32)), (.ref b1), (.ref b1)])) _
    refine st4 _ ?_
    show Steps p.tables e below (T4.setTop (mkF m 18 #[.val (.int p0), .val (.int p1), .val (.int p2), .unset, .unset] [(.ref b1)])) _
    refine XS.dup X4.here hx rfl (hb hby at_18) rfl rfl ?_
    show Steps p.tables e below (T4.setTop (mkF m 19 #[.val (.int p0), .val (.int p1), .val (.int p2), .unset, .unset] [(.ref b1), (.ref b1)])) _
    refine XS.iconst X4.here hx rfl (hb hby at_19) ?_
    show Steps p.tables e below (T4.setTop (mkF m 20 #[.val (.int p0), .val (.int p1), .val (.int p2), .unset, .unset] [(.int (3 : Int32)), (.ref b1), (.ref b1)])) _
    refine XS.bipush X4.here hx rfl (hb hby at_20) ?_
    show Steps p.tables e below (T4.setTop (mkF m 22 #[.val (.int p0), .val (.int p1), .val (.int p2), .unset, .unset] [(.int (13 : Int32)), (.int (3 : Int32)), (.ref b1), (.ref b1)])) _
    refine st5 _ ?_
    show Steps p.tables e below (T5.setTop (mkF m 23 #[.val (.int p0), .val (.int p1), .val (.int p2), .unset, .unset] [(.ref b1)])) _
    refine XS.dup X5.here hx rfl (hb hby at_23) rfl rfl ?_
    show Steps p.tables e below (T5.setTop (mkF m 24 #[.val (.int p0), .val (.int p1), .val (.int p2), .unset, .unset] [(.ref b1), (.ref b1)])) _
    refine XS.iconst X5.here hx rfl (hb hby at_24) ?_
    show Steps p.tables e below (T5.setTop (mkF m 25 #[.val (.int p0), .val (.int p1), .val (.int p2), .unset, .unset] [(.int (4 : Int32)), (.ref b1), (.ref b1)])) _
    refine XS.bipush X5.here hx rfl (hb hby at_25) ?_
    show Steps p.tables e below (T5.setTop (mkF m 27 #[.val (.int p0), .val (.int p1), .val (.int p2), .unset, .unset] [(.int (32 : Int32)), (.int (4 : Int32)), (.ref b1), (.ref b1)])) _
    refine st6 _ ?_
    show Steps p.tables e below (T6.setTop (mkF m 28 #[.val (.int p0), .val (.int p1), .val (.int p2), .unset, .unset] [(.ref b1)])) _
    refine XS.dup X6.here hx rfl (hb hby at_28) rfl rfl ?_
    show Steps p.tables e below (T6.setTop (mkF m 29 #[.val (.int p0), .val (.int p1), .val (.int p2), .unset, .unset] [(.ref b1), (.ref b1)])) _
    refine XS.iconst X6.here hx rfl (hb hby at_29) ?_
    show Steps p.tables e below (T6.setTop (mkF m 30 #[.val (.int p0), .val (.int p1), .val (.int p2), .unset, .unset] [(.int (5 : Int32)), (.ref b1), (.ref b1)])) _
    refine X6.ldcInt hx hown (mvT hZ (hw _ (List.mem_of_getElem? (i := 1) rfl))) (g := (mkF m 30 #[.val (.int p0), .val (.int p1), .val (.int p2), .unset, .unset] [(.int (5 : Int32)), (.ref b1), (.ref b1)])) rfl (hb hby at_30) _ ?_
    show Steps p.tables e below (T6.setTop (mkF m 32 #[.val (.int p0), .val (.int p1), .val (.int p2), .unset, .unset] [(.int (55295 : Int32)), (.int (5 : Int32)), (.ref b1), (.ref b1)])) _
    refine st7 _ ?_
    show Steps p.tables e below (T7.setTop (mkF m 33 #[.val (.int p0), .val (.int p1), .val (.int p2), .unset, .unset] [(.ref b1)])) _
    refine XS.dup X7.here hx rfl (hb hby at_33) rfl rfl ?_
    show Steps p.tables e below (T7.setTop (mkF m 34 #[.val (.int p0), .val (.int p1), .val (.int p2), .unset, .unset] [(.ref b1), (.ref b1)])) _
    refine XS.bipush X7.here hx rfl (hb hby at_34) ?_
    show Steps p.tables e below (T7.setTop (mkF m 36 #[.val (.int p0), .val (.int p1), .val (.int p2), .unset, .unset] [(.int (6 : Int32)), (.ref b1), (.ref b1)])) _
    refine X7.ldcInt hx hown (mvT hZ (hw _ (List.mem_of_getElem? (i := 2) rfl))) (g := (mkF m 36 #[.val (.int p0), .val (.int p1), .val (.int p2), .unset, .unset] [(.int (6 : Int32)), (.ref b1), (.ref b1)])) rfl (hb hby at_36) _ ?_
    show Steps p.tables e below (T7.setTop (mkF m 38 #[.val (.int p0), .val (.int p1), .val (.int p2), .unset, .unset] [(.int (55296 : Int32)), (.int (6 : Int32)), (.ref b1), (.ref b1)])) _
    refine st8 _ ?_
    show Steps p.tables e below (T8.setTop (mkF m 39 #[.val (.int p0), .val (.int p1), .val (.int p2), .unset, .unset] [(.ref b1)])) _
    refine XS.dup X8.here hx rfl (hb hby at_39) rfl rfl ?_
    show Steps p.tables e below (T8.setTop (mkF m 40 #[.val (.int p0), .val (.int p1), .val (.int p2), .unset, .unset] [(.ref b1), (.ref b1)])) _
    refine XS.bipush X8.here hx rfl (hb hby at_40) ?_
    show Steps p.tables e below (T8.setTop (mkF m 42 #[.val (.int p0), .val (.int p1), .val (.int p2), .unset, .unset] [(.int (7 : Int32)), (.ref b1), (.ref b1)])) _
    refine X8.ldcInt hx hown (mvT hZ (hw _ (List.mem_of_getElem? (i := 3) rfl))) (g := (mkF m 42 #[.val (.int p0), .val (.int p1), .val (.int p2), .unset, .unset] [(.int (7 : Int32)), (.ref b1), (.ref b1)])) rfl (hb hby at_42) _ ?_
    show Steps p.tables e below (T8.setTop (mkF m 44 #[.val (.int p0), .val (.int p1), .val (.int p2), .unset, .unset] [(.int (57343 : Int32)), (.int (7 : Int32)), (.ref b1), (.ref b1)])) _
    refine st9 _ ?_
    show Steps p.tables e below (T9.setTop (mkF m 45 #[.val (.int p0), .val (.int p1), .val (.int p2), .unset, .unset] [(.ref b1)])) _
    refine XS.dup X9.here hx rfl (hb hby at_45) rfl rfl ?_
    show Steps p.tables e below (T9.setTop (mkF m 46 #[.val (.int p0), .val (.int p1), .val (.int p2), .unset, .unset] [(.ref b1), (.ref b1)])) _
    refine XS.bipush X9.here hx rfl (hb hby at_46) ?_
    show Steps p.tables e below (T9.setTop (mkF m 48 #[.val (.int p0), .val (.int p1), .val (.int p2), .unset, .unset] [(.int (8 : Int32)), (.ref b1), (.ref b1)])) _
    refine X9.ldcInt hx hown (mvT hZ (hw _ (List.mem_of_getElem? (i := 4) rfl))) (g := (mkF m 48 #[.val (.int p0), .val (.int p1), .val (.int p2), .unset, .unset] [(.int (8 : Int32)), (.ref b1), (.ref b1)])) rfl (hb hby at_48) _ ?_
    show Steps p.tables e below (T9.setTop (mkF m 50 #[.val (.int p0), .val (.int p1), .val (.int p2), .unset, .unset] [(.int (57344 : Int32)), (.int (8 : Int32)), (.ref b1), (.ref b1)])) _
    refine st10 _ ?_
    show Steps p.tables e below (T10.setTop (mkF m 51 #[.val (.int p0), .val (.int p1), .val (.int p2), .unset, .unset] [(.ref b1)])) _
    refine XS.dup X10.here hx rfl (hb hby at_51) rfl rfl ?_
    show Steps p.tables e below (T10.setTop (mkF m 52 #[.val (.int p0), .val (.int p1), .val (.int p2), .unset, .unset] [(.ref b1), (.ref b1)])) _
    refine XS.bipush X10.here hx rfl (hb hby at_52) ?_
    show Steps p.tables e below (T10.setTop (mkF m 54 #[.val (.int p0), .val (.int p1), .val (.int p2), .unset, .unset] [(.int (9 : Int32)), (.ref b1), (.ref b1)])) _
    refine X10.ldcInt hx hown (mvT hZ (hw _ (List.mem_of_getElem? (i := 5) rfl))) (g := (mkF m 54 #[.val (.int p0), .val (.int p1), .val (.int p2), .unset, .unset] [(.int (9 : Int32)), (.ref b1), (.ref b1)])) rfl (hb hby at_54) _ ?_
    show Steps p.tables e below (T10.setTop (mkF m 56 #[.val (.int p0), .val (.int p1), .val (.int p2), .unset, .unset] [(.int (65533 : Int32)), (.int (9 : Int32)), (.ref b1), (.ref b1)])) _
    refine st11 _ ?_
    show Steps p.tables e below (T11.setTop (mkF m 57 #[.val (.int p0), .val (.int p1), .val (.int p2), .unset, .unset] [(.ref b1)])) _
    refine XS.dup X11.here hx rfl (hb hby at_57) rfl rfl ?_
    show Steps p.tables e below (T11.setTop (mkF m 58 #[.val (.int p0), .val (.int p1), .val (.int p2), .unset, .unset] [(.ref b1), (.ref b1)])) _
    refine XS.bipush X11.here hx rfl (hb hby at_58) ?_
    show Steps p.tables e below (T11.setTop (mkF m 60 #[.val (.int p0), .val (.int p1), .val (.int p2), .unset, .unset] [(.int (10 : Int32)), (.ref b1), (.ref b1)])) _
    refine X11.ldcInt hx hown (mvT hZ (hw _ (List.mem_of_getElem? (i := 6) rfl))) (g := (mkF m 60 #[.val (.int p0), .val (.int p1), .val (.int p2), .unset, .unset] [(.int (10 : Int32)), (.ref b1), (.ref b1)])) rfl (hb hby at_60) _ ?_
    show Steps p.tables e below (T11.setTop (mkF m 62 #[.val (.int p0), .val (.int p1), .val (.int p2), .unset, .unset] [(.int (65534 : Int32)), (.int (10 : Int32)), (.ref b1), (.ref b1)])) _
    refine st12 _ ?_
    show Steps p.tables e below (T12.setTop (mkF m 63 #[.val (.int p0), .val (.int p1), .val (.int p2), .unset, .unset] [(.ref b1)])) _
    refine XS.dup X12.here hx rfl (hb hby at_63) rfl rfl ?_
    show Steps p.tables e below (T12.setTop (mkF m 64 #[.val (.int p0), .val (.int p1), .val (.int p2), .unset, .unset] [(.ref b1), (.ref b1)])) _
    refine XS.bipush X12.here hx rfl (hb hby at_64) ?_
    show Steps p.tables e below (T12.setTop (mkF m 66 #[.val (.int p0), .val (.int p1), .val (.int p2), .unset, .unset] [(.int (11 : Int32)), (.ref b1), (.ref b1)])) _
    refine X12.ldcInt hx hown (mvT hZ (hw _ (List.mem_of_getElem? (i := 7) rfl))) (g := (mkF m 66 #[.val (.int p0), .val (.int p1), .val (.int p2), .unset, .unset] [(.int (11 : Int32)), (.ref b1), (.ref b1)])) rfl (hb hby at_66) _ ?_
    show Steps p.tables e below (T12.setTop (mkF m 68 #[.val (.int p0), .val (.int p1), .val (.int p2), .unset, .unset] [(.int (65535 : Int32)), (.int (11 : Int32)), (.ref b1), (.ref b1)])) _
    refine st13 _ ?_
    show Steps p.tables e below (T13.setTop (mkF m 69 #[.val (.int p0), .val (.int p1), .val (.int p2), .unset, .unset] [(.ref b1)])) _
    refine XS.dup X13.here hx rfl (hb hby at_69) rfl rfl ?_
    show Steps p.tables e below (T13.setTop (mkF m 70 #[.val (.int p0), .val (.int p1), .val (.int p2), .unset, .unset] [(.ref b1), (.ref b1)])) _
    refine XS.bipush X13.here hx rfl (hb hby at_70) ?_
    show Steps p.tables e below (T13.setTop (mkF m 72 #[.val (.int p0), .val (.int p1), .val (.int p2), .unset, .unset] [(.int (12 : Int32)), (.ref b1), (.ref b1)])) _
    refine X13.ldcInt hx hown (mvT hZ (hw _ (List.mem_of_getElem? (i := 8) rfl))) (g := (mkF m 72 #[.val (.int p0), .val (.int p1), .val (.int p2), .unset, .unset] [(.int (12 : Int32)), (.ref b1), (.ref b1)])) rfl (hb hby at_72) _ ?_
    show Steps p.tables e below (T13.setTop (mkF m 74 #[.val (.int p0), .val (.int p1), .val (.int p2), .unset, .unset] [(.int (65536 : Int32)), (.int (12 : Int32)), (.ref b1), (.ref b1)])) _
    refine st14 _ ?_
    show Steps p.tables e below (T14.setTop (mkF m 75 #[.val (.int p0), .val (.int p1), .val (.int p2), .unset, .unset] [(.ref b1)])) _
    refine XS.dup X14.here hx rfl (hb hby at_75) rfl rfl ?_
    show Steps p.tables e below (T14.setTop (mkF m 76 #[.val (.int p0), .val (.int p1), .val (.int p2), .unset, .unset] [(.ref b1), (.ref b1)])) _
    refine XS.bipush X14.here hx rfl (hb hby at_76) ?_
    show Steps p.tables e below (T14.setTop (mkF m 78 #[.val (.int p0), .val (.int p1), .val (.int p2), .unset, .unset] [(.int (13 : Int32)), (.ref b1), (.ref b1)])) _
    refine X14.ldcInt hx hown (mvT hZ (hw _ (List.mem_of_getElem? (i := 9) rfl))) (g := (mkF m 78 #[.val (.int p0), .val (.int p1), .val (.int p2), .unset, .unset] [(.int (13 : Int32)), (.ref b1), (.ref b1)])) rfl (hb hby at_78) _ ?_
    show Steps p.tables e below (T14.setTop (mkF m 80 #[.val (.int p0), .val (.int p1), .val (.int p2), .unset, .unset] [(.int (1114111 : Int32)), (.int (13 : Int32)), (.ref b1), (.ref b1)])) _
    refine st15 _ ?_
    show Steps p.tables e below (T15.setTop (mkF m 81 #[.val (.int p0), .val (.int p1), .val (.int p2), .unset, .unset] [(.ref b1)])) _
    refine XS.dup X15.here hx rfl (hb hby at_81) rfl rfl ?_
    show Steps p.tables e below (T15.setTop (mkF m 82 #[.val (.int p0), .val (.int p1), .val (.int p2), .unset, .unset] [(.ref b1), (.ref b1)])) _
    refine XS.bipush X15.here hx rfl (hb hby at_82) ?_
    show Steps p.tables e below (T15.setTop (mkF m 84 #[.val (.int p0), .val (.int p1), .val (.int p2), .unset, .unset] [(.int (14 : Int32)), (.ref b1), (.ref b1)])) _
    refine X15.ldcInt hx hown (mvT hZ (hw _ (List.mem_of_getElem? (i := 10) rfl))) (g := (mkF m 84 #[.val (.int p0), .val (.int p1), .val (.int p2), .unset, .unset] [(.int (14 : Int32)), (.ref b1), (.ref b1)])) rfl (hb hby at_84) _ ?_
    show Steps p.tables e below (T15.setTop (mkF m 86 #[.val (.int p0), .val (.int p1), .val (.int p2), .unset, .unset] [(.int (1114112 : Int32)), (.int (14 : Int32)), (.ref b1), (.ref b1)])) _
    refine st16 _ ?_
    show Steps p.tables e below (T16.setTop (mkF m 87 #[.val (.int p0), .val (.int p1), .val (.int p2), .unset, .unset] [(.ref b1)])) _
    refine XS.dup X16.here hx rfl (hb hby at_87) rfl rfl ?_
    show Steps p.tables e below (T16.setTop (mkF m 88 #[.val (.int p0), .val (.int p1), .val (.int p2), .unset, .unset] [(.ref b1), (.ref b1)])) _
    refine XS.bipush X16.here hx rfl (hb hby at_88) ?_
    show Steps p.tables e below (T16.setTop (mkF m 90 #[.val (.int p0), .val (.int p1), .val (.int p2), .unset, .unset] [(.int (15 : Int32)), (.ref b1), (.ref b1)])) _
    refine X16.ldcInt hx hown (mvT hZ (hw _ (List.mem_of_getElem? (i := 11) rfl))) (g := (mkF m 90 #[.val (.int p0), .val (.int p1), .val (.int p2), .unset, .unset] [(.int (15 : Int32)), (.ref b1), (.ref b1)])) rfl (hb hby at_90) _ ?_
    show Steps p.tables e below (T16.setTop (mkF m 92 #[.val (.int p0), .val (.int p1), .val (.int p2), .unset, .unset] [(.int (-2147483648 : Int32)), (.int (15 : Int32)), (.ref b1), (.ref b1)])) _
    refine st17 _ ?_
    show Steps p.tables e below (T17.setTop (mkF m 93 #[.val (.int p0), .val (.int p1), .val (.int p2), .unset, .unset] [(.ref b1)])) _
    refine XS.dup X17.here hx rfl (hb hby at_93) rfl rfl ?_
    show Steps p.tables e below (T17.setTop (mkF m 94 #[.val (.int p0), .val (.int p1), .val (.int p2), .unset, .unset] [(.ref b1), (.ref b1)])) _
    refine XS.bipush X17.here hx rfl (hb hby at_94) ?_
    show Steps p.tables e below (T17.setTop (mkF m 96 #[.val (.int p0), .val (.int p1), .val (.int p2), .unset, .unset] [(.int (16 : Int32)), (.ref b1), (.ref b1)])) _
    refine X17.ldcInt hx hown (mvT hZ (hw _ (List.mem_of_getElem? (i := 12) rfl))) (g := (mkF m 96 #[.val (.int p0), .val (.int p1), .val (.int p2), .unset, .unset] [(.int (16 : Int32)), (.ref b1), (.ref b1)])) rfl (hb hby at_96) _ ?_
    show Steps p.tables e below (T17.setTop (mkF m 98 #[.val (.int p0), .val (.int p1), .val (.int p2), .unset, .unset] [(.int (2147483647 : Int32)), (.int (16 : Int32)), (.ref b1), (.ref b1)])) _
    refine st18 _ ?_
    show Steps p.tables e below (T18.setTop (mkF m 99 #[.val (.int p0), .val (.int p1), .val (.int p2), .unset, .unset] [(.ref b1)])) _
    refine XS.dup X18.here hx rfl (hb hby at_99) rfl rfl ?_
    show Steps p.tables e below (T18.setTop (mkF m 100 #[.val (.int p0), .val (.int p1), .val (.int p2), .unset, .unset] [(.ref b1), (.ref b1)])) _
    refine XS.bipush X18.here hx rfl (hb hby at_100) ?_
    show Steps p.tables e below (T18.setTop (mkF m 102 #[.val (.int p0), .val (.int p1), .val (.int p2), .unset, .unset] [(.int (17 : Int32)), (.ref b1), (.ref b1)])) _
    refine XS.iconst X18.here hx rfl (hb hby at_102) ?_
    show Steps p.tables e below (T18.setTop (mkF m 103 #[.val (.int p0), .val (.int p1), .val (.int p2), .unset, .unset] [(.int (-1 : Int32)), (.int (17 : Int32)), (.ref b1), (.ref b1)])) _
    refine st19 _ ?_
    show Steps p.tables e below (T19.setTop (mkF m 104 #[.val (.int p0), .val (.int p1), .val (.int p2), .unset, .unset] [(.ref b1)])) _
    refine XS.astoreN X19.here hx rfl (hb hby at_104) rfl rfl (l' := #[.val (.int p0), .val (.int p1), .val (.int p2), .val (.ref b1), .unset]) rfl ?_
    show Steps p.tables e below (T19.setTop (mkF m 105 #[.val (.int p0), .val (.int p1), .val (.int p2), .val (.ref b1), .unset] [])) _
    refine XS.iloadN X19.here hx rfl (hb hby at_105) rfl ?_
    show Steps p.tables e below (T19.setTop (mkF m 106 #[.val (.int p0), .val (.int p1), .val (.int p2), .val (.ref b1), .unset] [(.int p1)])) _
    refine XS.iconst X19.here hx rfl (hb hby at_106) ?_
    show Steps p.tables e below (T19.setTop (mkF m 107 #[.val (.int p0), .val (.int p1), .val (.int p2), .val (.ref b1), .unset] [(.int (1 : Int32)), (.int p1)])) _
    refine XS.iand X19.here hx rfl (hb hby at_107) rfl ?_
    show Steps p.tables e below (T19.setTop (mkF m 108 #[.val (.int p0), .val (.int p1), .val (.int p2), .val (.ref b1), .unset] [(.int (p1 &&& (1 : Int32)))])) _
    refine stJ _ ?_
    show Steps p.tables e below (T19.setTop (mkF m 131 #[.val (.int p0), .val (.int p1), .val (.int p2), .val (.ref b1), .val (.int cv)] [])) _
    refine XS.iload X19.here hx rfl (hb hby at_131) rfl ?_
    show Steps p.tables e below (T19.setTop (mkF m 133 #[.val (.int p0), .val (.int p1), .val (.int p2), .val (.ref b1), .val (.int cv)] [(.int cv)])) _
    refine st21 _ ?_
    show Steps p.tables e below (T21.setTop (mkF m 136 #[.val (.int p0), .val (.int p1), .val (.int p2), .val (.ref b1), .val (.int cv)] [(.int (nar .boolean (own_fA_0 cv)))])) _
    refine XS.iload X21.here hx rfl (hb hby at_136) rfl ?_
    show Steps p.tables e below (T21.setTop (mkF m 138 #[.val (.int p0), .val (.int p1), .val (.int p2), .val (.ref b1), .val (.int cv)] [(.int cv), (.int (nar .boolean (own_fA_0 cv)))])) _
    refine st22 _ ?_
    show Steps p.tables e below (T22.setTop (mkF m 141 #[.val (.int p0), .val (.int p1), .val (.int p2), .val (.ref b1), .val (.int cv)] [(.int (nar .boolean (own_fB_0 cv))), (.int (nar .boolean (own_fA_0 cv)))])) _
    refine XS.icmpNo X22.here hx rfl (hb hby at_141) rfl (teq (own_same cv)).2 ?_
    show Steps p.tables e below (T22.setTop (mkF m 144 #[.val (.int p0), .val (.int p1), .val (.int p2), .val (.ref b1), .val (.int cv)] [])) _
    refine XS.iconst X22.here hx rfl (hb hby at_144) ?_
    show Steps p.tables e below (T22.setTop (mkF m 145 #[.val (.int p0), .val (.int p1), .val (.int p2), .val (.ref b1), .val (.int cv)] [(.int (1 : Int32))])) _
    refine XS.goto X22.here hx rfl (pc0 := 145) (pc' := 149) rfl (hb hby at_145) (by decide) (by decide) ?_
    show Steps p.tables e below (T22.setTop (mkF m 149 #[.val (.int p0), .val (.int p1), .val (.int p2), .val (.ref b1), .val (.int cv)] [(.int (1 : Int32))])) _
    exact retN X22 hx (t := .boolean) Bd.returns (by simp) (hb hby at_149) hr
  · exact ⟨rfl, N22⟩
set_option maxRecDepth 65536 in
set_option maxHeartbeats 40000000 in
theorem own_comes {Post : Tables → Env → Array Value → State → Outcome → State → Prop} (hpost : ∀ tb e args s v u, (limb_1_1.after args s (.returned v) u = true ∧ limb_1_2.after args s (.returned v) u = true ∧ True) → FrameEnd s (.returned v) u (Jvm.fieldLocs frame_1_writes args s ++ Jvm.arrayLocs frame_1_arrays args s ++ Jvm.staticLocs frame_1_statics s) 16 128 → Post tb e args s (.returned v) u) :
    ArmFor flags0 classFile x code maxLocals ret World_1 tables_1 room_1 Calls_1 rest_1 Pre_1 Post := by
  intro l hfl _ _ p e ha hc hk s m args below hf hA hF happ hP
  obtain ⟨hcalls, hrest, hpre⟩ := hP
  obtain ⟨-, -, -, hnamed, -, -, -, hat⟩ := (Spec.applies_iff hf).mp happ
  obtain ⟨hg, hn⟩ := and_e (Cond.before_iff.mp (show (Jvm.Cond.and given_1 narrow_1).before args s = true from hpre))
  obtain ⟨g0, k0⟩ := and_e hg
  obtain ⟨q0, k1⟩ := and_e k0
  obtain ⟨q1, k2⟩ := and_e k1
  obtain ⟨w0, w1, w2, rfl⟩ : ∃ w0 w1 w2 : Value, args = #[w0, w1, w2] := by
    have hs : args.size = 3 := by simpa [Cond.value, given_1] using g0
    obtain ⟨L⟩ := args
    match L, hs with
    | [w0, w1, w2], _ => exact ⟨w0, w1, w2, rfl⟩
  have hw := fun d (hd : d ∈ tables_1) => atoms_spec (ws := Jvm.Cond.code x code maxLocals ret :: tables_1) hat d (List.mem_cons_of_mem _ hd)
  obtain ⟨i0, ei0⟩ := is_v q0
  obtain rfl : w0 = (.int i0) := Option.some.inj ei0
  obtain ⟨i1, ei1⟩ := is_v q1
  obtain rfl : w1 = (.int i1) := Option.some.inj ei1
  obtain ⟨i2, ei2⟩ := is_v k2
  obtain rfl : w2 = (.int i2) := Option.some.inj ei2
  obtain ⟨n, o, h1, h2, h3, _, L, rfl, ⟨rfl, N⟩, hq⟩ := own_rm0 l s _ hw tables_1 i0 i1 i2 s.heap s.heap.size (Nat.le_refl _) p e ha hc hk s m _ below hf ((Spec.applies_iff_loose hf).mp happ).1 ⟨rfl, State.Warmed39.refl s, rfl⟩ trivial
  refine ⟨n, _, h1, h2, h3, hpost _ _ _ _ _ _ ⟨Cond.after_iff.mpr rfl, Cond.after_iff.mpr (eq_i res_at (Term.int_eval (1)) rfl), trivial⟩ ⟨hq.1, hq.2.1, (hq.2.2.sift fun y hy => Or.inr (N y hy)).mono (by decide) (by decide)⟩⟩
theorem main_1_1 : Claimed_1_1 := own_comes fun _ _ _ _ _ _ h hF => ⟨h.1, hF⟩
theorem main_1_2 : Claimed_1_2 := own_comes fun _ _ _ _ _ _ h hF => ⟨h.2.1, hF⟩
end Jvm.Pilot.@@N@@
namespace Jvm.Pilot.@@N@@
open Jvm Jvm.ClassFile Sem Op Lib Jvm.Free Jvm.Stand Jvm.Pilot.@@N@@.Jvm.D
/-! MADE BY PROGRAM (witnessworld.py) out of the Statement's table words and the real class files: 9 classes; the members and pool entries that the words name. The judged class is class 1, her method 1. -/
namespace start1
open Jvm.ClassFile
def u (s : String) : CpInfo := .utf8 (stringToUtf16 s)
/-- a pool by its gaps: so many unusable entries, then the entry; so many at the end -/
def gap : Nat → List CpInfo → List CpInfo
  | 0, r => r
  | n + 1, r => .unusable :: gap n r
def poolList (es : List (Nat × CpInfo)) (last : Nat) : List CpInfo := es.foldr (fun e r => gap e.1 (e.2 :: r)) (gap last [])
def pool (es : List (Nat × CpInfo)) (last : Nat) : Array CpInfo := ⟨poolList es last⟩
def fileOf (pool : Array CpInfo) (this : Nat) (attrs : Array Attribute := #[]) (ms : Array MethodInfo := #[]) (fl : Nat := 33) (sup : Nat := 0) (ifs : Array Nat := #[]) (fds : Array FieldInfo := #[]) : ClassFile where
  minorVersion := 0
  majorVersion := 65
  constantPool := pool
  accessFlags := fl
  thisClass := this
  superClass := sup
  interfaces := ifs
  fields := fds
  methods := ms
  attributes := attrs
def plain (name : String) (sup : Option ClassId) : Class where
  name := name
  kind := .ordinary
  loader := none
  accessFlags := 33
  super := sup
  interfaces := #[]
  cf := none
  fields := #[]
  methods := #[]
  instanceTypes := #[]
  staticTypes := #[]
  resolved := #[]
  callSites := []
  init := .initialized
  statics := none
  mirror := none

def pool0 : Array CpInfo := pool [(5, u "<init>"), (0, u "()V"), (1, .class_ 10), (1, u "java/lang/Object")] 113

def k0m0 : Method := { name := "<init>", desc := "()V", sig := { parameters := [], returnType := none }, accessFlags := 1, code := none }
/-- java/lang/Object -/
def k0 : Class := { plain "java/lang/Object" none with
  accessFlags := 33
  interfaces := #[]
  cf := some (fileOf pool0 8 #[] #[{ accessFlags := 1, nameIndex := 5, descriptorIndex := 6, attributes := #[] }] 33 0 #[] #[])
  fields := #[]
  methods := #[k0m0]
  instanceTypes := #[]
  staticTypes := #[]
  resolved := Array.replicate 124 none
  statics := none }

def pool1 : Array CpInfo := pool [(2, .class_ 4), (1, u "java/lang/Object"), (0, u "<init>"), (0, u "()V"), (0, .integer 55295), (0, .integer 55296), (0, .integer 57343), (0, .integer 57344), (0, .integer 65533), (0, .integer 65534), (0, .integer 65535), (0, .integer 65536), (0, .integer 1114111), (0, .integer 1114112), (2, .integer 2147483648), (0, .integer 2147483647), (0, .methodref 22 23), (0, .class_ 24), (0, .nameAndType 25 26), (0, u "com/example/amberwire/amberwire/core/text/XmlCharacters"), (0, u "isChar"), (0, u "(I)Z"), (0, .methodref 28 29), (0, .class_ 30), (0, .nameAndType 31 26), (0, u "com/example/amberwire/amberwire/core/text/XmlCharactersIsCharPinLaw"), (0, u "expected"), (2, u "law"), (0, u "(III)Z")] 5

def k1m0 : Method := { name := "<init>", desc := "()V", sig := { parameters := [], returnType := none }, accessFlags := 2, code := none }
def k1c1 : Code := { maxStack := 4, maxLocals := 5, code := code, exceptionTable := #[], attributes := #[] }
def k1m1 : Method := { name := "law", desc := "(III)Z", sig := { parameters := [.int, .int, .int], returnType := some .boolean }, accessFlags := 9, code := some k1c1 }
def k1c2 : Code := { maxStack := 2, maxLocals := 5, code := method_3_code, exceptionTable := #[], attributes := #[] }
def k1m2 : Method := { name := "expected", desc := "(I)Z", sig := { parameters := [.int], returnType := some .boolean }, accessFlags := 10, code := some k1c2 }
/-- com/example/amberwire/amberwire/core/text/XmlCharactersIsCharPinLaw -/
def k1 : Class := { plain "com/example/amberwire/amberwire/core/text/XmlCharactersIsCharPinLaw" (some 0) with
  accessFlags := 49
  interfaces := #[]
  cf := some (fileOf pool1 28 #[] #[{ accessFlags := 2, nameIndex := 5, descriptorIndex := 6, attributes := #[] }, { accessFlags := 9, nameIndex := 34, descriptorIndex := 35, attributes := #[] }, { accessFlags := 10, nameIndex := 31, descriptorIndex := 26, attributes := #[] }] 49 2 #[] #[])
  fields := #[]
  methods := #[k1m0, k1m1, k1m2]
  instanceTypes := #[]
  staticTypes := #[]
  resolved := Array.replicate 41 none
  statics := none }

def pool2 : Array CpInfo := pool [(2, .class_ 4), (1, u "java/lang/Object"), (0, u "<init>"), (0, u "()V"), (0, .integer 55295), (0, .integer 57344), (0, .integer 65533), (0, .integer 65536), (2, .integer 1114111), (1, .class_ 17), (1, u "com/example/amberwire/amberwire/core/text/XmlCharacters"), (1, u "(I)Z"), (34, u "NEXT_LINE"), (0, u "I"), (4, u "isChar")] 6

def k2m0 : Method := { name := "<init>", desc := "()V", sig := { parameters := [], returnType := none }, accessFlags := 2, code := none }
def k2c1 : Code := { maxStack := 2, maxLocals := 1, code := prog_167_method_2_code, exceptionTable := #[], attributes := #[] }
def k2m1 : Method := { name := "isChar", desc := "(I)Z", sig := { parameters := [.int], returnType := some .boolean }, accessFlags := 9, code := some k2c1 }
/-- com/example/amberwire/amberwire/core/text/XmlCharacters -/
def k2 : Class := { plain "com/example/amberwire/amberwire/core/text/XmlCharacters" (some 0) with
  accessFlags := 49
  interfaces := #[]
  cf := some (fileOf pool2 15 #[] #[{ accessFlags := 2, nameIndex := 5, descriptorIndex := 6, attributes := #[] }, { accessFlags := 9, nameIndex := 60, descriptorIndex := 19, attributes := #[] }] 49 2 #[] #[{ accessFlags := 26, nameIndex := 54, descriptorIndex := 55, attributes := #[] }])
  fields := #[{ name := "NEXT_LINE", type := .int, accessFlags := 26, slot := 0, constantValue := 0 }]
  methods := #[k2m0, k2m1]
  instanceTypes := #[]
  staticTypes := #[.int]
  resolved := Array.replicate 67 none
  statics := none }

def pool3 : Array CpInfo := pool [(1, u "java/lang/Cloneable"), (0, .class_ 1), (0, u "java/lang/Object"), (0, .class_ 3)] 3

/-- java/lang/Cloneable -/
def k3 : Class := { plain "java/lang/Cloneable" (some 0) with
  accessFlags := 1537
  interfaces := #[]
  cf := some (fileOf pool3 2 #[] #[] 1537 4 #[] #[])
  fields := #[]
  methods := #[]
  instanceTypes := #[]
  staticTypes := #[]
  resolved := Array.replicate 8 none
  statics := none }

def pool4 : Array CpInfo := pool [(1, u "java/io/Serializable"), (0, .class_ 1), (0, u "java/lang/Object"), (0, .class_ 3)] 3

/-- java/io/Serializable -/
def k4 : Class := { plain "java/io/Serializable" (some 0) with
  accessFlags := 1537
  interfaces := #[]
  cf := some (fileOf pool4 2 #[] #[] 1537 4 #[] #[])
  fields := #[]
  methods := #[]
  instanceTypes := #[]
  staticTypes := #[]
  resolved := Array.replicate 8 none
  statics := none }

/-- the primitive byte -/
def k5 : Class := { plain "byte" none with kind := .primitive 'B', accessFlags := 0x411 }
/-- [B -/
def k6 : Class := { plain "[B" (some 0) with kind := .array 5 .byte, interfaces := #[3, 4], accessFlags := 1041 }

/-- the primitive int -/
def k7 : Class := { plain "int" none with kind := .primitive 'I', accessFlags := 0x411 }
/-- [I -/
def k8 : Class := { plain "[I" (some 0) with kind := .array 7 .int, interfaces := #[3, 4], accessFlags := 1041 }

def heap : Heap := #[]
def classes : Array Class := #[k0, k1, k2, k3, k4, k5, k6, k7, k8]
def interned : List (Array UInt16 × Addr) := []
def slotsUsed : Nat := 0
def theMethod : MethodId := ⟨1, 1⟩
def args0 : Array Value := #[.int 65, .int 3, .int 2]
def aboutOver (below : List Frame) : State where
  vm := { classes := classes, interned := interned.toArray }
  heap := heap
  slotsUsed := slotsUsed
  threads := #[{ frames := .invoking theMethod args0 :: below }]
def below0 : List Frame := [.native { method := ⟨0, 0⟩, args := #[] }]
def about1 : State := aboutOver below0
def p0 : Program := .bare "" "" ""
def e0 : Env := launch0.env 0 0 0
theorem w_frames : about1.frames = Frame.invoking theMethod args0 :: below0 := rfl
set_option maxRecDepth 65536 in
theorem w_args : argsFit about1.vm theMethod args0 = true := by decide +kernel
set_option maxRecDepth 65536 in
theorem w_heap : heapFits about1 = true := by decide +kernel
set_option maxRecDepth 65536 in
theorem w_runnable : about1.curStatus? = some .runnable := by decide +kernel
set_option maxRecDepth 65536 in
theorem w_alone : about1.alone = true := by decide +kernel
set_option maxRecDepth 65536 in
theorem w_named : about1.methodNamed? x = some theMethod := by decide +kernel
set_option maxRecDepth 65536 in
theorem w_hears : about1.hears theMethod below0 = true := by decide +kernel
set_option maxRecDepth 65536 in
theorem w_ripe : about1.ripe theMethod args0 below0 = true := by decide +kernel
theorem w_running : about1.status = .running := rfl
set_option maxRecDepth 65536 in
theorem w_room : about1.hasRoom e0.platform room_1 = true :=
  launch0.hasRoom_least _ room_1 (by decide +kernel) (by decide +kernel) (by decide +kernel) (by decide +kernel) (by decide +kernel) (by decide +kernel)
theorem allAtoms_all (ts : List Jvm.Cond) (a : Array Jvm.Value) (st : Jvm.State) : (allAtoms ts).before a st = ts.all (fun c => c.before a st) := by
  induction ts with
  | nil => rfl
  | cons c t ih =>
    show (Jvm.Cond.and c (allAtoms t)).before a st = _
    rw [Jvm.Cond.before_and, ih, List.all_cons]
def words1 : List Jvm.Cond := Jvm.Cond.code x code maxLocals ret :: tables_1
/-- a 'code' word, met by the world's own term for the bytes: nothing is compared byte by byte -/
theorem code_word {y : MethodName} {bytes : ByteArray} {mx : Nat} {rt : Option FieldType} {a : Array Value} {s : State} {m : MethodId} {meth : Method} {c : Code} (h1 : s.methodNamed? y = some m) (h2 : s.vm.method? m = some meth) (h3 : meth.code = some c) (h4 : c.code = bytes)
    (h5 : (c.maxLocals == mx && c.exceptionTable.isEmpty && decide (c.maxStack ≤ mostOperands) && decide (meth.sig.returnType = rt) && !meth.locks && decide (parseMethodDescriptor y.desc = some meth.sig)) = true) : (Jvm.Cond.code y bytes mx rt).before a s = true := by
  simp only [Bool.and_eq_true, beq_iff_eq, Bool.not_eq_true', decide_eq_true_eq] at h5
  obtain ⟨⟨⟨⟨⟨g1, g2⟩, g3⟩, g4⟩, g5⟩, g6⟩ := h5
  simp [Cond.before, Cond.holds, Cond.value, h1, h2, h3, h4, g1, g2, g3, g4, g5, g6]
def isCode : Jvm.Cond → Bool
  | .code _ _ _ _ => true
  | _ => false
theorem all_split {L : List Jvm.Cond} {P : Jvm.Cond → Bool} (h1 : L.all (fun c => isCode c || P c) = true) (h2 : ∀ c ∈ L.filter isCode, P c = true) : L.all P = true := by
  refine List.all_eq_true.mpr fun c hc => ?_
  have h := List.all_eq_true.mp h1 c hc
  rcases Bool.eq_false_or_eq_true (isCode c) with hi | hi
  · exact h2 c (List.mem_filter.mpr ⟨hc, hi⟩)
  · simpa [hi] using h
set_option maxRecDepth 65536 in
theorem w_c0 : (Jvm.Cond.code x code maxLocals ret).before args0 about1 = true := code_word (m := ⟨1, 1⟩) (meth := k1m1) (c := k1c1) (by decide +kernel) rfl rfl rfl (by decide +kernel)
set_option maxRecDepth 65536 in
theorem w_c1 : (Jvm.Cond.code ({ cls := "com/example/amberwire/amberwire/core/text/XmlCharacters", name := "isChar", desc := "(I)Z" } : Jvm.MethodName) prog_167_method_2_code (1 : Nat) (Option.some Jvm.ClassFile.FieldType.boolean)).before args0 about1 = true := code_word (m := ⟨2, 1⟩) (meth := k2m1) (c := k2c1) (by decide +kernel) rfl rfl rfl (by decide +kernel)
set_option maxRecDepth 65536 in
theorem w_c2 : (Jvm.Cond.code ({ cls := "com/example/amberwire/amberwire/core/text/XmlCharactersIsCharPinLaw", name := "expected", desc := "(I)Z" } : Jvm.MethodName) method_3_code (5 : Nat) (Option.some Jvm.ClassFile.FieldType.boolean)).before args0 about1 = true := code_word (m := ⟨1, 2⟩) (meth := k1m2) (c := k1c2) (by decide +kernel) rfl rfl rfl (by decide +kernel)
def codes1 : List Jvm.Cond := [Jvm.Cond.code x code maxLocals ret, Jvm.Cond.code ({ cls := "com/example/amberwire/amberwire/core/text/XmlCharacters", name := "isChar", desc := "(I)Z" } : Jvm.MethodName) prog_167_method_2_code (1 : Nat) (Option.some Jvm.ClassFile.FieldType.boolean), Jvm.Cond.code ({ cls := "com/example/amberwire/amberwire/core/text/XmlCharactersIsCharPinLaw", name := "expected", desc := "(I)Z" } : Jvm.MethodName) method_3_code (5 : Nat) (Option.some Jvm.ClassFile.FieldType.boolean)]
set_option maxRecDepth 65536 in
theorem codes_eq : words1.filter isCode = codes1 := rfl
theorem w_codes : ∀ c ∈ words1.filter isCode, c.before args0 about1 = true := by
  rw [codes_eq]
  intro c hc
  simp only [codes1, List.mem_cons, List.not_mem_nil, or_false] at hc
  rcases hc with rfl | rfl | rfl
  · exact w_c0
  · exact w_c1
  · exact w_c2
set_option maxRecDepth 65536 in
theorem w_t1 : (words1.take 24).all (fun c => isCode c || c.before args0 about1) = true := by decide +kernel
set_option maxRecDepth 65536 in
theorem w_t2 : (words1.drop 24).all (fun c => isCode c || c.before args0 about1) = true := by decide +kernel
theorem w_tables : (allAtoms (Jvm.Cond.code x code maxLocals ret :: tables_1)).before args0 about1 = true := by
  rw [allAtoms_all]
  show words1.all (fun c => c.before args0 about1) = true
  refine all_split ?_ w_codes
  rw [← List.take_append_drop 24 words1, List.all_append, w_t1, w_t2]
  rfl
set_option maxRecDepth 65536 in
theorem w_case : (Jvm.Cond.and given_1 narrow_1).before args0 about1 = true := by decide +kernel
theorem w_applies : (headSpec (Jvm.Cond.code x code maxLocals ret :: tables_1) room_1).applies x e0.platform about1 = true :=
  (Spec.applies_iff w_frames).mpr ⟨w_running, w_runnable, w_alone, w_named, w_hears, w_ripe, w_room, w_tables⟩
theorem atStart : AtStart classFile x code maxLocals ret World_1 tables_1 room_1 Calls_1 rest_1 Pre_1 launch0 p0 e0 about1 theMethod args0 below0 :=
  ⟨lists_1, trivial, launch0.admits_env _ _ _, launch0.least_env, fairChoices_fair.cas, fairChoices_fair.clock, w_frames, w_args, w_heap, w_applies, trivial, trivial, w_case⟩
end start1
theorem witness_1 : WitnessClaimed_1 := ⟨start1.p0, start1.e0, start1.about1, start1.theMethod, start1.args0, start1.below0, start1.atStart⟩
end Jvm.Pilot.@@N@@
