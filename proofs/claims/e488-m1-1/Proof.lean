import JvmDerived
import JvmDerived.Pilot.@@N@@Statement
import JvmDerived.Pilot.@@N@@Code
set_option linter.unusedVariables false
set_option linter.unusedSimpArgs false
namespace Jvm.RoadKit
open Sem ClassFile Op Lib Jvm.Stand Jvm.Free Jvm.LawKit
section New
variable {p : Program} {l : Launch} {e : Env} {R : Room} {s : State} {m : MethodId} {args : Array Value} {below : List Frame} {meth : Method} {c : Code} {T : State} {locs : List Loc} {cells slots : Nat}
theorem retI (X : Stand p l e R s m args below meth c T locs cells slots) (hx : p.tables.exec = Jvm.exec) {pc : Nat} {Ls : Array Slot} {z : Int32} {rest : List Value} (hret : meth.sig.returnType = some .int) (hd : decode c.code pc = .ok (.ireturn, 1)) {fs : List Frame}
    (hl : ∀ (f : JFrame) (acts : List Action), f.method = m → f.locked = none → f.entered = [] → (doReturn e (T.setTop f) acts (some (.int z))).1 = T.setFrames fs) : Steps p.tables e below (T.setTop (mkF m pc Ls (.int z :: rest))) (T.setFrames fs) := by
  have hm' : T.vm.method? m = some meth := X.method'
  have hn : narrow .int (.int z) = .int z := rfl
  show Steps p.tables e below (T.setTop { method := m, pc := pc, locals := Ls, stack := _ :: rest, locked := none }) _
  jvm_step X.here [X.here.top, hx, hd, hm', hret, hn]
  first | (intro acts; rw [hl _ acts rfl rfl rfl]) | rw [hl _ _ rfl rfl rfl]
  exact Steps.refl _
end New
end Jvm.RoadKit
namespace Jvm.Pilot.@@N@@
open Jvm Jvm.ClassFile Sem Op Lib Jvm.Free Jvm.Stand Jvm.LawKit Jvm.RoadKit Bundle Jvm.Pilot.@@N@@.Jvm.D
theorem own_tf (b : Bool) : b = true ∨ b = false := by cases b <;> simp
theorem own_t {b : Bool} {x y z : Int32} (h : b = true) (k : x = z) : (bif b then x else y) = z := by subst h; exact k
theorem own_f {b : Bool} {x y z : Int32} (h : b = false) (k : y = z) : (bif b then x else y) = z := by subst h; exact k
theorem own_ltT {x y : Int32} {n : Int} (hy : y.toInt = n) (h : x.toInt < n) : if_icmp.holds .lt x y = true := (tlt (Int32.lt_iff_toInt_lt.mpr (by rw [hy]; exact h))).1
theorem own_ltF {x y : Int32} {n : Int} (hy : y.toInt = n) (h : n ≤ x.toInt) : if_icmp.holds .lt x y = false := (flt (fun q => absurd (Int32.lt_iff_toInt_lt.mp q) (by rw [hy]; exact Int.not_lt.mpr h))).1
theorem own_geT {x y : Int32} {n : Int} (hy : y.toInt = n) (h : n ≤ x.toInt) : if_icmp.holds .ge x y = true := (flt (fun q => absurd (Int32.lt_iff_toInt_lt.mp q) (by rw [hy]; exact Int.not_lt.mpr h))).2.1
theorem own_geF {x y : Int32} {n : Int} (hy : y.toInt = n) (h : x.toInt < n) : if_icmp.holds .ge x y = false := (tlt (Int32.lt_iff_toInt_lt.mpr (by rw [hy]; exact h))).2.1
theorem own_gtT {x y : Int32} {n : Int} (hy : y.toInt = n) (h : n < x.toInt) : if_icmp.holds .gt x y = true := (tlt (Int32.lt_iff_toInt_lt.mpr (by rw [hy]; exact h))).2.2.1
theorem own_gtF {x y : Int32} {n : Int} (hy : y.toInt = n) (h : x.toInt ≤ n) : if_icmp.holds .gt x y = false := (flt (fun q => absurd (Int32.lt_iff_toInt_lt.mp q) (by rw [hy]; exact Int.not_lt.mpr h))).2.2.1
theorem own_leT {x y : Int32} {n : Int} (hy : y.toInt = n) (h : x.toInt ≤ n) : if_icmp.holds .le x y = true := (flt (fun q => absurd (Int32.lt_iff_toInt_lt.mp q) (by rw [hy]; exact Int.not_lt.mpr h))).2.2.2
theorem own_leF {x y : Int32} {n : Int} (hy : y.toInt = n) (h : n < x.toInt) : if_icmp.holds .le x y = false := (tlt (Int32.lt_iff_toInt_lt.mpr (by rw [hy]; exact h))).2.2.2
theorem own_eqT {x y : Int32} {n : Int} (hy : y.toInt = n) (h : x.toInt = n) : if_icmp.holds .eq x y = true := (teq (Int32.toInt_inj.mp (h.trans hy.symm))).1
theorem own_eqF {x y : Int32} {n : Int} (hy : y.toInt = n) (h : x.toInt ≠ n) : if_icmp.holds .eq x y = false := (feq (fun q => h (by rw [q]; exact hy))).1
theorem own_neT {x y : Int32} {n : Int} (hy : y.toInt = n) (h : x.toInt ≠ n) : if_icmp.holds .ne x y = true := (feq (fun q => h (by rw [q]; exact hy))).2
theorem own_neF {x y : Int32} {n : Int} (hy : y.toInt = n) (h : x.toInt = n) : if_icmp.holds .ne x y = false := (teq (Int32.toInt_inj.mp (h.trans hy.symm))).2
theorem own_pt {x y : Int32} {n : Int} (hy : y.toInt = n) (h : x.toInt = n) : x = y := Int32.toInt_inj.mp (h.trans hy.symm)
def own_Q (w : Option Value) (h0 : Heap) (n0 : Nat) (v : Option Value) (h : Heap) (L : List Loc) : Prop := v = w ∧ Fr n0 L ∧ h = h0
def own_Q0 (n0 : Nat) (v : Option Value) (L : List Loc) : Prop := v = some (.int (1 : Int32)) ∧ Fr n0 L
section OwnCall
variable {p : Program} {l : Launch} {e : Env} {R : Room} {s : State} {m : MethodId} {args : Array Value} {below : List Frame} {meth : Method} {c : Code} {T : State} {locs : List Loc} {cells slots : Nat} {Z : State} {a0 : Array Value} {h : Heap}
theorem own_callS (X : Stand p l e R s m args below meth c T locs cells slots) (hx : p.tables.exec = Jvm.exec) (hZ : Z.Warmed39 s.vm) {own : String} {index : Nat} {y : MethodName} {bytes : ByteArray} {maxL : Nat} {ret : Option FieldType} (hown : s.vm.findClass own = some m.cls)
    (w1 : (Jvm.Cond.methodLink own index y).before a0 Z = true) (w2 : (Jvm.Cond.static y).before a0 Z = true) (w3 : (Jvm.Cond.initialized y.cls).before a0 Z = true) (w4 : (Jvm.Cond.code y bytes maxL ret).before a0 Z = true) (hy : y.cls ≠ "java/lang/invoke/MethodHandle" ∧ y.cls ≠ "java/lang/invoke/VarHandle")
    {W fr lo n0 : Nat} {argsL : List Value} {r : Value}
    (hM : MetFree l y (head1 [Jvm.Cond.code y bytes maxL ret] ({ frames := fr, cells := 0, slots := 0, locals := lo } : Room)) (fun a U => a = argsL.toArray ∧ Z.Warmed39 U.vm ∧ U.heap = h) (fun _ _ _ _ _ => True) (fun _ U o U' => ∃ v L, o = .returned v ∧ own_Q (some r) h n0 v U'.heap L ∧ FrameEnd U o U' L ({ frames := fr, cells := 0, slots := 0, locals := lo } : Room).cells ({ frames := fr, cells := 0, slots := 0, locals := lo } : Room).slots))
    (hf : fr + 1 ≤ R.frames) (hl : W + (maxL + 11) + lo ≤ R.locals)
    {g : JFrame} (hg : g.method = m) (hsize : g.locals.size = c.maxLocals) {rest : List Value} (hlen : ∀ sig, parseMethodDescriptor y.desc = some sig → argsL.length = sig.parameters.length) (hstack : g.stack = argsL.reverse ++ rest) (hW : 2 * g.monitorRoom + (rest.map fun v => v.category).sum ≤ W) (hdg : decode c.code g.pc = .ok (.invokestatic index, 3))
    (hc : cells ≤ R.cells) (hs : slots ≤ R.slots) (eT : T.heap = h) (N : Fr n0 locs) :
    ∃ T' locs', Stand p l e R s m args below meth c T' locs' cells slots ∧ T'.heap = h ∧ Fr n0 locs' ∧ ∀ target, Steps p.tables e below (T'.setTop { g with pc := g.pc + 3, stack := r :: rest }) target → Steps p.tables e below (T.setTop g) target := by
  obtain ⟨v, vm1, ⟨T', L', k', n'⟩, -, X', ⟨Lc, ⟨rfl, N', e'⟩, l', y', z'⟩, st⟩ := Jvm.LawKit.callS X hx hown (mvT hZ w1) (mvT hZ w2) (mvT hZ w3) (mvT hZ w4) hy (backOf (W := W) hM hZ w4 w3 hf hl) hg hsize hlen hstack hW hdg (fun _ _ => ⟨rfl, eT, hc, hs⟩)
  dsimp only [Pt.U, Pt.locs, Pt.cells, Pt.slots] at X' l' y' z' st e'
  subst l' y' z'
  exact ⟨T', _, X', e', Fr.app N N', st⟩
end OwnCall
/-! an array of ints whose values don't matter -/
def own_Ints (cl : Cell) (n : Nat) : Prop := cl.slots.size = n ∧ ∀ j, j < n → ∃ z : Int32, cl.slots[j]? = some (.int z)
theorem own_ints_new (cA : ClassId) (n : Int32) (k : Nat) (hk : n.toNatClampNeg = k) : own_Ints (newA cA .int n) k := by
  subst hk
  refine ⟨sz_new _ _ _, fun j hj => ⟨0, ?_⟩⟩
  show (Array.replicate n.toNatClampNeg (Value.int 0))[j]? = _
  rw [Array.getElem?_replicate, if_pos hj]
theorem own_ints_set {cl : Cell} {n : Nat} (k : Nat) (x : Int32) (I : own_Ints cl n) : own_Ints (cl.setSlot k (.int x)) n := by
  refine ⟨(sz_set _ _ _).trans I.1, fun j hj => ?_⟩
  show ∃ z : Int32, (cl.slots.setIfInBounds k (.int x))[j]? = some (.int z)
  rw [Array.getElem?_setIfInBounds]
  by_cases q : k = j
  · subst q; rw [if_pos rfl, if_pos (by rw [I.1]; exact hj)]; exact ⟨x, rfl⟩
  · rw [if_neg q]; exact I.2 j hj
theorem own_ints_at {cl : Cell} {n : Nat} (I : own_Ints cl n) {j : Int32} (hj : ¬ (j < 0 ∨ n ≤ j.toNatClampNeg)) : ∃ z : Int32, cl.slots[j.toNatClampNeg]? = some (.int z) := I.2 _ (Nat.lt_of_not_le fun q => hj (Or.inr q))
section OwnArr
variable {p : Program} {l : Launch} {e : Env} {R : Room} {s : State} {m : MethodId} {args : Array Value} {below : List Frame} {meth : Method} {c : Code} {T : State} {locs : List Loc} {cells slots : Nat} {Z : State} {a0 : Array Value} {h : Heap}
theorem own_st (X : Stand p l e R s m args below meth c T locs cells slots) (hx : p.tables.exec = Jvm.exec) (hZ : Z.Warmed39 s.vm) (eT : T.heap = h) {a : Addr} {cl : Cell} {n n0 : Nat} (A : Arr Z h a cl .int) (I : own_Ints cl n) (N : Fr n0 locs) (ga : n0 ≤ a) {j x : Int32} (hj : ¬ (j < 0 ∨ n ≤ j.toNatClampNeg))
    {g : JFrame} (hg : g.method = m) {rest : List Value} (hs : g.stack = .int x :: .int j :: .ref a :: rest) (hd : decode c.code g.pc = .ok (.iastore, 1)) :
    ∃ T' h' cl' locs', Stand p l e R s m args below meth c T' locs' cells slots ∧ T'.heap = h' ∧ Arr Z h' a cl' .int ∧ own_Ints cl' n ∧ Fr n0 locs' ∧ ∀ target, Steps p.tables e below (T'.setTop { g with pc := g.pc + 1, stack := rest }) target → Steps p.tables e below (T.setTop g) target := by
  obtain ⟨T', h', X', e', W, st⟩ := stI X hx hZ eT A (by rw [I.1]; exact hj) hg hs hd
  exact ⟨T', h', _, _, X', e', A.same W, own_ints_set _ _ I, Fr.snoc X' N ga, st⟩
theorem own_ld (X : Stand p l e R s m args below meth c T locs cells slots) (hx : p.tables.exec = Jvm.exec) (hZ : Z.Warmed39 s.vm) (eT : T.heap = h) {a : Addr} {cl : Cell} {n : Nat} (A : Arr Z h a cl .int) (I : own_Ints cl n) {j : Int32} (hj : ¬ (j < 0 ∨ n ≤ j.toNatClampNeg)) :
    ∃ z : Int32, ∀ {g : JFrame} (hg : g.method = m) {rest : List Value} (hs : g.stack = .int j :: .ref a :: rest) (hd : decode c.code g.pc = .ok (.iaload, 1)) (target : State), Steps p.tables e below (T.setTop { g with pc := g.pc + 1, stack := .int z :: rest }) target → Steps p.tables e below (T.setTop g) target := by
  obtain ⟨z, hz⟩ := own_ints_at I hj
  exact ⟨z, fun {g} hg {rest} hs hd target k => X.iaload hx (j := j) (v := .int z) (by rw [eT]; exact A.1) (State.isArrayOf_alike hZ.alike A.2.1) A.2.2 (by rw [I.1]; exact hj) hz hg hs hd target k⟩
theorem own_len (X : Stand p l e R s m args below meth c T locs cells slots) (hx : p.tables.exec = Jvm.exec) (hZ : Z.Warmed39 s.vm) (eT : T.heap = h) {a : Addr} {cl : Cell} {n : Nat} (A : Arr Z h a cl .int) (I : own_Ints cl n) {k : Int32} (hk : n.toInt32 = k)
    {g : JFrame} (hg : g.method = m) {rest : List Value} (hs : g.stack = .ref a :: rest) (hd : decode c.code g.pc = .ok (.arraylength, 1)) (target : State) (hr : Steps p.tables e below (T.setTop { g with pc := g.pc + 1, stack := .int k :: rest }) target) : Steps p.tables e below (T.setTop g) target := by
  refine X.arraylength hx (by rw [eT]; exact A.1) (State.isArrayOf_alike hZ.alike A.2.1) hg hs hd target ?_
  rw [I.1, hk]; exact hr
end OwnArr
theorem own_rem_in {a m : Int32} {n : Nat} (ha : 0 ≤ a.toInt) (hm : m.toInt = n) (hn : 0 < n) : ¬ ((a - (a / m) * m) < 0 ∨ n ≤ (a - (a / m) * m).toNatClampNeg) := by
  have h1 : (a - (a / m) * m).toInt = a.toInt.tmod m.toInt := rem_toInt a m
  rw [hm, Int.tmod_eq_emod_of_nonneg ha] at h1
  have h2 := Int.emod_nonneg a.toInt (b := (n : Int)) (by omega)
  have h3 := Int.emod_lt_of_pos a.toInt (b := (n : Int)) (by omega)
  rintro (q | q)
  · have q2 := Int32.lt_iff_toInt_lt.mp q
    rw [h1] at q2
    have : (0 : Int32).toInt = 0 := rfl
    omega
  · have q2 : (a - (a / m) * m).toNatClampNeg = (a - (a / m) * m).toInt.toNat := rfl
    rw [q2, h1] at q
    omega
theorem own_nn_of {x : Int32} (h : x.toBitVec.msb = false) : 0 ≤ x.toInt := by
  have q := BitVec.msb_eq_toInt (x := x.toBitVec)
  rw [h] at q
  have q2 := of_decide_eq_false q.symm
  show 0 ≤ x.toBitVec.toInt
  omega
theorem own_nn_and (a : Int32) : 0 ≤ (a &&& (2147483647 : Int32)).toInt := own_nn_of (by rw [Int32.toBitVec_and, BitVec.msb_and]; exact Bool.and_false _)
theorem own_nn_shr (a : Int32) : 0 ≤ ((a.toUInt32 >>> ((1 : Int32) &&& 31).toUInt32).toInt32).toInt := own_nn_of (by
  show (a.toUInt32 >>> ((1 : Int32) &&& 31).toUInt32).toBitVec.msb = false
  rw [BitVec.msb_eq_false_iff_two_mul_lt]
  show 2 * (a.toUInt32 >>> ((1 : Int32) &&& 31).toUInt32).toNat < _
  rw [UInt32.toNat_shiftRight]
  have h1 : ((1 : Int32) &&& 31).toUInt32.toNat % 32 = 1 := by decide
  rw [h1, Nat.shiftRight_eq_div_pow]
  have h2 := a.toUInt32.toNat_lt
  omega)

theorem own_dA_0 : decode prog_251_method_4_code 0 = .ok (.iload_n 0, 1) := by decide +kernel
theorem own_dA_1 : decode prog_251_method_4_code 1 = .ok (.bipush 97, 2) := by decide +kernel
theorem own_dA_3 : decode prog_251_method_4_code 3 = .ok (.if_icmp .lt 9, 3) := by decide +kernel
theorem own_dA_6 : decode prog_251_method_4_code 6 = .ok (.iload_n 0, 1) := by decide +kernel
theorem own_dA_7 : decode prog_251_method_4_code 7 = .ok (.bipush 122, 2) := by decide +kernel
theorem own_dA_9 : decode prog_251_method_4_code 9 = .ok (.if_icmp .le 182, 3) := by decide +kernel
theorem own_dA_12 : decode prog_251_method_4_code 12 = .ok (.iload_n 0, 1) := by decide +kernel
theorem own_dA_13 : decode prog_251_method_4_code 13 = .ok (.bipush 65, 2) := by decide +kernel
theorem own_dA_15 : decode prog_251_method_4_code 15 = .ok (.if_icmp .lt 9, 3) := by decide +kernel
theorem own_dA_18 : decode prog_251_method_4_code 18 = .ok (.iload_n 0, 1) := by decide +kernel
theorem own_dA_19 : decode prog_251_method_4_code 19 = .ok (.bipush 90, 2) := by decide +kernel
theorem own_dA_21 : decode prog_251_method_4_code 21 = .ok (.if_icmp .le 170, 3) := by decide +kernel
theorem own_dA_24 : decode prog_251_method_4_code 24 = .ok (.iload_n 0, 1) := by decide +kernel
theorem own_dA_25 : decode prog_251_method_4_code 25 = .ok (.bipush 95, 2) := by decide +kernel
theorem own_dA_27 : decode prog_251_method_4_code 27 = .ok (.if_icmp .eq 164, 3) := by decide +kernel
theorem own_dA_30 : decode prog_251_method_4_code 30 = .ok (.iload_n 0, 1) := by decide +kernel
theorem own_dA_31 : decode prog_251_method_4_code 31 = .ok (.sipush 192, 3) := by decide +kernel
theorem own_dA_34 : decode prog_251_method_4_code 34 = .ok (.if_icmp .lt 10, 3) := by decide +kernel
theorem own_dA_37 : decode prog_251_method_4_code 37 = .ok (.iload_n 0, 1) := by decide +kernel
theorem own_dA_38 : decode prog_251_method_4_code 38 = .ok (.sipush 214, 3) := by decide +kernel
theorem own_dA_41 : decode prog_251_method_4_code 41 = .ok (.if_icmp .le 150, 3) := by decide +kernel
theorem own_dA_44 : decode prog_251_method_4_code 44 = .ok (.iload_n 0, 1) := by decide +kernel
theorem own_dA_45 : decode prog_251_method_4_code 45 = .ok (.sipush 216, 3) := by decide +kernel
theorem own_dA_48 : decode prog_251_method_4_code 48 = .ok (.if_icmp .lt 10, 3) := by decide +kernel
theorem own_dA_51 : decode prog_251_method_4_code 51 = .ok (.iload_n 0, 1) := by decide +kernel
theorem own_dA_52 : decode prog_251_method_4_code 52 = .ok (.sipush 246, 3) := by decide +kernel
theorem own_dA_55 : decode prog_251_method_4_code 55 = .ok (.if_icmp .le 136, 3) := by decide +kernel
theorem own_dA_58 : decode prog_251_method_4_code 58 = .ok (.iload_n 0, 1) := by decide +kernel
theorem own_dA_59 : decode prog_251_method_4_code 59 = .ok (.sipush 248, 3) := by decide +kernel
theorem own_dA_62 : decode prog_251_method_4_code 62 = .ok (.if_icmp .lt 10, 3) := by decide +kernel
theorem own_dA_65 : decode prog_251_method_4_code 65 = .ok (.iload_n 0, 1) := by decide +kernel
theorem own_dA_66 : decode prog_251_method_4_code 66 = .ok (.sipush 767, 3) := by decide +kernel
theorem own_dA_69 : decode prog_251_method_4_code 69 = .ok (.if_icmp .le 122, 3) := by decide +kernel
theorem own_dA_72 : decode prog_251_method_4_code 72 = .ok (.iload_n 0, 1) := by decide +kernel
theorem own_dA_73 : decode prog_251_method_4_code 73 = .ok (.sipush 880, 3) := by decide +kernel
theorem own_dA_76 : decode prog_251_method_4_code 76 = .ok (.if_icmp .lt 10, 3) := by decide +kernel
theorem own_dA_79 : decode prog_251_method_4_code 79 = .ok (.iload_n 0, 1) := by decide +kernel
theorem own_dA_80 : decode prog_251_method_4_code 80 = .ok (.sipush 893, 3) := by decide +kernel
theorem own_dA_83 : decode prog_251_method_4_code 83 = .ok (.if_icmp .le 108, 3) := by decide +kernel
theorem own_dA_86 : decode prog_251_method_4_code 86 = .ok (.iload_n 0, 1) := by decide +kernel
theorem own_dA_87 : decode prog_251_method_4_code 87 = .ok (.sipush 895, 3) := by decide +kernel
theorem own_dA_90 : decode prog_251_method_4_code 90 = .ok (.if_icmp .lt 10, 3) := by decide +kernel
theorem own_dA_93 : decode prog_251_method_4_code 93 = .ok (.iload_n 0, 1) := by decide +kernel
theorem own_dA_94 : decode prog_251_method_4_code 94 = .ok (.sipush 8191, 3) := by decide +kernel
theorem own_dA_97 : decode prog_251_method_4_code 97 = .ok (.if_icmp .le 94, 3) := by decide +kernel
theorem own_dA_100 : decode prog_251_method_4_code 100 = .ok (.iload_n 0, 1) := by decide +kernel
theorem own_dA_101 : decode prog_251_method_4_code 101 = .ok (.sipush 8204, 3) := by decide +kernel
theorem own_dA_104 : decode prog_251_method_4_code 104 = .ok (.if_icmp .lt 10, 3) := by decide +kernel
theorem own_dA_107 : decode prog_251_method_4_code 107 = .ok (.iload_n 0, 1) := by decide +kernel
theorem own_dA_108 : decode prog_251_method_4_code 108 = .ok (.sipush 8205, 3) := by decide +kernel
theorem own_dA_111 : decode prog_251_method_4_code 111 = .ok (.if_icmp .le 80, 3) := by decide +kernel
theorem own_dA_114 : decode prog_251_method_4_code 114 = .ok (.iload_n 0, 1) := by decide +kernel
theorem own_dA_115 : decode prog_251_method_4_code 115 = .ok (.sipush 8304, 3) := by decide +kernel
theorem own_dA_118 : decode prog_251_method_4_code 118 = .ok (.if_icmp .lt 10, 3) := by decide +kernel
theorem own_dA_121 : decode prog_251_method_4_code 121 = .ok (.iload_n 0, 1) := by decide +kernel
theorem own_dA_122 : decode prog_251_method_4_code 122 = .ok (.sipush 8591, 3) := by decide +kernel
theorem own_dA_125 : decode prog_251_method_4_code 125 = .ok (.if_icmp .le 66, 3) := by decide +kernel
theorem own_dA_128 : decode prog_251_method_4_code 128 = .ok (.iload_n 0, 1) := by decide +kernel
theorem own_dA_129 : decode prog_251_method_4_code 129 = .ok (.sipush 11264, 3) := by decide +kernel
theorem own_dA_132 : decode prog_251_method_4_code 132 = .ok (.if_icmp .lt 10, 3) := by decide +kernel
theorem own_dA_135 : decode prog_251_method_4_code 135 = .ok (.iload_n 0, 1) := by decide +kernel
theorem own_dA_136 : decode prog_251_method_4_code 136 = .ok (.sipush 12271, 3) := by decide +kernel
theorem own_dA_139 : decode prog_251_method_4_code 139 = .ok (.if_icmp .le 52, 3) := by decide +kernel
theorem own_dA_142 : decode prog_251_method_4_code 142 = .ok (.iload_n 0, 1) := by decide +kernel
theorem own_dA_143 : decode prog_251_method_4_code 143 = .ok (.sipush 12289, 3) := by decide +kernel
theorem own_dA_146 : decode prog_251_method_4_code 146 = .ok (.if_icmp .lt 9, 3) := by decide +kernel
theorem own_dA_149 : decode prog_251_method_4_code 149 = .ok (.iload_n 0, 1) := by decide +kernel
theorem own_dA_150 : decode prog_251_method_4_code 150 = .ok (.ldc 27, 2) := by decide +kernel
theorem own_dA_152 : decode prog_251_method_4_code 152 = .ok (.if_icmp .le 39, 3) := by decide +kernel
theorem own_dA_155 : decode prog_251_method_4_code 155 = .ok (.iload_n 0, 1) := by decide +kernel
theorem own_dA_156 : decode prog_251_method_4_code 156 = .ok (.ldc 32, 2) := by decide +kernel
theorem own_dA_158 : decode prog_251_method_4_code 158 = .ok (.if_icmp .lt 9, 3) := by decide +kernel
theorem own_dA_161 : decode prog_251_method_4_code 161 = .ok (.iload_n 0, 1) := by decide +kernel
theorem own_dA_162 : decode prog_251_method_4_code 162 = .ok (.ldc 33, 2) := by decide +kernel
theorem own_dA_164 : decode prog_251_method_4_code 164 = .ok (.if_icmp .le 27, 3) := by decide +kernel
theorem own_dA_167 : decode prog_251_method_4_code 167 = .ok (.iload_n 0, 1) := by decide +kernel
theorem own_dA_168 : decode prog_251_method_4_code 168 = .ok (.ldc 34, 2) := by decide +kernel
theorem own_dA_170 : decode prog_251_method_4_code 170 = .ok (.if_icmp .lt 9, 3) := by decide +kernel
theorem own_dA_173 : decode prog_251_method_4_code 173 = .ok (.iload_n 0, 1) := by decide +kernel
theorem own_dA_174 : decode prog_251_method_4_code 174 = .ok (.ldc 29, 2) := by decide +kernel
theorem own_dA_176 : decode prog_251_method_4_code 176 = .ok (.if_icmp .le 15, 3) := by decide +kernel
theorem own_dA_179 : decode prog_251_method_4_code 179 = .ok (.iload_n 0, 1) := by decide +kernel
theorem own_dA_180 : decode prog_251_method_4_code 180 = .ok (.ldc 30, 2) := by decide +kernel
theorem own_dA_182 : decode prog_251_method_4_code 182 = .ok (.if_icmp .lt 13, 3) := by decide +kernel
theorem own_dA_185 : decode prog_251_method_4_code 185 = .ok (.iload_n 0, 1) := by decide +kernel
theorem own_dA_186 : decode prog_251_method_4_code 186 = .ok (.ldc 35, 2) := by decide +kernel
theorem own_dA_188 : decode prog_251_method_4_code 188 = .ok (.if_icmp .gt 7, 3) := by decide +kernel
theorem own_dA_191 : decode prog_251_method_4_code 191 = .ok (.iconst 1, 1) := by decide +kernel
theorem own_dA_192 : decode prog_251_method_4_code 192 = .ok (.goto 4, 3) := by decide +kernel
theorem own_dA_195 : decode prog_251_method_4_code 195 = .ok (.iconst 0, 1) := by decide +kernel
theorem own_dA_196 : decode prog_251_method_4_code 196 = .ok (.ireturn, 1) := by decide +kernel
theorem own_pnA : plainName "com/example/quillon/quillon/xdm/XmlChars" = true := by first | (simp [plainName, overriddenIn]; done) | decide +kernel
theorem own_pdA : parseMethodDescriptor "(I)Z" = some ⟨[.int], some .boolean⟩ := by decide +kernel
theorem own_efA (m : MethodId) (x0 : Int32) : entryFrame m #[(.int x0)] 1 = mkF m 0 #[.val (.int x0)] [] := by first | (simp [entryFrame, mkF, argsToLocals, Value.category]; done) | rfl
def own_fA_196 (l0 : Int32) (s0 : Int32) : Int32 := s0
def own_fA_195 (l0 : Int32) : Int32 := own_fA_196 l0 (0 : Int32)
def own_fA_191 (l0 : Int32) : Int32 := own_fA_196 l0 (1 : Int32)
def own_fA_185 (l0 : Int32) : Int32 := bif if_icmp.holds .gt l0 (983039 : Int32) then own_fA_195 l0 else own_fA_191 l0
def own_fA_179 (l0 : Int32) : Int32 := bif if_icmp.holds .lt l0 (65536 : Int32) then own_fA_195 l0 else own_fA_185 l0
def own_fA_173 (l0 : Int32) : Int32 := bif if_icmp.holds .le l0 (65533 : Int32) then own_fA_191 l0 else own_fA_179 l0
def own_fA_167 (l0 : Int32) : Int32 := bif if_icmp.holds .lt l0 (65008 : Int32) then own_fA_179 l0 else own_fA_173 l0
def own_fA_161 (l0 : Int32) : Int32 := bif if_icmp.holds .le l0 (64975 : Int32) then own_fA_191 l0 else own_fA_167 l0
def own_fA_155 (l0 : Int32) : Int32 := bif if_icmp.holds .lt l0 (63744 : Int32) then own_fA_167 l0 else own_fA_161 l0
def own_fA_149 (l0 : Int32) : Int32 := bif if_icmp.holds .le l0 (55295 : Int32) then own_fA_191 l0 else own_fA_155 l0
def own_fA_142 (l0 : Int32) : Int32 := bif if_icmp.holds .lt l0 (12289 : Int32) then own_fA_155 l0 else own_fA_149 l0
def own_fA_135 (l0 : Int32) : Int32 := bif if_icmp.holds .le l0 (12271 : Int32) then own_fA_191 l0 else own_fA_142 l0
def own_fA_128 (l0 : Int32) : Int32 := bif if_icmp.holds .lt l0 (11264 : Int32) then own_fA_142 l0 else own_fA_135 l0
def own_fA_121 (l0 : Int32) : Int32 := bif if_icmp.holds .le l0 (8591 : Int32) then own_fA_191 l0 else own_fA_128 l0
def own_fA_114 (l0 : Int32) : Int32 := bif if_icmp.holds .lt l0 (8304 : Int32) then own_fA_128 l0 else own_fA_121 l0
def own_fA_107 (l0 : Int32) : Int32 := bif if_icmp.holds .le l0 (8205 : Int32) then own_fA_191 l0 else own_fA_114 l0
def own_fA_100 (l0 : Int32) : Int32 := bif if_icmp.holds .lt l0 (8204 : Int32) then own_fA_114 l0 else own_fA_107 l0
def own_fA_93 (l0 : Int32) : Int32 := bif if_icmp.holds .le l0 (8191 : Int32) then own_fA_191 l0 else own_fA_100 l0
def own_fA_86 (l0 : Int32) : Int32 := bif if_icmp.holds .lt l0 (895 : Int32) then own_fA_100 l0 else own_fA_93 l0
def own_fA_79 (l0 : Int32) : Int32 := bif if_icmp.holds .le l0 (893 : Int32) then own_fA_191 l0 else own_fA_86 l0
def own_fA_72 (l0 : Int32) : Int32 := bif if_icmp.holds .lt l0 (880 : Int32) then own_fA_86 l0 else own_fA_79 l0
def own_fA_65 (l0 : Int32) : Int32 := bif if_icmp.holds .le l0 (767 : Int32) then own_fA_191 l0 else own_fA_72 l0
def own_fA_58 (l0 : Int32) : Int32 := bif if_icmp.holds .lt l0 (248 : Int32) then own_fA_72 l0 else own_fA_65 l0
def own_fA_51 (l0 : Int32) : Int32 := bif if_icmp.holds .le l0 (246 : Int32) then own_fA_191 l0 else own_fA_58 l0
def own_fA_44 (l0 : Int32) : Int32 := bif if_icmp.holds .lt l0 (216 : Int32) then own_fA_58 l0 else own_fA_51 l0
def own_fA_37 (l0 : Int32) : Int32 := bif if_icmp.holds .le l0 (214 : Int32) then own_fA_191 l0 else own_fA_44 l0
def own_fA_30 (l0 : Int32) : Int32 := bif if_icmp.holds .lt l0 (192 : Int32) then own_fA_44 l0 else own_fA_37 l0
def own_fA_24 (l0 : Int32) : Int32 := bif if_icmp.holds .eq l0 (95 : Int32) then own_fA_191 l0 else own_fA_30 l0
def own_fA_18 (l0 : Int32) : Int32 := bif if_icmp.holds .le l0 (90 : Int32) then own_fA_191 l0 else own_fA_24 l0
def own_fA_12 (l0 : Int32) : Int32 := bif if_icmp.holds .lt l0 (65 : Int32) then own_fA_24 l0 else own_fA_18 l0
def own_fA_6 (l0 : Int32) : Int32 := bif if_icmp.holds .le l0 (122 : Int32) then own_fA_191 l0 else own_fA_12 l0
def own_fA_0 (l0 : Int32) : Int32 := bif if_icmp.holds .lt l0 (97 : Int32) then own_fA_12 l0 else own_fA_6 l0
set_option maxRecDepth 65536 in
set_option maxHeartbeats 40000000 in
theorem own_rmA (l : Launch) (Z : State) (a0 : Array Value) (hw : ∀ d ∈ tables_1, d.before a0 Z = true) (ws : List Jvm.Cond) (p0 : Int32) (h0 : Heap) (n0 : Nat) :
    MetFree l (⟨"com/example/quillon/quillon/xdm/XmlChars", "isNameStartChar", "(I)Z"⟩ : MethodName) (head1 (Jvm.Cond.code (⟨"com/example/quillon/quillon/xdm/XmlChars", "isNameStartChar", "(I)Z"⟩ : MethodName) prog_251_method_4_code 1 (some .boolean) :: ws) ({ frames := 0, cells := 0, slots := 0, locals := 0 } : Room)) (fun a U => a = #[(.int p0)] ∧ Z.Warmed39 U.vm ∧ U.heap = h0) (fun _ _ _ _ _ => True) (fun _ U o U' => ∃ v L, o = .returned v ∧ own_Q (some (.int (nar .boolean (own_fA_0 p0)))) h0 n0 v U'.heap L ∧ FrameEnd U o U' L ({ frames := 0, cells := 0, slots := 0, locals := 0 } : Room).cells ({ frames := 0, cells := 0, slots := 0, locals := 0 } : Room).slots) := by
  refine MetFree.of_bodySF (plainFor_of_name own_pnA) hisR ?_
  intro p e s m args below meth c s₁ Bd hml0 hP hK
  obtain ⟨rfl, hZ, hh⟩ := hP
  have hx := Bd.exec
  have hby := Bd.bytes
  have hown : s.vm.findClass "com/example/quillon/quillon/xdm/XmlChars" = some m.cls := findClass_of_methodNamed Bd.named
  have X0 : Stand p l e ({ frames := 0, cells := 0, slots := 0, locals := 0 } : Room) s m #[(.int p0)] below meth c s₁ [] 0 0 := Stand.of_body Bd
  have e0 : s₁.heap = h0 := by rw [← hh, Bd.state]; rfl
  obtain ⟨r, hr0⟩ : ∃ r, r = (own_fA_0 p0) := ⟨_, rfl⟩
  obtain ⟨fs, hr, hrun, hended, hW, hsame⟩ := X0.leave (v := some (.int (nar .boolean r))) (fun h => by rw [Bd.returns] at h; cases h)
  have B196 : ∀ (l0 : Int32) (s0 : Int32), own_fA_196 l0 s0 = r → Steps p.tables e below (s₁.setTop (mkF m 196 #[.val (.int l0)] [(.int s0)])) (s₁.setFrames fs) := by
    intro l0 s0 hf
    show Steps p.tables e below (s₁.setTop (mkF m 196 #[.val (.int l0)] [(.int s0)])) _
    have hf' : s0 = r := hf
    exact retN X0 hx (t := .boolean) Bd.returns (by simp) (hb hby own_dA_196) (by rw [hf']; exact hr)
  have B195 : ∀ (l0 : Int32), own_fA_195 l0 = r → Steps p.tables e below (s₁.setTop (mkF m 195 #[.val (.int l0)] [])) (s₁.setFrames fs) := by
    intro l0 hf
    show Steps p.tables e below (s₁.setTop (mkF m 195 #[.val (.int l0)] [])) _
    refine XS.iconst X0.here hx rfl (hb hby own_dA_195) ?_
    have hf' : own_fA_196 l0 (0 : Int32) = r := hf
    exact B196 l0 (0 : Int32) hf'
  have B191 : ∀ (l0 : Int32), own_fA_191 l0 = r → Steps p.tables e below (s₁.setTop (mkF m 191 #[.val (.int l0)] [])) (s₁.setFrames fs) := by
    intro l0 hf
    show Steps p.tables e below (s₁.setTop (mkF m 191 #[.val (.int l0)] [])) _
    refine XS.iconst X0.here hx rfl (hb hby own_dA_191) ?_
    show Steps p.tables e below (s₁.setTop (mkF m 192 #[.val (.int l0)] [(.int (1 : Int32))])) _
    refine XS.goto X0.here hx rfl (pc0 := 192) (pc' := 196) rfl (hb hby own_dA_192) (by decide) (by decide) ?_
    have hf' : own_fA_196 l0 (1 : Int32) = r := hf
    exact B196 l0 (1 : Int32) hf'
  have B185 : ∀ (l0 : Int32), own_fA_185 l0 = r → Steps p.tables e below (s₁.setTop (mkF m 185 #[.val (.int l0)] [])) (s₁.setFrames fs) := by
    intro l0 hf
    show Steps p.tables e below (s₁.setTop (mkF m 185 #[.val (.int l0)] [])) _
    refine XS.iloadN X0.here hx rfl (hb hby own_dA_185) rfl ?_
    show Steps p.tables e below (s₁.setTop (mkF m 186 #[.val (.int l0)] [(.int l0)])) _
    refine X0.ldcInt hx hown (mvT hZ (hw _ (List.mem_of_getElem? (i := 24) rfl))) (g := (mkF m 186 #[.val (.int l0)] [(.int l0)])) rfl (hb hby own_dA_186) _ ?_
    show Steps p.tables e below (s₁.setTop (mkF m 188 #[.val (.int l0)] [(.int (983039 : Int32)), (.int l0)])) _
    have hf' : (bif if_icmp.holds .gt l0 (983039 : Int32) then own_fA_195 l0 else own_fA_191 l0) = r := hf
    rcases own_tf (if_icmp.holds .gt l0 (983039 : Int32)) with hc | hc
    · rw [hc] at hf'
      refine XS.icmpYes X0.here hx rfl (pc0 := 188) (pc' := 195) rfl (hb hby own_dA_188) rfl hc (by decide) (by decide) ?_
      exact B195 l0 hf'
    · rw [hc] at hf'
      refine XS.icmpNo X0.here hx rfl (hb hby own_dA_188) rfl hc ?_
      exact B191 l0 hf'
  have B179 : ∀ (l0 : Int32), own_fA_179 l0 = r → Steps p.tables e below (s₁.setTop (mkF m 179 #[.val (.int l0)] [])) (s₁.setFrames fs) := by
    intro l0 hf
    show Steps p.tables e below (s₁.setTop (mkF m 179 #[.val (.int l0)] [])) _
    refine XS.iloadN X0.here hx rfl (hb hby own_dA_179) rfl ?_
    show Steps p.tables e below (s₁.setTop (mkF m 180 #[.val (.int l0)] [(.int l0)])) _
    refine X0.ldcInt hx hown (mvT hZ (hw _ (List.mem_of_getElem? (i := 16) rfl))) (g := (mkF m 180 #[.val (.int l0)] [(.int l0)])) rfl (hb hby own_dA_180) _ ?_
    show Steps p.tables e below (s₁.setTop (mkF m 182 #[.val (.int l0)] [(.int (65536 : Int32)), (.int l0)])) _
    have hf' : (bif if_icmp.holds .lt l0 (65536 : Int32) then own_fA_195 l0 else own_fA_185 l0) = r := hf
    rcases own_tf (if_icmp.holds .lt l0 (65536 : Int32)) with hc | hc
    · rw [hc] at hf'
      refine XS.icmpYes X0.here hx rfl (pc0 := 182) (pc' := 195) rfl (hb hby own_dA_182) rfl hc (by decide) (by decide) ?_
      exact B195 l0 hf'
    · rw [hc] at hf'
      refine XS.icmpNo X0.here hx rfl (hb hby own_dA_182) rfl hc ?_
      exact B185 l0 hf'
  have B173 : ∀ (l0 : Int32), own_fA_173 l0 = r → Steps p.tables e below (s₁.setTop (mkF m 173 #[.val (.int l0)] [])) (s₁.setFrames fs) := by
    intro l0 hf
    show Steps p.tables e below (s₁.setTop (mkF m 173 #[.val (.int l0)] [])) _
    refine XS.iloadN X0.here hx rfl (hb hby own_dA_173) rfl ?_
    show Steps p.tables e below (s₁.setTop (mkF m 174 #[.val (.int l0)] [(.int l0)])) _
    refine X0.ldcInt hx hown (mvT hZ (hw _ (List.mem_of_getElem? (i := 23) rfl))) (g := (mkF m 174 #[.val (.int l0)] [(.int l0)])) rfl (hb hby own_dA_174) _ ?_
    show Steps p.tables e below (s₁.setTop (mkF m 176 #[.val (.int l0)] [(.int (65533 : Int32)), (.int l0)])) _
    have hf' : (bif if_icmp.holds .le l0 (65533 : Int32) then own_fA_191 l0 else own_fA_179 l0) = r := hf
    rcases own_tf (if_icmp.holds .le l0 (65533 : Int32)) with hc | hc
    · rw [hc] at hf'
      refine XS.icmpYes X0.here hx rfl (pc0 := 176) (pc' := 191) rfl (hb hby own_dA_176) rfl hc (by decide) (by decide) ?_
      exact B191 l0 hf'
    · rw [hc] at hf'
      refine XS.icmpNo X0.here hx rfl (hb hby own_dA_176) rfl hc ?_
      exact B179 l0 hf'
  have B167 : ∀ (l0 : Int32), own_fA_167 l0 = r → Steps p.tables e below (s₁.setTop (mkF m 167 #[.val (.int l0)] [])) (s₁.setFrames fs) := by
    intro l0 hf
    show Steps p.tables e below (s₁.setTop (mkF m 167 #[.val (.int l0)] [])) _
    refine XS.iloadN X0.here hx rfl (hb hby own_dA_167) rfl ?_
    show Steps p.tables e below (s₁.setTop (mkF m 168 #[.val (.int l0)] [(.int l0)])) _
    refine X0.ldcInt hx hown (mvT hZ (hw _ (List.mem_of_getElem? (i := 15) rfl))) (g := (mkF m 168 #[.val (.int l0)] [(.int l0)])) rfl (hb hby own_dA_168) _ ?_
    show Steps p.tables e below (s₁.setTop (mkF m 170 #[.val (.int l0)] [(.int (65008 : Int32)), (.int l0)])) _
    have hf' : (bif if_icmp.holds .lt l0 (65008 : Int32) then own_fA_179 l0 else own_fA_173 l0) = r := hf
    rcases own_tf (if_icmp.holds .lt l0 (65008 : Int32)) with hc | hc
    · rw [hc] at hf'
      refine XS.icmpYes X0.here hx rfl (pc0 := 170) (pc' := 179) rfl (hb hby own_dA_170) rfl hc (by decide) (by decide) ?_
      exact B179 l0 hf'
    · rw [hc] at hf'
      refine XS.icmpNo X0.here hx rfl (hb hby own_dA_170) rfl hc ?_
      exact B173 l0 hf'
  have B161 : ∀ (l0 : Int32), own_fA_161 l0 = r → Steps p.tables e below (s₁.setTop (mkF m 161 #[.val (.int l0)] [])) (s₁.setFrames fs) := by
    intro l0 hf
    show Steps p.tables e below (s₁.setTop (mkF m 161 #[.val (.int l0)] [])) _
    refine XS.iloadN X0.here hx rfl (hb hby own_dA_161) rfl ?_
    show Steps p.tables e below (s₁.setTop (mkF m 162 #[.val (.int l0)] [(.int l0)])) _
    refine X0.ldcInt hx hown (mvT hZ (hw _ (List.mem_of_getElem? (i := 22) rfl))) (g := (mkF m 162 #[.val (.int l0)] [(.int l0)])) rfl (hb hby own_dA_162) _ ?_
    show Steps p.tables e below (s₁.setTop (mkF m 164 #[.val (.int l0)] [(.int (64975 : Int32)), (.int l0)])) _
    have hf' : (bif if_icmp.holds .le l0 (64975 : Int32) then own_fA_191 l0 else own_fA_167 l0) = r := hf
    rcases own_tf (if_icmp.holds .le l0 (64975 : Int32)) with hc | hc
    · rw [hc] at hf'
      refine XS.icmpYes X0.here hx rfl (pc0 := 164) (pc' := 191) rfl (hb hby own_dA_164) rfl hc (by decide) (by decide) ?_
      exact B191 l0 hf'
    · rw [hc] at hf'
      refine XS.icmpNo X0.here hx rfl (hb hby own_dA_164) rfl hc ?_
      exact B167 l0 hf'
  have B155 : ∀ (l0 : Int32), own_fA_155 l0 = r → Steps p.tables e below (s₁.setTop (mkF m 155 #[.val (.int l0)] [])) (s₁.setFrames fs) := by
    intro l0 hf
    show Steps p.tables e below (s₁.setTop (mkF m 155 #[.val (.int l0)] [])) _
    refine XS.iloadN X0.here hx rfl (hb hby own_dA_155) rfl ?_
    show Steps p.tables e below (s₁.setTop (mkF m 156 #[.val (.int l0)] [(.int l0)])) _
    refine X0.ldcInt hx hown (mvT hZ (hw _ (List.mem_of_getElem? (i := 14) rfl))) (g := (mkF m 156 #[.val (.int l0)] [(.int l0)])) rfl (hb hby own_dA_156) _ ?_
    show Steps p.tables e below (s₁.setTop (mkF m 158 #[.val (.int l0)] [(.int (63744 : Int32)), (.int l0)])) _
    have hf' : (bif if_icmp.holds .lt l0 (63744 : Int32) then own_fA_167 l0 else own_fA_161 l0) = r := hf
    rcases own_tf (if_icmp.holds .lt l0 (63744 : Int32)) with hc | hc
    · rw [hc] at hf'
      refine XS.icmpYes X0.here hx rfl (pc0 := 158) (pc' := 167) rfl (hb hby own_dA_158) rfl hc (by decide) (by decide) ?_
      exact B167 l0 hf'
    · rw [hc] at hf'
      refine XS.icmpNo X0.here hx rfl (hb hby own_dA_158) rfl hc ?_
      exact B161 l0 hf'
  have B149 : ∀ (l0 : Int32), own_fA_149 l0 = r → Steps p.tables e below (s₁.setTop (mkF m 149 #[.val (.int l0)] [])) (s₁.setFrames fs) := by
    intro l0 hf
    show Steps p.tables e below (s₁.setTop (mkF m 149 #[.val (.int l0)] [])) _
    refine XS.iloadN X0.here hx rfl (hb hby own_dA_149) rfl ?_
    show Steps p.tables e below (s₁.setTop (mkF m 150 #[.val (.int l0)] [(.int l0)])) _
    refine X0.ldcInt hx hown (mvT hZ (hw _ (List.mem_of_getElem? (i := 21) rfl))) (g := (mkF m 150 #[.val (.int l0)] [(.int l0)])) rfl (hb hby own_dA_150) _ ?_
    show Steps p.tables e below (s₁.setTop (mkF m 152 #[.val (.int l0)] [(.int (55295 : Int32)), (.int l0)])) _
    have hf' : (bif if_icmp.holds .le l0 (55295 : Int32) then own_fA_191 l0 else own_fA_155 l0) = r := hf
    rcases own_tf (if_icmp.holds .le l0 (55295 : Int32)) with hc | hc
    · rw [hc] at hf'
      refine XS.icmpYes X0.here hx rfl (pc0 := 152) (pc' := 191) rfl (hb hby own_dA_152) rfl hc (by decide) (by decide) ?_
      exact B191 l0 hf'
    · rw [hc] at hf'
      refine XS.icmpNo X0.here hx rfl (hb hby own_dA_152) rfl hc ?_
      exact B155 l0 hf'
  have B142 : ∀ (l0 : Int32), own_fA_142 l0 = r → Steps p.tables e below (s₁.setTop (mkF m 142 #[.val (.int l0)] [])) (s₁.setFrames fs) := by
    intro l0 hf
    show Steps p.tables e below (s₁.setTop (mkF m 142 #[.val (.int l0)] [])) _
    refine XS.iloadN X0.here hx rfl (hb hby own_dA_142) rfl ?_
    show Steps p.tables e below (s₁.setTop (mkF m 143 #[.val (.int l0)] [(.int l0)])) _
    refine XS.sipush X0.here hx rfl (hb hby own_dA_143) ?_
    show Steps p.tables e below (s₁.setTop (mkF m 146 #[.val (.int l0)] [(.int (12289 : Int32)), (.int l0)])) _
    have hf' : (bif if_icmp.holds .lt l0 (12289 : Int32) then own_fA_155 l0 else own_fA_149 l0) = r := hf
    rcases own_tf (if_icmp.holds .lt l0 (12289 : Int32)) with hc | hc
    · rw [hc] at hf'
      refine XS.icmpYes X0.here hx rfl (pc0 := 146) (pc' := 155) rfl (hb hby own_dA_146) rfl hc (by decide) (by decide) ?_
      exact B155 l0 hf'
    · rw [hc] at hf'
      refine XS.icmpNo X0.here hx rfl (hb hby own_dA_146) rfl hc ?_
      exact B149 l0 hf'
  have B135 : ∀ (l0 : Int32), own_fA_135 l0 = r → Steps p.tables e below (s₁.setTop (mkF m 135 #[.val (.int l0)] [])) (s₁.setFrames fs) := by
    intro l0 hf
    show Steps p.tables e below (s₁.setTop (mkF m 135 #[.val (.int l0)] [])) _
    refine XS.iloadN X0.here hx rfl (hb hby own_dA_135) rfl ?_
    show Steps p.tables e below (s₁.setTop (mkF m 136 #[.val (.int l0)] [(.int l0)])) _
    refine XS.sipush X0.here hx rfl (hb hby own_dA_136) ?_
    show Steps p.tables e below (s₁.setTop (mkF m 139 #[.val (.int l0)] [(.int (12271 : Int32)), (.int l0)])) _
    have hf' : (bif if_icmp.holds .le l0 (12271 : Int32) then own_fA_191 l0 else own_fA_142 l0) = r := hf
    rcases own_tf (if_icmp.holds .le l0 (12271 : Int32)) with hc | hc
    · rw [hc] at hf'
      refine XS.icmpYes X0.here hx rfl (pc0 := 139) (pc' := 191) rfl (hb hby own_dA_139) rfl hc (by decide) (by decide) ?_
      exact B191 l0 hf'
    · rw [hc] at hf'
      refine XS.icmpNo X0.here hx rfl (hb hby own_dA_139) rfl hc ?_
      exact B142 l0 hf'
  have B128 : ∀ (l0 : Int32), own_fA_128 l0 = r → Steps p.tables e below (s₁.setTop (mkF m 128 #[.val (.int l0)] [])) (s₁.setFrames fs) := by
    intro l0 hf
    show Steps p.tables e below (s₁.setTop (mkF m 128 #[.val (.int l0)] [])) _
    refine XS.iloadN X0.here hx rfl (hb hby own_dA_128) rfl ?_
    show Steps p.tables e below (s₁.setTop (mkF m 129 #[.val (.int l0)] [(.int l0)])) _
    refine XS.sipush X0.here hx rfl (hb hby own_dA_129) ?_
    show Steps p.tables e below (s₁.setTop (mkF m 132 #[.val (.int l0)] [(.int (11264 : Int32)), (.int l0)])) _
    have hf' : (bif if_icmp.holds .lt l0 (11264 : Int32) then own_fA_142 l0 else own_fA_135 l0) = r := hf
    rcases own_tf (if_icmp.holds .lt l0 (11264 : Int32)) with hc | hc
    · rw [hc] at hf'
      refine XS.icmpYes X0.here hx rfl (pc0 := 132) (pc' := 142) rfl (hb hby own_dA_132) rfl hc (by decide) (by decide) ?_
      exact B142 l0 hf'
    · rw [hc] at hf'
      refine XS.icmpNo X0.here hx rfl (hb hby own_dA_132) rfl hc ?_
      exact B135 l0 hf'
  have B121 : ∀ (l0 : Int32), own_fA_121 l0 = r → Steps p.tables e below (s₁.setTop (mkF m 121 #[.val (.int l0)] [])) (s₁.setFrames fs) := by
    intro l0 hf
    show Steps p.tables e below (s₁.setTop (mkF m 121 #[.val (.int l0)] [])) _
    refine XS.iloadN X0.here hx rfl (hb hby own_dA_121) rfl ?_
    show Steps p.tables e below (s₁.setTop (mkF m 122 #[.val (.int l0)] [(.int l0)])) _
    refine XS.sipush X0.here hx rfl (hb hby own_dA_122) ?_
    show Steps p.tables e below (s₁.setTop (mkF m 125 #[.val (.int l0)] [(.int (8591 : Int32)), (.int l0)])) _
    have hf' : (bif if_icmp.holds .le l0 (8591 : Int32) then own_fA_191 l0 else own_fA_128 l0) = r := hf
    rcases own_tf (if_icmp.holds .le l0 (8591 : Int32)) with hc | hc
    · rw [hc] at hf'
      refine XS.icmpYes X0.here hx rfl (pc0 := 125) (pc' := 191) rfl (hb hby own_dA_125) rfl hc (by decide) (by decide) ?_
      exact B191 l0 hf'
    · rw [hc] at hf'
      refine XS.icmpNo X0.here hx rfl (hb hby own_dA_125) rfl hc ?_
      exact B128 l0 hf'
  have B114 : ∀ (l0 : Int32), own_fA_114 l0 = r → Steps p.tables e below (s₁.setTop (mkF m 114 #[.val (.int l0)] [])) (s₁.setFrames fs) := by
    intro l0 hf
    show Steps p.tables e below (s₁.setTop (mkF m 114 #[.val (.int l0)] [])) _
    refine XS.iloadN X0.here hx rfl (hb hby own_dA_114) rfl ?_
    show Steps p.tables e below (s₁.setTop (mkF m 115 #[.val (.int l0)] [(.int l0)])) _
    refine XS.sipush X0.here hx rfl (hb hby own_dA_115) ?_
    show Steps p.tables e below (s₁.setTop (mkF m 118 #[.val (.int l0)] [(.int (8304 : Int32)), (.int l0)])) _
    have hf' : (bif if_icmp.holds .lt l0 (8304 : Int32) then own_fA_128 l0 else own_fA_121 l0) = r := hf
    rcases own_tf (if_icmp.holds .lt l0 (8304 : Int32)) with hc | hc
    · rw [hc] at hf'
      refine XS.icmpYes X0.here hx rfl (pc0 := 118) (pc' := 128) rfl (hb hby own_dA_118) rfl hc (by decide) (by decide) ?_
      exact B128 l0 hf'
    · rw [hc] at hf'
      refine XS.icmpNo X0.here hx rfl (hb hby own_dA_118) rfl hc ?_
      exact B121 l0 hf'
  have B107 : ∀ (l0 : Int32), own_fA_107 l0 = r → Steps p.tables e below (s₁.setTop (mkF m 107 #[.val (.int l0)] [])) (s₁.setFrames fs) := by
    intro l0 hf
    show Steps p.tables e below (s₁.setTop (mkF m 107 #[.val (.int l0)] [])) _
    refine XS.iloadN X0.here hx rfl (hb hby own_dA_107) rfl ?_
    show Steps p.tables e below (s₁.setTop (mkF m 108 #[.val (.int l0)] [(.int l0)])) _
    refine XS.sipush X0.here hx rfl (hb hby own_dA_108) ?_
    show Steps p.tables e below (s₁.setTop (mkF m 111 #[.val (.int l0)] [(.int (8205 : Int32)), (.int l0)])) _
    have hf' : (bif if_icmp.holds .le l0 (8205 : Int32) then own_fA_191 l0 else own_fA_114 l0) = r := hf
    rcases own_tf (if_icmp.holds .le l0 (8205 : Int32)) with hc | hc
    · rw [hc] at hf'
      refine XS.icmpYes X0.here hx rfl (pc0 := 111) (pc' := 191) rfl (hb hby own_dA_111) rfl hc (by decide) (by decide) ?_
      exact B191 l0 hf'
    · rw [hc] at hf'
      refine XS.icmpNo X0.here hx rfl (hb hby own_dA_111) rfl hc ?_
      exact B114 l0 hf'
  have B100 : ∀ (l0 : Int32), own_fA_100 l0 = r → Steps p.tables e below (s₁.setTop (mkF m 100 #[.val (.int l0)] [])) (s₁.setFrames fs) := by
    intro l0 hf
    show Steps p.tables e below (s₁.setTop (mkF m 100 #[.val (.int l0)] [])) _
    refine XS.iloadN X0.here hx rfl (hb hby own_dA_100) rfl ?_
    show Steps p.tables e below (s₁.setTop (mkF m 101 #[.val (.int l0)] [(.int l0)])) _
    refine XS.sipush X0.here hx rfl (hb hby own_dA_101) ?_
    show Steps p.tables e below (s₁.setTop (mkF m 104 #[.val (.int l0)] [(.int (8204 : Int32)), (.int l0)])) _
    have hf' : (bif if_icmp.holds .lt l0 (8204 : Int32) then own_fA_114 l0 else own_fA_107 l0) = r := hf
    rcases own_tf (if_icmp.holds .lt l0 (8204 : Int32)) with hc | hc
    · rw [hc] at hf'
      refine XS.icmpYes X0.here hx rfl (pc0 := 104) (pc' := 114) rfl (hb hby own_dA_104) rfl hc (by decide) (by decide) ?_
      exact B114 l0 hf'
    · rw [hc] at hf'
      refine XS.icmpNo X0.here hx rfl (hb hby own_dA_104) rfl hc ?_
      exact B107 l0 hf'
  have B93 : ∀ (l0 : Int32), own_fA_93 l0 = r → Steps p.tables e below (s₁.setTop (mkF m 93 #[.val (.int l0)] [])) (s₁.setFrames fs) := by
    intro l0 hf
    show Steps p.tables e below (s₁.setTop (mkF m 93 #[.val (.int l0)] [])) _
    refine XS.iloadN X0.here hx rfl (hb hby own_dA_93) rfl ?_
    show Steps p.tables e below (s₁.setTop (mkF m 94 #[.val (.int l0)] [(.int l0)])) _
    refine XS.sipush X0.here hx rfl (hb hby own_dA_94) ?_
    show Steps p.tables e below (s₁.setTop (mkF m 97 #[.val (.int l0)] [(.int (8191 : Int32)), (.int l0)])) _
    have hf' : (bif if_icmp.holds .le l0 (8191 : Int32) then own_fA_191 l0 else own_fA_100 l0) = r := hf
    rcases own_tf (if_icmp.holds .le l0 (8191 : Int32)) with hc | hc
    · rw [hc] at hf'
      refine XS.icmpYes X0.here hx rfl (pc0 := 97) (pc' := 191) rfl (hb hby own_dA_97) rfl hc (by decide) (by decide) ?_
      exact B191 l0 hf'
    · rw [hc] at hf'
      refine XS.icmpNo X0.here hx rfl (hb hby own_dA_97) rfl hc ?_
      exact B100 l0 hf'
  have B86 : ∀ (l0 : Int32), own_fA_86 l0 = r → Steps p.tables e below (s₁.setTop (mkF m 86 #[.val (.int l0)] [])) (s₁.setFrames fs) := by
    intro l0 hf
    show Steps p.tables e below (s₁.setTop (mkF m 86 #[.val (.int l0)] [])) _
    refine XS.iloadN X0.here hx rfl (hb hby own_dA_86) rfl ?_
    show Steps p.tables e below (s₁.setTop (mkF m 87 #[.val (.int l0)] [(.int l0)])) _
    refine XS.sipush X0.here hx rfl (hb hby own_dA_87) ?_
    show Steps p.tables e below (s₁.setTop (mkF m 90 #[.val (.int l0)] [(.int (895 : Int32)), (.int l0)])) _
    have hf' : (bif if_icmp.holds .lt l0 (895 : Int32) then own_fA_100 l0 else own_fA_93 l0) = r := hf
    rcases own_tf (if_icmp.holds .lt l0 (895 : Int32)) with hc | hc
    · rw [hc] at hf'
      refine XS.icmpYes X0.here hx rfl (pc0 := 90) (pc' := 100) rfl (hb hby own_dA_90) rfl hc (by decide) (by decide) ?_
      exact B100 l0 hf'
    · rw [hc] at hf'
      refine XS.icmpNo X0.here hx rfl (hb hby own_dA_90) rfl hc ?_
      exact B93 l0 hf'
  have B79 : ∀ (l0 : Int32), own_fA_79 l0 = r → Steps p.tables e below (s₁.setTop (mkF m 79 #[.val (.int l0)] [])) (s₁.setFrames fs) := by
    intro l0 hf
    show Steps p.tables e below (s₁.setTop (mkF m 79 #[.val (.int l0)] [])) _
    refine XS.iloadN X0.here hx rfl (hb hby own_dA_79) rfl ?_
    show Steps p.tables e below (s₁.setTop (mkF m 80 #[.val (.int l0)] [(.int l0)])) _
    refine XS.sipush X0.here hx rfl (hb hby own_dA_80) ?_
    show Steps p.tables e below (s₁.setTop (mkF m 83 #[.val (.int l0)] [(.int (893 : Int32)), (.int l0)])) _
    have hf' : (bif if_icmp.holds .le l0 (893 : Int32) then own_fA_191 l0 else own_fA_86 l0) = r := hf
    rcases own_tf (if_icmp.holds .le l0 (893 : Int32)) with hc | hc
    · rw [hc] at hf'
      refine XS.icmpYes X0.here hx rfl (pc0 := 83) (pc' := 191) rfl (hb hby own_dA_83) rfl hc (by decide) (by decide) ?_
      exact B191 l0 hf'
    · rw [hc] at hf'
      refine XS.icmpNo X0.here hx rfl (hb hby own_dA_83) rfl hc ?_
      exact B86 l0 hf'
  have B72 : ∀ (l0 : Int32), own_fA_72 l0 = r → Steps p.tables e below (s₁.setTop (mkF m 72 #[.val (.int l0)] [])) (s₁.setFrames fs) := by
    intro l0 hf
    show Steps p.tables e below (s₁.setTop (mkF m 72 #[.val (.int l0)] [])) _
    refine XS.iloadN X0.here hx rfl (hb hby own_dA_72) rfl ?_
    show Steps p.tables e below (s₁.setTop (mkF m 73 #[.val (.int l0)] [(.int l0)])) _
    refine XS.sipush X0.here hx rfl (hb hby own_dA_73) ?_
    show Steps p.tables e below (s₁.setTop (mkF m 76 #[.val (.int l0)] [(.int (880 : Int32)), (.int l0)])) _
    have hf' : (bif if_icmp.holds .lt l0 (880 : Int32) then own_fA_86 l0 else own_fA_79 l0) = r := hf
    rcases own_tf (if_icmp.holds .lt l0 (880 : Int32)) with hc | hc
    · rw [hc] at hf'
      refine XS.icmpYes X0.here hx rfl (pc0 := 76) (pc' := 86) rfl (hb hby own_dA_76) rfl hc (by decide) (by decide) ?_
      exact B86 l0 hf'
    · rw [hc] at hf'
      refine XS.icmpNo X0.here hx rfl (hb hby own_dA_76) rfl hc ?_
      exact B79 l0 hf'
  have B65 : ∀ (l0 : Int32), own_fA_65 l0 = r → Steps p.tables e below (s₁.setTop (mkF m 65 #[.val (.int l0)] [])) (s₁.setFrames fs) := by
    intro l0 hf
    show Steps p.tables e below (s₁.setTop (mkF m 65 #[.val (.int l0)] [])) _
    refine XS.iloadN X0.here hx rfl (hb hby own_dA_65) rfl ?_
    show Steps p.tables e below (s₁.setTop (mkF m 66 #[.val (.int l0)] [(.int l0)])) _
    refine XS.sipush X0.here hx rfl (hb hby own_dA_66) ?_
    show Steps p.tables e below (s₁.setTop (mkF m 69 #[.val (.int l0)] [(.int (767 : Int32)), (.int l0)])) _
    have hf' : (bif if_icmp.holds .le l0 (767 : Int32) then own_fA_191 l0 else own_fA_72 l0) = r := hf
    rcases own_tf (if_icmp.holds .le l0 (767 : Int32)) with hc | hc
    · rw [hc] at hf'
      refine XS.icmpYes X0.here hx rfl (pc0 := 69) (pc' := 191) rfl (hb hby own_dA_69) rfl hc (by decide) (by decide) ?_
      exact B191 l0 hf'
    · rw [hc] at hf'
      refine XS.icmpNo X0.here hx rfl (hb hby own_dA_69) rfl hc ?_
      exact B72 l0 hf'
  have B58 : ∀ (l0 : Int32), own_fA_58 l0 = r → Steps p.tables e below (s₁.setTop (mkF m 58 #[.val (.int l0)] [])) (s₁.setFrames fs) := by
    intro l0 hf
    show Steps p.tables e below (s₁.setTop (mkF m 58 #[.val (.int l0)] [])) _
    refine XS.iloadN X0.here hx rfl (hb hby own_dA_58) rfl ?_
    show Steps p.tables e below (s₁.setTop (mkF m 59 #[.val (.int l0)] [(.int l0)])) _
    refine XS.sipush X0.here hx rfl (hb hby own_dA_59) ?_
    show Steps p.tables e below (s₁.setTop (mkF m 62 #[.val (.int l0)] [(.int (248 : Int32)), (.int l0)])) _
    have hf' : (bif if_icmp.holds .lt l0 (248 : Int32) then own_fA_72 l0 else own_fA_65 l0) = r := hf
    rcases own_tf (if_icmp.holds .lt l0 (248 : Int32)) with hc | hc
    · rw [hc] at hf'
      refine XS.icmpYes X0.here hx rfl (pc0 := 62) (pc' := 72) rfl (hb hby own_dA_62) rfl hc (by decide) (by decide) ?_
      exact B72 l0 hf'
    · rw [hc] at hf'
      refine XS.icmpNo X0.here hx rfl (hb hby own_dA_62) rfl hc ?_
      exact B65 l0 hf'
  have B51 : ∀ (l0 : Int32), own_fA_51 l0 = r → Steps p.tables e below (s₁.setTop (mkF m 51 #[.val (.int l0)] [])) (s₁.setFrames fs) := by
    intro l0 hf
    show Steps p.tables e below (s₁.setTop (mkF m 51 #[.val (.int l0)] [])) _
    refine XS.iloadN X0.here hx rfl (hb hby own_dA_51) rfl ?_
    show Steps p.tables e below (s₁.setTop (mkF m 52 #[.val (.int l0)] [(.int l0)])) _
    refine XS.sipush X0.here hx rfl (hb hby own_dA_52) ?_
    show Steps p.tables e below (s₁.setTop (mkF m 55 #[.val (.int l0)] [(.int (246 : Int32)), (.int l0)])) _
    have hf' : (bif if_icmp.holds .le l0 (246 : Int32) then own_fA_191 l0 else own_fA_58 l0) = r := hf
    rcases own_tf (if_icmp.holds .le l0 (246 : Int32)) with hc | hc
    · rw [hc] at hf'
      refine XS.icmpYes X0.here hx rfl (pc0 := 55) (pc' := 191) rfl (hb hby own_dA_55) rfl hc (by decide) (by decide) ?_
      exact B191 l0 hf'
    · rw [hc] at hf'
      refine XS.icmpNo X0.here hx rfl (hb hby own_dA_55) rfl hc ?_
      exact B58 l0 hf'
  have B44 : ∀ (l0 : Int32), own_fA_44 l0 = r → Steps p.tables e below (s₁.setTop (mkF m 44 #[.val (.int l0)] [])) (s₁.setFrames fs) := by
    intro l0 hf
    show Steps p.tables e below (s₁.setTop (mkF m 44 #[.val (.int l0)] [])) _
    refine XS.iloadN X0.here hx rfl (hb hby own_dA_44) rfl ?_
    show Steps p.tables e below (s₁.setTop (mkF m 45 #[.val (.int l0)] [(.int l0)])) _
    refine XS.sipush X0.here hx rfl (hb hby own_dA_45) ?_
    show Steps p.tables e below (s₁.setTop (mkF m 48 #[.val (.int l0)] [(.int (216 : Int32)), (.int l0)])) _
    have hf' : (bif if_icmp.holds .lt l0 (216 : Int32) then own_fA_58 l0 else own_fA_51 l0) = r := hf
    rcases own_tf (if_icmp.holds .lt l0 (216 : Int32)) with hc | hc
    · rw [hc] at hf'
      refine XS.icmpYes X0.here hx rfl (pc0 := 48) (pc' := 58) rfl (hb hby own_dA_48) rfl hc (by decide) (by decide) ?_
      exact B58 l0 hf'
    · rw [hc] at hf'
      refine XS.icmpNo X0.here hx rfl (hb hby own_dA_48) rfl hc ?_
      exact B51 l0 hf'
  have B37 : ∀ (l0 : Int32), own_fA_37 l0 = r → Steps p.tables e below (s₁.setTop (mkF m 37 #[.val (.int l0)] [])) (s₁.setFrames fs) := by
    intro l0 hf
    show Steps p.tables e below (s₁.setTop (mkF m 37 #[.val (.int l0)] [])) _
    refine XS.iloadN X0.here hx rfl (hb hby own_dA_37) rfl ?_
    show Steps p.tables e below (s₁.setTop (mkF m 38 #[.val (.int l0)] [(.int l0)])) _
    refine XS.sipush X0.here hx rfl (hb hby own_dA_38) ?_
    show Steps p.tables e below (s₁.setTop (mkF m 41 #[.val (.int l0)] [(.int (214 : Int32)), (.int l0)])) _
    have hf' : (bif if_icmp.holds .le l0 (214 : Int32) then own_fA_191 l0 else own_fA_44 l0) = r := hf
    rcases own_tf (if_icmp.holds .le l0 (214 : Int32)) with hc | hc
    · rw [hc] at hf'
      refine XS.icmpYes X0.here hx rfl (pc0 := 41) (pc' := 191) rfl (hb hby own_dA_41) rfl hc (by decide) (by decide) ?_
      exact B191 l0 hf'
    · rw [hc] at hf'
      refine XS.icmpNo X0.here hx rfl (hb hby own_dA_41) rfl hc ?_
      exact B44 l0 hf'
  have B30 : ∀ (l0 : Int32), own_fA_30 l0 = r → Steps p.tables e below (s₁.setTop (mkF m 30 #[.val (.int l0)] [])) (s₁.setFrames fs) := by
    intro l0 hf
    show Steps p.tables e below (s₁.setTop (mkF m 30 #[.val (.int l0)] [])) _
    refine XS.iloadN X0.here hx rfl (hb hby own_dA_30) rfl ?_
    show Steps p.tables e below (s₁.setTop (mkF m 31 #[.val (.int l0)] [(.int l0)])) _
    refine XS.sipush X0.here hx rfl (hb hby own_dA_31) ?_
    show Steps p.tables e below (s₁.setTop (mkF m 34 #[.val (.int l0)] [(.int (192 : Int32)), (.int l0)])) _
    have hf' : (bif if_icmp.holds .lt l0 (192 : Int32) then own_fA_44 l0 else own_fA_37 l0) = r := hf
    rcases own_tf (if_icmp.holds .lt l0 (192 : Int32)) with hc | hc
    · rw [hc] at hf'
      refine XS.icmpYes X0.here hx rfl (pc0 := 34) (pc' := 44) rfl (hb hby own_dA_34) rfl hc (by decide) (by decide) ?_
      exact B44 l0 hf'
    · rw [hc] at hf'
      refine XS.icmpNo X0.here hx rfl (hb hby own_dA_34) rfl hc ?_
      exact B37 l0 hf'
  have B24 : ∀ (l0 : Int32), own_fA_24 l0 = r → Steps p.tables e below (s₁.setTop (mkF m 24 #[.val (.int l0)] [])) (s₁.setFrames fs) := by
    intro l0 hf
    show Steps p.tables e below (s₁.setTop (mkF m 24 #[.val (.int l0)] [])) _
    refine XS.iloadN X0.here hx rfl (hb hby own_dA_24) rfl ?_
    show Steps p.tables e below (s₁.setTop (mkF m 25 #[.val (.int l0)] [(.int l0)])) _
    refine XS.bipush X0.here hx rfl (hb hby own_dA_25) ?_
    show Steps p.tables e below (s₁.setTop (mkF m 27 #[.val (.int l0)] [(.int (95 : Int32)), (.int l0)])) _
    have hf' : (bif if_icmp.holds .eq l0 (95 : Int32) then own_fA_191 l0 else own_fA_30 l0) = r := hf
    rcases own_tf (if_icmp.holds .eq l0 (95 : Int32)) with hc | hc
    · rw [hc] at hf'
      refine XS.icmpYes X0.here hx rfl (pc0 := 27) (pc' := 191) rfl (hb hby own_dA_27) rfl hc (by decide) (by decide) ?_
      exact B191 l0 hf'
    · rw [hc] at hf'
      refine XS.icmpNo X0.here hx rfl (hb hby own_dA_27) rfl hc ?_
      exact B30 l0 hf'
  have B18 : ∀ (l0 : Int32), own_fA_18 l0 = r → Steps p.tables e below (s₁.setTop (mkF m 18 #[.val (.int l0)] [])) (s₁.setFrames fs) := by
    intro l0 hf
    show Steps p.tables e below (s₁.setTop (mkF m 18 #[.val (.int l0)] [])) _
    refine XS.iloadN X0.here hx rfl (hb hby own_dA_18) rfl ?_
    show Steps p.tables e below (s₁.setTop (mkF m 19 #[.val (.int l0)] [(.int l0)])) _
    refine XS.bipush X0.here hx rfl (hb hby own_dA_19) ?_
    show Steps p.tables e below (s₁.setTop (mkF m 21 #[.val (.int l0)] [(.int (90 : Int32)), (.int l0)])) _
    have hf' : (bif if_icmp.holds .le l0 (90 : Int32) then own_fA_191 l0 else own_fA_24 l0) = r := hf
    rcases own_tf (if_icmp.holds .le l0 (90 : Int32)) with hc | hc
    · rw [hc] at hf'
      refine XS.icmpYes X0.here hx rfl (pc0 := 21) (pc' := 191) rfl (hb hby own_dA_21) rfl hc (by decide) (by decide) ?_
      exact B191 l0 hf'
    · rw [hc] at hf'
      refine XS.icmpNo X0.here hx rfl (hb hby own_dA_21) rfl hc ?_
      exact B24 l0 hf'
  have B12 : ∀ (l0 : Int32), own_fA_12 l0 = r → Steps p.tables e below (s₁.setTop (mkF m 12 #[.val (.int l0)] [])) (s₁.setFrames fs) := by
    intro l0 hf
    show Steps p.tables e below (s₁.setTop (mkF m 12 #[.val (.int l0)] [])) _
    refine XS.iloadN X0.here hx rfl (hb hby own_dA_12) rfl ?_
    show Steps p.tables e below (s₁.setTop (mkF m 13 #[.val (.int l0)] [(.int l0)])) _
    refine XS.bipush X0.here hx rfl (hb hby own_dA_13) ?_
    show Steps p.tables e below (s₁.setTop (mkF m 15 #[.val (.int l0)] [(.int (65 : Int32)), (.int l0)])) _
    have hf' : (bif if_icmp.holds .lt l0 (65 : Int32) then own_fA_24 l0 else own_fA_18 l0) = r := hf
    rcases own_tf (if_icmp.holds .lt l0 (65 : Int32)) with hc | hc
    · rw [hc] at hf'
      refine XS.icmpYes X0.here hx rfl (pc0 := 15) (pc' := 24) rfl (hb hby own_dA_15) rfl hc (by decide) (by decide) ?_
      exact B24 l0 hf'
    · rw [hc] at hf'
      refine XS.icmpNo X0.here hx rfl (hb hby own_dA_15) rfl hc ?_
      exact B18 l0 hf'
  have B6 : ∀ (l0 : Int32), own_fA_6 l0 = r → Steps p.tables e below (s₁.setTop (mkF m 6 #[.val (.int l0)] [])) (s₁.setFrames fs) := by
    intro l0 hf
    show Steps p.tables e below (s₁.setTop (mkF m 6 #[.val (.int l0)] [])) _
    refine XS.iloadN X0.here hx rfl (hb hby own_dA_6) rfl ?_
    show Steps p.tables e below (s₁.setTop (mkF m 7 #[.val (.int l0)] [(.int l0)])) _
    refine XS.bipush X0.here hx rfl (hb hby own_dA_7) ?_
    show Steps p.tables e below (s₁.setTop (mkF m 9 #[.val (.int l0)] [(.int (122 : Int32)), (.int l0)])) _
    have hf' : (bif if_icmp.holds .le l0 (122 : Int32) then own_fA_191 l0 else own_fA_12 l0) = r := hf
    rcases own_tf (if_icmp.holds .le l0 (122 : Int32)) with hc | hc
    · rw [hc] at hf'
      refine XS.icmpYes X0.here hx rfl (pc0 := 9) (pc' := 191) rfl (hb hby own_dA_9) rfl hc (by decide) (by decide) ?_
      exact B191 l0 hf'
    · rw [hc] at hf'
      refine XS.icmpNo X0.here hx rfl (hb hby own_dA_9) rfl hc ?_
      exact B12 l0 hf'
  have B0 : ∀ (l0 : Int32), own_fA_0 l0 = r → Steps p.tables e below (s₁.setTop (mkF m 0 #[.val (.int l0)] [])) (s₁.setFrames fs) := by
    intro l0 hf
    show Steps p.tables e below (s₁.setTop (mkF m 0 #[.val (.int l0)] [])) _
    refine XS.iloadN X0.here hx rfl (hb hby own_dA_0) rfl ?_
    show Steps p.tables e below (s₁.setTop (mkF m 1 #[.val (.int l0)] [(.int l0)])) _
    refine XS.bipush X0.here hx rfl (hb hby own_dA_1) ?_
    show Steps p.tables e below (s₁.setTop (mkF m 3 #[.val (.int l0)] [(.int (97 : Int32)), (.int l0)])) _
    have hf' : (bif if_icmp.holds .lt l0 (97 : Int32) then own_fA_12 l0 else own_fA_6 l0) = r := hf
    rcases own_tf (if_icmp.holds .lt l0 (97 : Int32)) with hc | hc
    · rw [hc] at hf'
      refine XS.icmpYes X0.here hx rfl (pc0 := 3) (pc' := 12) rfl (hb hby own_dA_3) rfl hc (by decide) (by decide) ?_
      exact B12 l0 hf'
    · rw [hc] at hf'
      refine XS.icmpNo X0.here hx rfl (hb hby own_dA_3) rfl hc ?_
      exact B6 l0 hf'
  refine ⟨_, _, castTop (own_efA m p0) (B0 p0 hr0.symm), hrun, hended, _, _, rfl, ?_, ⟨_, rfl⟩, hW, hsame.mono (by decide) (by decide)⟩
  show own_Q _ h0 n0 _ s₁.heap _
  exact ⟨by rw [hr0], Fr.nil n0, e0⟩
theorem own_dB_0 : decode method_3_code 0 = .ok (.iload_n 0, 1) := by decide +kernel
theorem own_dB_1 : decode method_3_code 1 = .ok (.bipush 65, 2) := by decide +kernel
theorem own_dB_3 : decode method_3_code 3 = .ok (.if_icmp .lt 167, 3) := by decide +kernel
theorem own_dB_6 : decode method_3_code 6 = .ok (.iload_n 0, 1) := by decide +kernel
theorem own_dB_7 : decode method_3_code 7 = .ok (.bipush 90, 2) := by decide +kernel
theorem own_dB_9 : decode method_3_code 9 = .ok (.if_icmp .le 15, 3) := by decide +kernel
theorem own_dB_12 : decode method_3_code 12 = .ok (.iload_n 0, 1) := by decide +kernel
theorem own_dB_13 : decode method_3_code 13 = .ok (.bipush 97, 2) := by decide +kernel
theorem own_dB_15 : decode method_3_code 15 = .ok (.if_icmp .ge 9, 3) := by decide +kernel
theorem own_dB_18 : decode method_3_code 18 = .ok (.iload_n 0, 1) := by decide +kernel
theorem own_dB_19 : decode method_3_code 19 = .ok (.bipush 95, 2) := by decide +kernel
theorem own_dB_21 : decode method_3_code 21 = .ok (.if_icmp .ne 149, 3) := by decide +kernel
theorem own_dB_24 : decode method_3_code 24 = .ok (.iload_n 0, 1) := by decide +kernel
theorem own_dB_25 : decode method_3_code 25 = .ok (.bipush 122, 2) := by decide +kernel
theorem own_dB_27 : decode method_3_code 27 = .ok (.if_icmp .le 10, 3) := by decide +kernel
theorem own_dB_30 : decode method_3_code 30 = .ok (.iload_n 0, 1) := by decide +kernel
theorem own_dB_31 : decode method_3_code 31 = .ok (.sipush 192, 3) := by decide +kernel
theorem own_dB_34 : decode method_3_code 34 = .ok (.if_icmp .lt 136, 3) := by decide +kernel
theorem own_dB_37 : decode method_3_code 37 = .ok (.iload_n 0, 1) := by decide +kernel
theorem own_dB_38 : decode method_3_code 38 = .ok (.sipush 215, 3) := by decide +kernel
theorem own_dB_41 : decode method_3_code 41 = .ok (.if_icmp .eq 129, 3) := by decide +kernel
theorem own_dB_44 : decode method_3_code 44 = .ok (.iload_n 0, 1) := by decide +kernel
theorem own_dB_45 : decode method_3_code 45 = .ok (.sipush 247, 3) := by decide +kernel
theorem own_dB_48 : decode method_3_code 48 = .ok (.if_icmp .eq 122, 3) := by decide +kernel
theorem own_dB_51 : decode method_3_code 51 = .ok (.iload_n 0, 1) := by decide +kernel
theorem own_dB_52 : decode method_3_code 52 = .ok (.sipush 768, 3) := by decide +kernel
theorem own_dB_55 : decode method_3_code 55 = .ok (.if_icmp .lt 10, 3) := by decide +kernel
theorem own_dB_58 : decode method_3_code 58 = .ok (.iload_n 0, 1) := by decide +kernel
theorem own_dB_59 : decode method_3_code 59 = .ok (.sipush 879, 3) := by decide +kernel
theorem own_dB_62 : decode method_3_code 62 = .ok (.if_icmp .le 108, 3) := by decide +kernel
theorem own_dB_65 : decode method_3_code 65 = .ok (.iload_n 0, 1) := by decide +kernel
theorem own_dB_66 : decode method_3_code 66 = .ok (.sipush 894, 3) := by decide +kernel
theorem own_dB_69 : decode method_3_code 69 = .ok (.if_icmp .eq 101, 3) := by decide +kernel
theorem own_dB_72 : decode method_3_code 72 = .ok (.iload_n 0, 1) := by decide +kernel
theorem own_dB_73 : decode method_3_code 73 = .ok (.sipush 8192, 3) := by decide +kernel
theorem own_dB_76 : decode method_3_code 76 = .ok (.if_icmp .lt 10, 3) := by decide +kernel
theorem own_dB_79 : decode method_3_code 79 = .ok (.iload_n 0, 1) := by decide +kernel
theorem own_dB_80 : decode method_3_code 80 = .ok (.sipush 8203, 3) := by decide +kernel
theorem own_dB_83 : decode method_3_code 83 = .ok (.if_icmp .le 87, 3) := by decide +kernel
theorem own_dB_86 : decode method_3_code 86 = .ok (.iload_n 0, 1) := by decide +kernel
theorem own_dB_87 : decode method_3_code 87 = .ok (.sipush 8206, 3) := by decide +kernel
theorem own_dB_90 : decode method_3_code 90 = .ok (.if_icmp .lt 10, 3) := by decide +kernel
theorem own_dB_93 : decode method_3_code 93 = .ok (.iload_n 0, 1) := by decide +kernel
theorem own_dB_94 : decode method_3_code 94 = .ok (.sipush 8303, 3) := by decide +kernel
theorem own_dB_97 : decode method_3_code 97 = .ok (.if_icmp .le 73, 3) := by decide +kernel
theorem own_dB_100 : decode method_3_code 100 = .ok (.iload_n 0, 1) := by decide +kernel
theorem own_dB_101 : decode method_3_code 101 = .ok (.sipush 8592, 3) := by decide +kernel
theorem own_dB_104 : decode method_3_code 104 = .ok (.if_icmp .lt 10, 3) := by decide +kernel
theorem own_dB_107 : decode method_3_code 107 = .ok (.iload_n 0, 1) := by decide +kernel
theorem own_dB_108 : decode method_3_code 108 = .ok (.sipush 11263, 3) := by decide +kernel
theorem own_dB_111 : decode method_3_code 111 = .ok (.if_icmp .le 59, 3) := by decide +kernel
theorem own_dB_114 : decode method_3_code 114 = .ok (.iload_n 0, 1) := by decide +kernel
theorem own_dB_115 : decode method_3_code 115 = .ok (.sipush 12272, 3) := by decide +kernel
theorem own_dB_118 : decode method_3_code 118 = .ok (.if_icmp .lt 10, 3) := by decide +kernel
theorem own_dB_121 : decode method_3_code 121 = .ok (.iload_n 0, 1) := by decide +kernel
theorem own_dB_122 : decode method_3_code 122 = .ok (.sipush 12288, 3) := by decide +kernel
theorem own_dB_125 : decode method_3_code 125 = .ok (.if_icmp .le 45, 3) := by decide +kernel
theorem own_dB_128 : decode method_3_code 128 = .ok (.iload_n 0, 1) := by decide +kernel
theorem own_dB_129 : decode method_3_code 129 = .ok (.ldc 29, 2) := by decide +kernel
theorem own_dB_131 : decode method_3_code 131 = .ok (.if_icmp .lt 9, 3) := by decide +kernel
theorem own_dB_134 : decode method_3_code 134 = .ok (.iload_n 0, 1) := by decide +kernel
theorem own_dB_135 : decode method_3_code 135 = .ok (.ldc 30, 2) := by decide +kernel
theorem own_dB_137 : decode method_3_code 137 = .ok (.if_icmp .le 33, 3) := by decide +kernel
theorem own_dB_140 : decode method_3_code 140 = .ok (.iload_n 0, 1) := by decide +kernel
theorem own_dB_141 : decode method_3_code 141 = .ok (.ldc 31, 2) := by decide +kernel
theorem own_dB_143 : decode method_3_code 143 = .ok (.if_icmp .lt 9, 3) := by decide +kernel
theorem own_dB_146 : decode method_3_code 146 = .ok (.iload_n 0, 1) := by decide +kernel
theorem own_dB_147 : decode method_3_code 147 = .ok (.ldc 32, 2) := by decide +kernel
theorem own_dB_149 : decode method_3_code 149 = .ok (.if_icmp .le 21, 3) := by decide +kernel
theorem own_dB_152 : decode method_3_code 152 = .ok (.iload_n 0, 1) := by decide +kernel
theorem own_dB_153 : decode method_3_code 153 = .ok (.ldc 33, 2) := by decide +kernel
theorem own_dB_155 : decode method_3_code 155 = .ok (.if_icmp .lt 9, 3) := by decide +kernel
theorem own_dB_158 : decode method_3_code 158 = .ok (.iload_n 0, 1) := by decide +kernel
theorem own_dB_159 : decode method_3_code 159 = .ok (.ldc 34, 2) := by decide +kernel
theorem own_dB_161 : decode method_3_code 161 = .ok (.if_icmp .le 9, 3) := by decide +kernel
theorem own_dB_164 : decode method_3_code 164 = .ok (.iload_n 0, 1) := by decide +kernel
theorem own_dB_165 : decode method_3_code 165 = .ok (.ldc 35, 2) := by decide +kernel
theorem own_dB_167 : decode method_3_code 167 = .ok (.if_icmp .lt 7, 3) := by decide +kernel
theorem own_dB_170 : decode method_3_code 170 = .ok (.iconst 1, 1) := by decide +kernel
theorem own_dB_171 : decode method_3_code 171 = .ok (.goto 4, 3) := by decide +kernel
theorem own_dB_174 : decode method_3_code 174 = .ok (.iconst 0, 1) := by decide +kernel
theorem own_dB_175 : decode method_3_code 175 = .ok (.ireturn, 1) := by decide +kernel
theorem own_pnB : plainName "com/example/quillon/quillon/xdm/XmlCharsIsNameStartCharPinLaw" = true := by first | (simp [plainName, overriddenIn]; done) | decide +kernel
theorem own_pdB : parseMethodDescriptor "(I)Z" = some ⟨[.int], some .boolean⟩ := by decide +kernel
theorem own_efB (m : MethodId) (x0 : Int32) : entryFrame m #[(.int x0)] 1 = mkF m 0 #[.val (.int x0)] [] := by first | (simp [entryFrame, mkF, argsToLocals, Value.category]; done) | rfl
def own_fB_175 (l0 : Int32) (s0 : Int32) : Int32 := s0
def own_fB_174 (l0 : Int32) : Int32 := own_fB_175 l0 (0 : Int32)
def own_fB_170 (l0 : Int32) : Int32 := own_fB_175 l0 (1 : Int32)
def own_fB_164 (l0 : Int32) : Int32 := bif if_icmp.holds .lt l0 (983040 : Int32) then own_fB_174 l0 else own_fB_170 l0
def own_fB_158 (l0 : Int32) : Int32 := bif if_icmp.holds .le l0 (65535 : Int32) then own_fB_170 l0 else own_fB_164 l0
def own_fB_152 (l0 : Int32) : Int32 := bif if_icmp.holds .lt l0 (65534 : Int32) then own_fB_164 l0 else own_fB_158 l0
def own_fB_146 (l0 : Int32) : Int32 := bif if_icmp.holds .le l0 (65007 : Int32) then own_fB_170 l0 else own_fB_152 l0
def own_fB_140 (l0 : Int32) : Int32 := bif if_icmp.holds .lt l0 (64976 : Int32) then own_fB_152 l0 else own_fB_146 l0
def own_fB_134 (l0 : Int32) : Int32 := bif if_icmp.holds .le l0 (63743 : Int32) then own_fB_170 l0 else own_fB_140 l0
def own_fB_128 (l0 : Int32) : Int32 := bif if_icmp.holds .lt l0 (55296 : Int32) then own_fB_140 l0 else own_fB_134 l0
def own_fB_121 (l0 : Int32) : Int32 := bif if_icmp.holds .le l0 (12288 : Int32) then own_fB_170 l0 else own_fB_128 l0
def own_fB_114 (l0 : Int32) : Int32 := bif if_icmp.holds .lt l0 (12272 : Int32) then own_fB_128 l0 else own_fB_121 l0
def own_fB_107 (l0 : Int32) : Int32 := bif if_icmp.holds .le l0 (11263 : Int32) then own_fB_170 l0 else own_fB_114 l0
def own_fB_100 (l0 : Int32) : Int32 := bif if_icmp.holds .lt l0 (8592 : Int32) then own_fB_114 l0 else own_fB_107 l0
def own_fB_93 (l0 : Int32) : Int32 := bif if_icmp.holds .le l0 (8303 : Int32) then own_fB_170 l0 else own_fB_100 l0
def own_fB_86 (l0 : Int32) : Int32 := bif if_icmp.holds .lt l0 (8206 : Int32) then own_fB_100 l0 else own_fB_93 l0
def own_fB_79 (l0 : Int32) : Int32 := bif if_icmp.holds .le l0 (8203 : Int32) then own_fB_170 l0 else own_fB_86 l0
def own_fB_72 (l0 : Int32) : Int32 := bif if_icmp.holds .lt l0 (8192 : Int32) then own_fB_86 l0 else own_fB_79 l0
def own_fB_65 (l0 : Int32) : Int32 := bif if_icmp.holds .eq l0 (894 : Int32) then own_fB_170 l0 else own_fB_72 l0
def own_fB_58 (l0 : Int32) : Int32 := bif if_icmp.holds .le l0 (879 : Int32) then own_fB_170 l0 else own_fB_65 l0
def own_fB_51 (l0 : Int32) : Int32 := bif if_icmp.holds .lt l0 (768 : Int32) then own_fB_65 l0 else own_fB_58 l0
def own_fB_44 (l0 : Int32) : Int32 := bif if_icmp.holds .eq l0 (247 : Int32) then own_fB_170 l0 else own_fB_51 l0
def own_fB_37 (l0 : Int32) : Int32 := bif if_icmp.holds .eq l0 (215 : Int32) then own_fB_170 l0 else own_fB_44 l0
def own_fB_30 (l0 : Int32) : Int32 := bif if_icmp.holds .lt l0 (192 : Int32) then own_fB_170 l0 else own_fB_37 l0
def own_fB_24 (l0 : Int32) : Int32 := bif if_icmp.holds .le l0 (122 : Int32) then own_fB_37 l0 else own_fB_30 l0
def own_fB_18 (l0 : Int32) : Int32 := bif if_icmp.holds .ne l0 (95 : Int32) then own_fB_170 l0 else own_fB_24 l0
def own_fB_12 (l0 : Int32) : Int32 := bif if_icmp.holds .ge l0 (97 : Int32) then own_fB_24 l0 else own_fB_18 l0
def own_fB_6 (l0 : Int32) : Int32 := bif if_icmp.holds .le l0 (90 : Int32) then own_fB_24 l0 else own_fB_12 l0
def own_fB_0 (l0 : Int32) : Int32 := bif if_icmp.holds .lt l0 (65 : Int32) then own_fB_170 l0 else own_fB_6 l0
set_option maxRecDepth 65536 in
set_option maxHeartbeats 40000000 in
theorem own_rmB (l : Launch) (Z : State) (a0 : Array Value) (hw : ∀ d ∈ tables_1, d.before a0 Z = true) (ws : List Jvm.Cond) (p0 : Int32) (h0 : Heap) (n0 : Nat) :
    MetFree l (⟨"com/example/quillon/quillon/xdm/XmlCharsIsNameStartCharPinLaw", "excluded", "(I)Z"⟩ : MethodName) (head1 (Jvm.Cond.code (⟨"com/example/quillon/quillon/xdm/XmlCharsIsNameStartCharPinLaw", "excluded", "(I)Z"⟩ : MethodName) method_3_code 1 (some .boolean) :: ws) ({ frames := 0, cells := 0, slots := 0, locals := 0 } : Room)) (fun a U => a = #[(.int p0)] ∧ Z.Warmed39 U.vm ∧ U.heap = h0) (fun _ _ _ _ _ => True) (fun _ U o U' => ∃ v L, o = .returned v ∧ own_Q (some (.int (nar .boolean (own_fB_0 p0)))) h0 n0 v U'.heap L ∧ FrameEnd U o U' L ({ frames := 0, cells := 0, slots := 0, locals := 0 } : Room).cells ({ frames := 0, cells := 0, slots := 0, locals := 0 } : Room).slots) := by
  refine MetFree.of_bodySF (plainFor_of_name own_pnB) hisR ?_
  intro p e s m args below meth c s₁ Bd hml0 hP hK
  obtain ⟨rfl, hZ, hh⟩ := hP
  have hx := Bd.exec
  have hby := Bd.bytes
  have hown : s.vm.findClass "com/example/quillon/quillon/xdm/XmlCharsIsNameStartCharPinLaw" = some m.cls := findClass_of_methodNamed Bd.named
  have X0 : Stand p l e ({ frames := 0, cells := 0, slots := 0, locals := 0 } : Room) s m #[(.int p0)] below meth c s₁ [] 0 0 := Stand.of_body Bd
  have e0 : s₁.heap = h0 := by rw [← hh, Bd.state]; rfl
  obtain ⟨r, hr0⟩ : ∃ r, r = (own_fB_0 p0) := ⟨_, rfl⟩
  obtain ⟨fs, hr, hrun, hended, hW, hsame⟩ := X0.leave (v := some (.int (nar .boolean r))) (fun h => by rw [Bd.returns] at h; cases h)
  have B175 : ∀ (l0 : Int32) (s0 : Int32), own_fB_175 l0 s0 = r → Steps p.tables e below (s₁.setTop (mkF m 175 #[.val (.int l0)] [(.int s0)])) (s₁.setFrames fs) := by
    intro l0 s0 hf
    show Steps p.tables e below (s₁.setTop (mkF m 175 #[.val (.int l0)] [(.int s0)])) _
    have hf' : s0 = r := hf
    exact retN X0 hx (t := .boolean) Bd.returns (by simp) (hb hby own_dB_175) (by rw [hf']; exact hr)
  have B174 : ∀ (l0 : Int32), own_fB_174 l0 = r → Steps p.tables e below (s₁.setTop (mkF m 174 #[.val (.int l0)] [])) (s₁.setFrames fs) := by
    intro l0 hf
    show Steps p.tables e below (s₁.setTop (mkF m 174 #[.val (.int l0)] [])) _
    refine XS.iconst X0.here hx rfl (hb hby own_dB_174) ?_
    have hf' : own_fB_175 l0 (0 : Int32) = r := hf
    exact B175 l0 (0 : Int32) hf'
  have B170 : ∀ (l0 : Int32), own_fB_170 l0 = r → Steps p.tables e below (s₁.setTop (mkF m 170 #[.val (.int l0)] [])) (s₁.setFrames fs) := by
    intro l0 hf
    show Steps p.tables e below (s₁.setTop (mkF m 170 #[.val (.int l0)] [])) _
    refine XS.iconst X0.here hx rfl (hb hby own_dB_170) ?_
    show Steps p.tables e below (s₁.setTop (mkF m 171 #[.val (.int l0)] [(.int (1 : Int32))])) _
    refine XS.goto X0.here hx rfl (pc0 := 171) (pc' := 175) rfl (hb hby own_dB_171) (by decide) (by decide) ?_
    have hf' : own_fB_175 l0 (1 : Int32) = r := hf
    exact B175 l0 (1 : Int32) hf'
  have B164 : ∀ (l0 : Int32), own_fB_164 l0 = r → Steps p.tables e below (s₁.setTop (mkF m 164 #[.val (.int l0)] [])) (s₁.setFrames fs) := by
    intro l0 hf
    show Steps p.tables e below (s₁.setTop (mkF m 164 #[.val (.int l0)] [])) _
    refine XS.iloadN X0.here hx rfl (hb hby own_dB_164) rfl ?_
    show Steps p.tables e below (s₁.setTop (mkF m 165 #[.val (.int l0)] [(.int l0)])) _
    refine X0.ldcInt hx hown (mvT hZ (hw _ (List.mem_of_getElem? (i := 31) rfl))) (g := (mkF m 165 #[.val (.int l0)] [(.int l0)])) rfl (hb hby own_dB_165) _ ?_
    show Steps p.tables e below (s₁.setTop (mkF m 167 #[.val (.int l0)] [(.int (983040 : Int32)), (.int l0)])) _
    have hf' : (bif if_icmp.holds .lt l0 (983040 : Int32) then own_fB_174 l0 else own_fB_170 l0) = r := hf
    rcases own_tf (if_icmp.holds .lt l0 (983040 : Int32)) with hc | hc
    · rw [hc] at hf'
      refine XS.icmpYes X0.here hx rfl (pc0 := 167) (pc' := 174) rfl (hb hby own_dB_167) rfl hc (by decide) (by decide) ?_
      exact B174 l0 hf'
    · rw [hc] at hf'
      refine XS.icmpNo X0.here hx rfl (hb hby own_dB_167) rfl hc ?_
      exact B170 l0 hf'
  have B158 : ∀ (l0 : Int32), own_fB_158 l0 = r → Steps p.tables e below (s₁.setTop (mkF m 158 #[.val (.int l0)] [])) (s₁.setFrames fs) := by
    intro l0 hf
    show Steps p.tables e below (s₁.setTop (mkF m 158 #[.val (.int l0)] [])) _
    refine XS.iloadN X0.here hx rfl (hb hby own_dB_158) rfl ?_
    show Steps p.tables e below (s₁.setTop (mkF m 159 #[.val (.int l0)] [(.int l0)])) _
    refine X0.ldcInt hx hown (mvT hZ (hw _ (List.mem_of_getElem? (i := 30) rfl))) (g := (mkF m 159 #[.val (.int l0)] [(.int l0)])) rfl (hb hby own_dB_159) _ ?_
    show Steps p.tables e below (s₁.setTop (mkF m 161 #[.val (.int l0)] [(.int (65535 : Int32)), (.int l0)])) _
    have hf' : (bif if_icmp.holds .le l0 (65535 : Int32) then own_fB_170 l0 else own_fB_164 l0) = r := hf
    rcases own_tf (if_icmp.holds .le l0 (65535 : Int32)) with hc | hc
    · rw [hc] at hf'
      refine XS.icmpYes X0.here hx rfl (pc0 := 161) (pc' := 170) rfl (hb hby own_dB_161) rfl hc (by decide) (by decide) ?_
      exact B170 l0 hf'
    · rw [hc] at hf'
      refine XS.icmpNo X0.here hx rfl (hb hby own_dB_161) rfl hc ?_
      exact B164 l0 hf'
  have B152 : ∀ (l0 : Int32), own_fB_152 l0 = r → Steps p.tables e below (s₁.setTop (mkF m 152 #[.val (.int l0)] [])) (s₁.setFrames fs) := by
    intro l0 hf
    show Steps p.tables e below (s₁.setTop (mkF m 152 #[.val (.int l0)] [])) _
    refine XS.iloadN X0.here hx rfl (hb hby own_dB_152) rfl ?_
    show Steps p.tables e below (s₁.setTop (mkF m 153 #[.val (.int l0)] [(.int l0)])) _
    refine X0.ldcInt hx hown (mvT hZ (hw _ (List.mem_of_getElem? (i := 29) rfl))) (g := (mkF m 153 #[.val (.int l0)] [(.int l0)])) rfl (hb hby own_dB_153) _ ?_
    show Steps p.tables e below (s₁.setTop (mkF m 155 #[.val (.int l0)] [(.int (65534 : Int32)), (.int l0)])) _
    have hf' : (bif if_icmp.holds .lt l0 (65534 : Int32) then own_fB_164 l0 else own_fB_158 l0) = r := hf
    rcases own_tf (if_icmp.holds .lt l0 (65534 : Int32)) with hc | hc
    · rw [hc] at hf'
      refine XS.icmpYes X0.here hx rfl (pc0 := 155) (pc' := 164) rfl (hb hby own_dB_155) rfl hc (by decide) (by decide) ?_
      exact B164 l0 hf'
    · rw [hc] at hf'
      refine XS.icmpNo X0.here hx rfl (hb hby own_dB_155) rfl hc ?_
      exact B158 l0 hf'
  have B146 : ∀ (l0 : Int32), own_fB_146 l0 = r → Steps p.tables e below (s₁.setTop (mkF m 146 #[.val (.int l0)] [])) (s₁.setFrames fs) := by
    intro l0 hf
    show Steps p.tables e below (s₁.setTop (mkF m 146 #[.val (.int l0)] [])) _
    refine XS.iloadN X0.here hx rfl (hb hby own_dB_146) rfl ?_
    show Steps p.tables e below (s₁.setTop (mkF m 147 #[.val (.int l0)] [(.int l0)])) _
    refine X0.ldcInt hx hown (mvT hZ (hw _ (List.mem_of_getElem? (i := 28) rfl))) (g := (mkF m 147 #[.val (.int l0)] [(.int l0)])) rfl (hb hby own_dB_147) _ ?_
    show Steps p.tables e below (s₁.setTop (mkF m 149 #[.val (.int l0)] [(.int (65007 : Int32)), (.int l0)])) _
    have hf' : (bif if_icmp.holds .le l0 (65007 : Int32) then own_fB_170 l0 else own_fB_152 l0) = r := hf
    rcases own_tf (if_icmp.holds .le l0 (65007 : Int32)) with hc | hc
    · rw [hc] at hf'
      refine XS.icmpYes X0.here hx rfl (pc0 := 149) (pc' := 170) rfl (hb hby own_dB_149) rfl hc (by decide) (by decide) ?_
      exact B170 l0 hf'
    · rw [hc] at hf'
      refine XS.icmpNo X0.here hx rfl (hb hby own_dB_149) rfl hc ?_
      exact B152 l0 hf'
  have B140 : ∀ (l0 : Int32), own_fB_140 l0 = r → Steps p.tables e below (s₁.setTop (mkF m 140 #[.val (.int l0)] [])) (s₁.setFrames fs) := by
    intro l0 hf
    show Steps p.tables e below (s₁.setTop (mkF m 140 #[.val (.int l0)] [])) _
    refine XS.iloadN X0.here hx rfl (hb hby own_dB_140) rfl ?_
    show Steps p.tables e below (s₁.setTop (mkF m 141 #[.val (.int l0)] [(.int l0)])) _
    refine X0.ldcInt hx hown (mvT hZ (hw _ (List.mem_of_getElem? (i := 27) rfl))) (g := (mkF m 141 #[.val (.int l0)] [(.int l0)])) rfl (hb hby own_dB_141) _ ?_
    show Steps p.tables e below (s₁.setTop (mkF m 143 #[.val (.int l0)] [(.int (64976 : Int32)), (.int l0)])) _
    have hf' : (bif if_icmp.holds .lt l0 (64976 : Int32) then own_fB_152 l0 else own_fB_146 l0) = r := hf
    rcases own_tf (if_icmp.holds .lt l0 (64976 : Int32)) with hc | hc
    · rw [hc] at hf'
      refine XS.icmpYes X0.here hx rfl (pc0 := 143) (pc' := 152) rfl (hb hby own_dB_143) rfl hc (by decide) (by decide) ?_
      exact B152 l0 hf'
    · rw [hc] at hf'
      refine XS.icmpNo X0.here hx rfl (hb hby own_dB_143) rfl hc ?_
      exact B146 l0 hf'
  have B134 : ∀ (l0 : Int32), own_fB_134 l0 = r → Steps p.tables e below (s₁.setTop (mkF m 134 #[.val (.int l0)] [])) (s₁.setFrames fs) := by
    intro l0 hf
    show Steps p.tables e below (s₁.setTop (mkF m 134 #[.val (.int l0)] [])) _
    refine XS.iloadN X0.here hx rfl (hb hby own_dB_134) rfl ?_
    show Steps p.tables e below (s₁.setTop (mkF m 135 #[.val (.int l0)] [(.int l0)])) _
    refine X0.ldcInt hx hown (mvT hZ (hw _ (List.mem_of_getElem? (i := 26) rfl))) (g := (mkF m 135 #[.val (.int l0)] [(.int l0)])) rfl (hb hby own_dB_135) _ ?_
    show Steps p.tables e below (s₁.setTop (mkF m 137 #[.val (.int l0)] [(.int (63743 : Int32)), (.int l0)])) _
    have hf' : (bif if_icmp.holds .le l0 (63743 : Int32) then own_fB_170 l0 else own_fB_140 l0) = r := hf
    rcases own_tf (if_icmp.holds .le l0 (63743 : Int32)) with hc | hc
    · rw [hc] at hf'
      refine XS.icmpYes X0.here hx rfl (pc0 := 137) (pc' := 170) rfl (hb hby own_dB_137) rfl hc (by decide) (by decide) ?_
      exact B170 l0 hf'
    · rw [hc] at hf'
      refine XS.icmpNo X0.here hx rfl (hb hby own_dB_137) rfl hc ?_
      exact B140 l0 hf'
  have B128 : ∀ (l0 : Int32), own_fB_128 l0 = r → Steps p.tables e below (s₁.setTop (mkF m 128 #[.val (.int l0)] [])) (s₁.setFrames fs) := by
    intro l0 hf
    show Steps p.tables e below (s₁.setTop (mkF m 128 #[.val (.int l0)] [])) _
    refine XS.iloadN X0.here hx rfl (hb hby own_dB_128) rfl ?_
    show Steps p.tables e below (s₁.setTop (mkF m 129 #[.val (.int l0)] [(.int l0)])) _
    refine X0.ldcInt hx hown (mvT hZ (hw _ (List.mem_of_getElem? (i := 25) rfl))) (g := (mkF m 129 #[.val (.int l0)] [(.int l0)])) rfl (hb hby own_dB_129) _ ?_
    show Steps p.tables e below (s₁.setTop (mkF m 131 #[.val (.int l0)] [(.int (55296 : Int32)), (.int l0)])) _
    have hf' : (bif if_icmp.holds .lt l0 (55296 : Int32) then own_fB_140 l0 else own_fB_134 l0) = r := hf
    rcases own_tf (if_icmp.holds .lt l0 (55296 : Int32)) with hc | hc
    · rw [hc] at hf'
      refine XS.icmpYes X0.here hx rfl (pc0 := 131) (pc' := 140) rfl (hb hby own_dB_131) rfl hc (by decide) (by decide) ?_
      exact B140 l0 hf'
    · rw [hc] at hf'
      refine XS.icmpNo X0.here hx rfl (hb hby own_dB_131) rfl hc ?_
      exact B134 l0 hf'
  have B121 : ∀ (l0 : Int32), own_fB_121 l0 = r → Steps p.tables e below (s₁.setTop (mkF m 121 #[.val (.int l0)] [])) (s₁.setFrames fs) := by
    intro l0 hf
    show Steps p.tables e below (s₁.setTop (mkF m 121 #[.val (.int l0)] [])) _
    refine XS.iloadN X0.here hx rfl (hb hby own_dB_121) rfl ?_
    show Steps p.tables e below (s₁.setTop (mkF m 122 #[.val (.int l0)] [(.int l0)])) _
    refine XS.sipush X0.here hx rfl (hb hby own_dB_122) ?_
    show Steps p.tables e below (s₁.setTop (mkF m 125 #[.val (.int l0)] [(.int (12288 : Int32)), (.int l0)])) _
    have hf' : (bif if_icmp.holds .le l0 (12288 : Int32) then own_fB_170 l0 else own_fB_128 l0) = r := hf
    rcases own_tf (if_icmp.holds .le l0 (12288 : Int32)) with hc | hc
    · rw [hc] at hf'
      refine XS.icmpYes X0.here hx rfl (pc0 := 125) (pc' := 170) rfl (hb hby own_dB_125) rfl hc (by decide) (by decide) ?_
      exact B170 l0 hf'
    · rw [hc] at hf'
      refine XS.icmpNo X0.here hx rfl (hb hby own_dB_125) rfl hc ?_
      exact B128 l0 hf'
  have B114 : ∀ (l0 : Int32), own_fB_114 l0 = r → Steps p.tables e below (s₁.setTop (mkF m 114 #[.val (.int l0)] [])) (s₁.setFrames fs) := by
    intro l0 hf
    show Steps p.tables e below (s₁.setTop (mkF m 114 #[.val (.int l0)] [])) _
    refine XS.iloadN X0.here hx rfl (hb hby own_dB_114) rfl ?_
    show Steps p.tables e below (s₁.setTop (mkF m 115 #[.val (.int l0)] [(.int l0)])) _
    refine XS.sipush X0.here hx rfl (hb hby own_dB_115) ?_
    show Steps p.tables e below (s₁.setTop (mkF m 118 #[.val (.int l0)] [(.int (12272 : Int32)), (.int l0)])) _
    have hf' : (bif if_icmp.holds .lt l0 (12272 : Int32) then own_fB_128 l0 else own_fB_121 l0) = r := hf
    rcases own_tf (if_icmp.holds .lt l0 (12272 : Int32)) with hc | hc
    · rw [hc] at hf'
      refine XS.icmpYes X0.here hx rfl (pc0 := 118) (pc' := 128) rfl (hb hby own_dB_118) rfl hc (by decide) (by decide) ?_
      exact B128 l0 hf'
    · rw [hc] at hf'
      refine XS.icmpNo X0.here hx rfl (hb hby own_dB_118) rfl hc ?_
      exact B121 l0 hf'
  have B107 : ∀ (l0 : Int32), own_fB_107 l0 = r → Steps p.tables e below (s₁.setTop (mkF m 107 #[.val (.int l0)] [])) (s₁.setFrames fs) := by
    intro l0 hf
    show Steps p.tables e below (s₁.setTop (mkF m 107 #[.val (.int l0)] [])) _
    refine XS.iloadN X0.here hx rfl (hb hby own_dB_107) rfl ?_
    show Steps p.tables e below (s₁.setTop (mkF m 108 #[.val (.int l0)] [(.int l0)])) _
    refine XS.sipush X0.here hx rfl (hb hby own_dB_108) ?_
    show Steps p.tables e below (s₁.setTop (mkF m 111 #[.val (.int l0)] [(.int (11263 : Int32)), (.int l0)])) _
    have hf' : (bif if_icmp.holds .le l0 (11263 : Int32) then own_fB_170 l0 else own_fB_114 l0) = r := hf
    rcases own_tf (if_icmp.holds .le l0 (11263 : Int32)) with hc | hc
    · rw [hc] at hf'
      refine XS.icmpYes X0.here hx rfl (pc0 := 111) (pc' := 170) rfl (hb hby own_dB_111) rfl hc (by decide) (by decide) ?_
      exact B170 l0 hf'
    · rw [hc] at hf'
      refine XS.icmpNo X0.here hx rfl (hb hby own_dB_111) rfl hc ?_
      exact B114 l0 hf'
  have B100 : ∀ (l0 : Int32), own_fB_100 l0 = r → Steps p.tables e below (s₁.setTop (mkF m 100 #[.val (.int l0)] [])) (s₁.setFrames fs) := by
    intro l0 hf
    show Steps p.tables e below (s₁.setTop (mkF m 100 #[.val (.int l0)] [])) _
    refine XS.iloadN X0.here hx rfl (hb hby own_dB_100) rfl ?_
    show Steps p.tables e below (s₁.setTop (mkF m 101 #[.val (.int l0)] [(.int l0)])) _
    refine XS.sipush X0.here hx rfl (hb hby own_dB_101) ?_
    show Steps p.tables e below (s₁.setTop (mkF m 104 #[.val (.int l0)] [(.int (8592 : Int32)), (.int l0)])) _
    have hf' : (bif if_icmp.holds .lt l0 (8592 : Int32) then own_fB_114 l0 else own_fB_107 l0) = r := hf
    rcases own_tf (if_icmp.holds .lt l0 (8592 : Int32)) with hc | hc
    · rw [hc] at hf'
      refine XS.icmpYes X0.here hx rfl (pc0 := 104) (pc' := 114) rfl (hb hby own_dB_104) rfl hc (by decide) (by decide) ?_
      exact B114 l0 hf'
    · rw [hc] at hf'
      refine XS.icmpNo X0.here hx rfl (hb hby own_dB_104) rfl hc ?_
      exact B107 l0 hf'
  have B93 : ∀ (l0 : Int32), own_fB_93 l0 = r → Steps p.tables e below (s₁.setTop (mkF m 93 #[.val (.int l0)] [])) (s₁.setFrames fs) := by
    intro l0 hf
    show Steps p.tables e below (s₁.setTop (mkF m 93 #[.val (.int l0)] [])) _
    refine XS.iloadN X0.here hx rfl (hb hby own_dB_93) rfl ?_
    show Steps p.tables e below (s₁.setTop (mkF m 94 #[.val (.int l0)] [(.int l0)])) _
    refine XS.sipush X0.here hx rfl (hb hby own_dB_94) ?_
    show Steps p.tables e below (s₁.setTop (mkF m 97 #[.val (.int l0)] [(.int (8303 : Int32)), (.int l0)])) _
    have hf' : (bif if_icmp.holds .le l0 (8303 : Int32) then own_fB_170 l0 else own_fB_100 l0) = r := hf
    rcases own_tf (if_icmp.holds .le l0 (8303 : Int32)) with hc | hc
    · rw [hc] at hf'
      refine XS.icmpYes X0.here hx rfl (pc0 := 97) (pc' := 170) rfl (hb hby own_dB_97) rfl hc (by decide) (by decide) ?_
      exact B170 l0 hf'
    · rw [hc] at hf'
      refine XS.icmpNo X0.here hx rfl (hb hby own_dB_97) rfl hc ?_
      exact B100 l0 hf'
  have B86 : ∀ (l0 : Int32), own_fB_86 l0 = r → Steps p.tables e below (s₁.setTop (mkF m 86 #[.val (.int l0)] [])) (s₁.setFrames fs) := by
    intro l0 hf
    show Steps p.tables e below (s₁.setTop (mkF m 86 #[.val (.int l0)] [])) _
    refine XS.iloadN X0.here hx rfl (hb hby own_dB_86) rfl ?_
    show Steps p.tables e below (s₁.setTop (mkF m 87 #[.val (.int l0)] [(.int l0)])) _
    refine XS.sipush X0.here hx rfl (hb hby own_dB_87) ?_
    show Steps p.tables e below (s₁.setTop (mkF m 90 #[.val (.int l0)] [(.int (8206 : Int32)), (.int l0)])) _
    have hf' : (bif if_icmp.holds .lt l0 (8206 : Int32) then own_fB_100 l0 else own_fB_93 l0) = r := hf
    rcases own_tf (if_icmp.holds .lt l0 (8206 : Int32)) with hc | hc
    · rw [hc] at hf'
      refine XS.icmpYes X0.here hx rfl (pc0 := 90) (pc' := 100) rfl (hb hby own_dB_90) rfl hc (by decide) (by decide) ?_
      exact B100 l0 hf'
    · rw [hc] at hf'
      refine XS.icmpNo X0.here hx rfl (hb hby own_dB_90) rfl hc ?_
      exact B93 l0 hf'
  have B79 : ∀ (l0 : Int32), own_fB_79 l0 = r → Steps p.tables e below (s₁.setTop (mkF m 79 #[.val (.int l0)] [])) (s₁.setFrames fs) := by
    intro l0 hf
    show Steps p.tables e below (s₁.setTop (mkF m 79 #[.val (.int l0)] [])) _
    refine XS.iloadN X0.here hx rfl (hb hby own_dB_79) rfl ?_
    show Steps p.tables e below (s₁.setTop (mkF m 80 #[.val (.int l0)] [(.int l0)])) _
    refine XS.sipush X0.here hx rfl (hb hby own_dB_80) ?_
    show Steps p.tables e below (s₁.setTop (mkF m 83 #[.val (.int l0)] [(.int (8203 : Int32)), (.int l0)])) _
    have hf' : (bif if_icmp.holds .le l0 (8203 : Int32) then own_fB_170 l0 else own_fB_86 l0) = r := hf
    rcases own_tf (if_icmp.holds .le l0 (8203 : Int32)) with hc | hc
    · rw [hc] at hf'
      refine XS.icmpYes X0.here hx rfl (pc0 := 83) (pc' := 170) rfl (hb hby own_dB_83) rfl hc (by decide) (by decide) ?_
      exact B170 l0 hf'
    · rw [hc] at hf'
      refine XS.icmpNo X0.here hx rfl (hb hby own_dB_83) rfl hc ?_
      exact B86 l0 hf'
  have B72 : ∀ (l0 : Int32), own_fB_72 l0 = r → Steps p.tables e below (s₁.setTop (mkF m 72 #[.val (.int l0)] [])) (s₁.setFrames fs) := by
    intro l0 hf
    show Steps p.tables e below (s₁.setTop (mkF m 72 #[.val (.int l0)] [])) _
    refine XS.iloadN X0.here hx rfl (hb hby own_dB_72) rfl ?_
    show Steps p.tables e below (s₁.setTop (mkF m 73 #[.val (.int l0)] [(.int l0)])) _
    refine XS.sipush X0.here hx rfl (hb hby own_dB_73) ?_
    show Steps p.tables e below (s₁.setTop (mkF m 76 #[.val (.int l0)] [(.int (8192 : Int32)), (.int l0)])) _
    have hf' : (bif if_icmp.holds .lt l0 (8192 : Int32) then own_fB_86 l0 else own_fB_79 l0) = r := hf
    rcases own_tf (if_icmp.holds .lt l0 (8192 : Int32)) with hc | hc
    · rw [hc] at hf'
      refine XS.icmpYes X0.here hx rfl (pc0 := 76) (pc' := 86) rfl (hb hby own_dB_76) rfl hc (by decide) (by decide) ?_
      exact B86 l0 hf'
    · rw [hc] at hf'
      refine XS.icmpNo X0.here hx rfl (hb hby own_dB_76) rfl hc ?_
      exact B79 l0 hf'
  have B65 : ∀ (l0 : Int32), own_fB_65 l0 = r → Steps p.tables e below (s₁.setTop (mkF m 65 #[.val (.int l0)] [])) (s₁.setFrames fs) := by
    intro l0 hf
    show Steps p.tables e below (s₁.setTop (mkF m 65 #[.val (.int l0)] [])) _
    refine XS.iloadN X0.here hx rfl (hb hby own_dB_65) rfl ?_
    show Steps p.tables e below (s₁.setTop (mkF m 66 #[.val (.int l0)] [(.int l0)])) _
    refine XS.sipush X0.here hx rfl (hb hby own_dB_66) ?_
    show Steps p.tables e below (s₁.setTop (mkF m 69 #[.val (.int l0)] [(.int (894 : Int32)), (.int l0)])) _
    have hf' : (bif if_icmp.holds .eq l0 (894 : Int32) then own_fB_170 l0 else own_fB_72 l0) = r := hf
    rcases own_tf (if_icmp.holds .eq l0 (894 : Int32)) with hc | hc
    · rw [hc] at hf'
      refine XS.icmpYes X0.here hx rfl (pc0 := 69) (pc' := 170) rfl (hb hby own_dB_69) rfl hc (by decide) (by decide) ?_
      exact B170 l0 hf'
    · rw [hc] at hf'
      refine XS.icmpNo X0.here hx rfl (hb hby own_dB_69) rfl hc ?_
      exact B72 l0 hf'
  have B58 : ∀ (l0 : Int32), own_fB_58 l0 = r → Steps p.tables e below (s₁.setTop (mkF m 58 #[.val (.int l0)] [])) (s₁.setFrames fs) := by
    intro l0 hf
    show Steps p.tables e below (s₁.setTop (mkF m 58 #[.val (.int l0)] [])) _
    refine XS.iloadN X0.here hx rfl (hb hby own_dB_58) rfl ?_
    show Steps p.tables e below (s₁.setTop (mkF m 59 #[.val (.int l0)] [(.int l0)])) _
    refine XS.sipush X0.here hx rfl (hb hby own_dB_59) ?_
    show Steps p.tables e below (s₁.setTop (mkF m 62 #[.val (.int l0)] [(.int (879 : Int32)), (.int l0)])) _
    have hf' : (bif if_icmp.holds .le l0 (879 : Int32) then own_fB_170 l0 else own_fB_65 l0) = r := hf
    rcases own_tf (if_icmp.holds .le l0 (879 : Int32)) with hc | hc
    · rw [hc] at hf'
      refine XS.icmpYes X0.here hx rfl (pc0 := 62) (pc' := 170) rfl (hb hby own_dB_62) rfl hc (by decide) (by decide) ?_
      exact B170 l0 hf'
    · rw [hc] at hf'
      refine XS.icmpNo X0.here hx rfl (hb hby own_dB_62) rfl hc ?_
      exact B65 l0 hf'
  have B51 : ∀ (l0 : Int32), own_fB_51 l0 = r → Steps p.tables e below (s₁.setTop (mkF m 51 #[.val (.int l0)] [])) (s₁.setFrames fs) := by
    intro l0 hf
    show Steps p.tables e below (s₁.setTop (mkF m 51 #[.val (.int l0)] [])) _
    refine XS.iloadN X0.here hx rfl (hb hby own_dB_51) rfl ?_
    show Steps p.tables e below (s₁.setTop (mkF m 52 #[.val (.int l0)] [(.int l0)])) _
    refine XS.sipush X0.here hx rfl (hb hby own_dB_52) ?_
    show Steps p.tables e below (s₁.setTop (mkF m 55 #[.val (.int l0)] [(.int (768 : Int32)), (.int l0)])) _
    have hf' : (bif if_icmp.holds .lt l0 (768 : Int32) then own_fB_65 l0 else own_fB_58 l0) = r := hf
    rcases own_tf (if_icmp.holds .lt l0 (768 : Int32)) with hc | hc
    · rw [hc] at hf'
      refine XS.icmpYes X0.here hx rfl (pc0 := 55) (pc' := 65) rfl (hb hby own_dB_55) rfl hc (by decide) (by decide) ?_
      exact B65 l0 hf'
    · rw [hc] at hf'
      refine XS.icmpNo X0.here hx rfl (hb hby own_dB_55) rfl hc ?_
      exact B58 l0 hf'
  have B44 : ∀ (l0 : Int32), own_fB_44 l0 = r → Steps p.tables e below (s₁.setTop (mkF m 44 #[.val (.int l0)] [])) (s₁.setFrames fs) := by
    intro l0 hf
    show Steps p.tables e below (s₁.setTop (mkF m 44 #[.val (.int l0)] [])) _
    refine XS.iloadN X0.here hx rfl (hb hby own_dB_44) rfl ?_
    show Steps p.tables e below (s₁.setTop (mkF m 45 #[.val (.int l0)] [(.int l0)])) _
    refine XS.sipush X0.here hx rfl (hb hby own_dB_45) ?_
    show Steps p.tables e below (s₁.setTop (mkF m 48 #[.val (.int l0)] [(.int (247 : Int32)), (.int l0)])) _
    have hf' : (bif if_icmp.holds .eq l0 (247 : Int32) then own_fB_170 l0 else own_fB_51 l0) = r := hf
    rcases own_tf (if_icmp.holds .eq l0 (247 : Int32)) with hc | hc
    · rw [hc] at hf'
      refine XS.icmpYes X0.here hx rfl (pc0 := 48) (pc' := 170) rfl (hb hby own_dB_48) rfl hc (by decide) (by decide) ?_
      exact B170 l0 hf'
    · rw [hc] at hf'
      refine XS.icmpNo X0.here hx rfl (hb hby own_dB_48) rfl hc ?_
      exact B51 l0 hf'
  have B37 : ∀ (l0 : Int32), own_fB_37 l0 = r → Steps p.tables e below (s₁.setTop (mkF m 37 #[.val (.int l0)] [])) (s₁.setFrames fs) := by
    intro l0 hf
    show Steps p.tables e below (s₁.setTop (mkF m 37 #[.val (.int l0)] [])) _
    refine XS.iloadN X0.here hx rfl (hb hby own_dB_37) rfl ?_
    show Steps p.tables e below (s₁.setTop (mkF m 38 #[.val (.int l0)] [(.int l0)])) _
    refine XS.sipush X0.here hx rfl (hb hby own_dB_38) ?_
    show Steps p.tables e below (s₁.setTop (mkF m 41 #[.val (.int l0)] [(.int (215 : Int32)), (.int l0)])) _
    have hf' : (bif if_icmp.holds .eq l0 (215 : Int32) then own_fB_170 l0 else own_fB_44 l0) = r := hf
    rcases own_tf (if_icmp.holds .eq l0 (215 : Int32)) with hc | hc
    · rw [hc] at hf'
      refine XS.icmpYes X0.here hx rfl (pc0 := 41) (pc' := 170) rfl (hb hby own_dB_41) rfl hc (by decide) (by decide) ?_
      exact B170 l0 hf'
    · rw [hc] at hf'
      refine XS.icmpNo X0.here hx rfl (hb hby own_dB_41) rfl hc ?_
      exact B44 l0 hf'
  have B30 : ∀ (l0 : Int32), own_fB_30 l0 = r → Steps p.tables e below (s₁.setTop (mkF m 30 #[.val (.int l0)] [])) (s₁.setFrames fs) := by
    intro l0 hf
    show Steps p.tables e below (s₁.setTop (mkF m 30 #[.val (.int l0)] [])) _
    refine XS.iloadN X0.here hx rfl (hb hby own_dB_30) rfl ?_
    show Steps p.tables e below (s₁.setTop (mkF m 31 #[.val (.int l0)] [(.int l0)])) _
    refine XS.sipush X0.here hx rfl (hb hby own_dB_31) ?_
    show Steps p.tables e below (s₁.setTop (mkF m 34 #[.val (.int l0)] [(.int (192 : Int32)), (.int l0)])) _
    have hf' : (bif if_icmp.holds .lt l0 (192 : Int32) then own_fB_170 l0 else own_fB_37 l0) = r := hf
    rcases own_tf (if_icmp.holds .lt l0 (192 : Int32)) with hc | hc
    · rw [hc] at hf'
      refine XS.icmpYes X0.here hx rfl (pc0 := 34) (pc' := 170) rfl (hb hby own_dB_34) rfl hc (by decide) (by decide) ?_
      exact B170 l0 hf'
    · rw [hc] at hf'
      refine XS.icmpNo X0.here hx rfl (hb hby own_dB_34) rfl hc ?_
      exact B37 l0 hf'
  have B24 : ∀ (l0 : Int32), own_fB_24 l0 = r → Steps p.tables e below (s₁.setTop (mkF m 24 #[.val (.int l0)] [])) (s₁.setFrames fs) := by
    intro l0 hf
    show Steps p.tables e below (s₁.setTop (mkF m 24 #[.val (.int l0)] [])) _
    refine XS.iloadN X0.here hx rfl (hb hby own_dB_24) rfl ?_
    show Steps p.tables e below (s₁.setTop (mkF m 25 #[.val (.int l0)] [(.int l0)])) _
    refine XS.bipush X0.here hx rfl (hb hby own_dB_25) ?_
    show Steps p.tables e below (s₁.setTop (mkF m 27 #[.val (.int l0)] [(.int (122 : Int32)), (.int l0)])) _
    have hf' : (bif if_icmp.holds .le l0 (122 : Int32) then own_fB_37 l0 else own_fB_30 l0) = r := hf
    rcases own_tf (if_icmp.holds .le l0 (122 : Int32)) with hc | hc
    · rw [hc] at hf'
      refine XS.icmpYes X0.here hx rfl (pc0 := 27) (pc' := 37) rfl (hb hby own_dB_27) rfl hc (by decide) (by decide) ?_
      exact B37 l0 hf'
    · rw [hc] at hf'
      refine XS.icmpNo X0.here hx rfl (hb hby own_dB_27) rfl hc ?_
      exact B30 l0 hf'
  have B18 : ∀ (l0 : Int32), own_fB_18 l0 = r → Steps p.tables e below (s₁.setTop (mkF m 18 #[.val (.int l0)] [])) (s₁.setFrames fs) := by
    intro l0 hf
    show Steps p.tables e below (s₁.setTop (mkF m 18 #[.val (.int l0)] [])) _
    refine XS.iloadN X0.here hx rfl (hb hby own_dB_18) rfl ?_
    show Steps p.tables e below (s₁.setTop (mkF m 19 #[.val (.int l0)] [(.int l0)])) _
    refine XS.bipush X0.here hx rfl (hb hby own_dB_19) ?_
    show Steps p.tables e below (s₁.setTop (mkF m 21 #[.val (.int l0)] [(.int (95 : Int32)), (.int l0)])) _
    have hf' : (bif if_icmp.holds .ne l0 (95 : Int32) then own_fB_170 l0 else own_fB_24 l0) = r := hf
    rcases own_tf (if_icmp.holds .ne l0 (95 : Int32)) with hc | hc
    · rw [hc] at hf'
      refine XS.icmpYes X0.here hx rfl (pc0 := 21) (pc' := 170) rfl (hb hby own_dB_21) rfl hc (by decide) (by decide) ?_
      exact B170 l0 hf'
    · rw [hc] at hf'
      refine XS.icmpNo X0.here hx rfl (hb hby own_dB_21) rfl hc ?_
      exact B24 l0 hf'
  have B12 : ∀ (l0 : Int32), own_fB_12 l0 = r → Steps p.tables e below (s₁.setTop (mkF m 12 #[.val (.int l0)] [])) (s₁.setFrames fs) := by
    intro l0 hf
    show Steps p.tables e below (s₁.setTop (mkF m 12 #[.val (.int l0)] [])) _
    refine XS.iloadN X0.here hx rfl (hb hby own_dB_12) rfl ?_
    show Steps p.tables e below (s₁.setTop (mkF m 13 #[.val (.int l0)] [(.int l0)])) _
    refine XS.bipush X0.here hx rfl (hb hby own_dB_13) ?_
    show Steps p.tables e below (s₁.setTop (mkF m 15 #[.val (.int l0)] [(.int (97 : Int32)), (.int l0)])) _
    have hf' : (bif if_icmp.holds .ge l0 (97 : Int32) then own_fB_24 l0 else own_fB_18 l0) = r := hf
    rcases own_tf (if_icmp.holds .ge l0 (97 : Int32)) with hc | hc
    · rw [hc] at hf'
      refine XS.icmpYes X0.here hx rfl (pc0 := 15) (pc' := 24) rfl (hb hby own_dB_15) rfl hc (by decide) (by decide) ?_
      exact B24 l0 hf'
    · rw [hc] at hf'
      refine XS.icmpNo X0.here hx rfl (hb hby own_dB_15) rfl hc ?_
      exact B18 l0 hf'
  have B6 : ∀ (l0 : Int32), own_fB_6 l0 = r → Steps p.tables e below (s₁.setTop (mkF m 6 #[.val (.int l0)] [])) (s₁.setFrames fs) := by
    intro l0 hf
    show Steps p.tables e below (s₁.setTop (mkF m 6 #[.val (.int l0)] [])) _
    refine XS.iloadN X0.here hx rfl (hb hby own_dB_6) rfl ?_
    show Steps p.tables e below (s₁.setTop (mkF m 7 #[.val (.int l0)] [(.int l0)])) _
    refine XS.bipush X0.here hx rfl (hb hby own_dB_7) ?_
    show Steps p.tables e below (s₁.setTop (mkF m 9 #[.val (.int l0)] [(.int (90 : Int32)), (.int l0)])) _
    have hf' : (bif if_icmp.holds .le l0 (90 : Int32) then own_fB_24 l0 else own_fB_12 l0) = r := hf
    rcases own_tf (if_icmp.holds .le l0 (90 : Int32)) with hc | hc
    · rw [hc] at hf'
      refine XS.icmpYes X0.here hx rfl (pc0 := 9) (pc' := 24) rfl (hb hby own_dB_9) rfl hc (by decide) (by decide) ?_
      exact B24 l0 hf'
    · rw [hc] at hf'
      refine XS.icmpNo X0.here hx rfl (hb hby own_dB_9) rfl hc ?_
      exact B12 l0 hf'
  have B0 : ∀ (l0 : Int32), own_fB_0 l0 = r → Steps p.tables e below (s₁.setTop (mkF m 0 #[.val (.int l0)] [])) (s₁.setFrames fs) := by
    intro l0 hf
    show Steps p.tables e below (s₁.setTop (mkF m 0 #[.val (.int l0)] [])) _
    refine XS.iloadN X0.here hx rfl (hb hby own_dB_0) rfl ?_
    show Steps p.tables e below (s₁.setTop (mkF m 1 #[.val (.int l0)] [(.int l0)])) _
    refine XS.bipush X0.here hx rfl (hb hby own_dB_1) ?_
    show Steps p.tables e below (s₁.setTop (mkF m 3 #[.val (.int l0)] [(.int (65 : Int32)), (.int l0)])) _
    have hf' : (bif if_icmp.holds .lt l0 (65 : Int32) then own_fB_170 l0 else own_fB_6 l0) = r := hf
    rcases own_tf (if_icmp.holds .lt l0 (65 : Int32)) with hc | hc
    · rw [hc] at hf'
      refine XS.icmpYes X0.here hx rfl (pc0 := 3) (pc' := 170) rfl (hb hby own_dB_3) rfl hc (by decide) (by decide) ?_
      exact B170 l0 hf'
    · rw [hc] at hf'
      refine XS.icmpNo X0.here hx rfl (hb hby own_dB_3) rfl hc ?_
      exact B6 l0 hf'
  refine ⟨_, _, castTop (own_efB m p0) (B0 p0 hr0.symm), hrun, hended, _, _, rfl, ?_, ⟨_, rfl⟩, hW, hsame.mono (by decide) (by decide)⟩
  show own_Q _ h0 n0 _ s₁.heap _
  exact ⟨by rw [hr0], Fr.nil n0, e0⟩
def own_not (b : Int32) : Int32 := bif ifCond.holds .ne b then (0 : Int32) else (1 : Int32)
theorem own_same_0 (c : Int32) (h2 : c.toInt < 65) : nar .boolean (own_fA_0 c) = own_not (nar .boolean (own_fB_0 c)) := by
  have qa : own_fA_0 c = (0 : Int32) := (own_t (own_ltT (n := 97) rfl (by omega)) (own_t (own_ltT (n := 65) rfl (by omega)) (own_f (own_eqF (n := 95) rfl (by omega)) (own_t (own_ltT (n := 192) rfl (by omega)) (own_t (own_ltT (n := 216) rfl (by omega)) (own_t (own_ltT (n := 248) rfl (by omega)) (own_t (own_ltT (n := 880) rfl (by omega)) (own_t (own_ltT (n := 895) rfl (by omega)) (own_t (own_ltT (n := 8204) rfl (by omega)) (own_t (own_ltT (n := 8304) rfl (by omega)) (own_t (own_ltT (n := 11264) rfl (by omega)) (own_t (own_ltT (n := 12289) rfl (by omega)) (own_t (own_ltT (n := 63744) rfl (by omega)) (own_t (own_ltT (n := 65008) rfl (by omega)) (own_t (own_ltT (n := 65536) rfl (by omega)) rfl)))))))))))))))
  have qb : own_fB_0 c = (1 : Int32) := (own_t (own_ltT (n := 65) rfl (by omega)) rfl)
  rw [qa, qb]; rfl
theorem own_same_1 (c : Int32) (h1 : 65 ≤ c.toInt) (h2 : c.toInt < 91) : nar .boolean (own_fA_0 c) = own_not (nar .boolean (own_fB_0 c)) := by
  have qa : own_fA_0 c = (1 : Int32) := (own_t (own_ltT (n := 97) rfl (by omega)) (own_f (own_ltF (n := 65) rfl (by omega)) (own_t (own_leT (n := 90) rfl (by omega)) rfl)))
  have qb : own_fB_0 c = (0 : Int32) := (own_f (own_ltF (n := 65) rfl (by omega)) (own_t (own_leT (n := 90) rfl (by omega)) (own_t (own_leT (n := 122) rfl (by omega)) (own_f (own_eqF (n := 215) rfl (by omega)) (own_f (own_eqF (n := 247) rfl (by omega)) (own_t (own_ltT (n := 768) rfl (by omega)) (own_f (own_eqF (n := 894) rfl (by omega)) (own_t (own_ltT (n := 8192) rfl (by omega)) (own_t (own_ltT (n := 8206) rfl (by omega)) (own_t (own_ltT (n := 8592) rfl (by omega)) (own_t (own_ltT (n := 12272) rfl (by omega)) (own_t (own_ltT (n := 55296) rfl (by omega)) (own_t (own_ltT (n := 64976) rfl (by omega)) (own_t (own_ltT (n := 65534) rfl (by omega)) (own_t (own_ltT (n := 983040) rfl (by omega)) rfl)))))))))))))))
  rw [qa, qb]; rfl
theorem own_same_2 (c : Int32) (h1 : 91 ≤ c.toInt) (h2 : c.toInt < 95) : nar .boolean (own_fA_0 c) = own_not (nar .boolean (own_fB_0 c)) := by
  have qa : own_fA_0 c = (0 : Int32) := (own_t (own_ltT (n := 97) rfl (by omega)) (own_f (own_ltF (n := 65) rfl (by omega)) (own_f (own_leF (n := 90) rfl (by omega)) (own_f (own_eqF (n := 95) rfl (by omega)) (own_t (own_ltT (n := 192) rfl (by omega)) (own_t (own_ltT (n := 216) rfl (by omega)) (own_t (own_ltT (n := 248) rfl (by omega)) (own_t (own_ltT (n := 880) rfl (by omega)) (own_t (own_ltT (n := 895) rfl (by omega)) (own_t (own_ltT (n := 8204) rfl (by omega)) (own_t (own_ltT (n := 8304) rfl (by omega)) (own_t (own_ltT (n := 11264) rfl (by omega)) (own_t (own_ltT (n := 12289) rfl (by omega)) (own_t (own_ltT (n := 63744) rfl (by omega)) (own_t (own_ltT (n := 65008) rfl (by omega)) (own_t (own_ltT (n := 65536) rfl (by omega)) rfl))))))))))))))))
  have qb : own_fB_0 c = (1 : Int32) := (own_f (own_ltF (n := 65) rfl (by omega)) (own_f (own_leF (n := 90) rfl (by omega)) (own_f (own_geF (n := 97) rfl (by omega)) (own_t (own_neT (n := 95) rfl (by omega)) rfl))))
  rw [qa, qb]; rfl
theorem own_same_3 (c : Int32) (h1 : 95 ≤ c.toInt) (h2 : c.toInt < 96) : nar .boolean (own_fA_0 c) = own_not (nar .boolean (own_fB_0 c)) := by
  have qa : own_fA_0 c = (1 : Int32) := (own_t (own_ltT (n := 97) rfl (by omega)) (own_f (own_ltF (n := 65) rfl (by omega)) (own_f (own_leF (n := 90) rfl (by omega)) (own_t (own_eqT (n := 95) rfl (by omega)) rfl))))
  have qb : own_fB_0 c = (0 : Int32) := (own_f (own_ltF (n := 65) rfl (by omega)) (own_f (own_leF (n := 90) rfl (by omega)) (own_f (own_geF (n := 97) rfl (by omega)) (own_f (own_neF (n := 95) rfl (by omega)) (own_t (own_leT (n := 122) rfl (by omega)) (own_f (own_eqF (n := 215) rfl (by omega)) (own_f (own_eqF (n := 247) rfl (by omega)) (own_t (own_ltT (n := 768) rfl (by omega)) (own_f (own_eqF (n := 894) rfl (by omega)) (own_t (own_ltT (n := 8192) rfl (by omega)) (own_t (own_ltT (n := 8206) rfl (by omega)) (own_t (own_ltT (n := 8592) rfl (by omega)) (own_t (own_ltT (n := 12272) rfl (by omega)) (own_t (own_ltT (n := 55296) rfl (by omega)) (own_t (own_ltT (n := 64976) rfl (by omega)) (own_t (own_ltT (n := 65534) rfl (by omega)) (own_t (own_ltT (n := 983040) rfl (by omega)) rfl)))))))))))))))))
  rw [qa, qb]; rfl
theorem own_same_4 (c : Int32) (h1 : 96 ≤ c.toInt) (h2 : c.toInt < 97) : nar .boolean (own_fA_0 c) = own_not (nar .boolean (own_fB_0 c)) := by
  have qa : own_fA_0 c = (0 : Int32) := (own_t (own_ltT (n := 97) rfl (by omega)) (own_f (own_ltF (n := 65) rfl (by omega)) (own_f (own_leF (n := 90) rfl (by omega)) (own_f (own_eqF (n := 95) rfl (by omega)) (own_t (own_ltT (n := 192) rfl (by omega)) (own_t (own_ltT (n := 216) rfl (by omega)) (own_t (own_ltT (n := 248) rfl (by omega)) (own_t (own_ltT (n := 880) rfl (by omega)) (own_t (own_ltT (n := 895) rfl (by omega)) (own_t (own_ltT (n := 8204) rfl (by omega)) (own_t (own_ltT (n := 8304) rfl (by omega)) (own_t (own_ltT (n := 11264) rfl (by omega)) (own_t (own_ltT (n := 12289) rfl (by omega)) (own_t (own_ltT (n := 63744) rfl (by omega)) (own_t (own_ltT (n := 65008) rfl (by omega)) (own_t (own_ltT (n := 65536) rfl (by omega)) rfl))))))))))))))))
  have qb : own_fB_0 c = (1 : Int32) := (own_f (own_ltF (n := 65) rfl (by omega)) (own_f (own_leF (n := 90) rfl (by omega)) (own_f (own_geF (n := 97) rfl (by omega)) (own_t (own_neT (n := 95) rfl (by omega)) rfl))))
  rw [qa, qb]; rfl
theorem own_same_5 (c : Int32) (h1 : 97 ≤ c.toInt) (h2 : c.toInt < 123) : nar .boolean (own_fA_0 c) = own_not (nar .boolean (own_fB_0 c)) := by
  have qa : own_fA_0 c = (1 : Int32) := (own_f (own_ltF (n := 97) rfl (by omega)) (own_t (own_leT (n := 122) rfl (by omega)) rfl))
  have qb : own_fB_0 c = (0 : Int32) := (own_f (own_ltF (n := 65) rfl (by omega)) (own_f (own_leF (n := 90) rfl (by omega)) (own_t (own_geT (n := 97) rfl (by omega)) (own_t (own_leT (n := 122) rfl (by omega)) (own_f (own_eqF (n := 215) rfl (by omega)) (own_f (own_eqF (n := 247) rfl (by omega)) (own_t (own_ltT (n := 768) rfl (by omega)) (own_f (own_eqF (n := 894) rfl (by omega)) (own_t (own_ltT (n := 8192) rfl (by omega)) (own_t (own_ltT (n := 8206) rfl (by omega)) (own_t (own_ltT (n := 8592) rfl (by omega)) (own_t (own_ltT (n := 12272) rfl (by omega)) (own_t (own_ltT (n := 55296) rfl (by omega)) (own_t (own_ltT (n := 64976) rfl (by omega)) (own_t (own_ltT (n := 65534) rfl (by omega)) (own_t (own_ltT (n := 983040) rfl (by omega)) rfl))))))))))))))))
  rw [qa, qb]; rfl
theorem own_same_6 (c : Int32) (h1 : 123 ≤ c.toInt) (h2 : c.toInt < 192) : nar .boolean (own_fA_0 c) = own_not (nar .boolean (own_fB_0 c)) := by
  have qa : own_fA_0 c = (0 : Int32) := (own_f (own_ltF (n := 97) rfl (by omega)) (own_f (own_leF (n := 122) rfl (by omega)) (own_f (own_ltF (n := 65) rfl (by omega)) (own_f (own_leF (n := 90) rfl (by omega)) (own_f (own_eqF (n := 95) rfl (by omega)) (own_t (own_ltT (n := 192) rfl (by omega)) (own_t (own_ltT (n := 216) rfl (by omega)) (own_t (own_ltT (n := 248) rfl (by omega)) (own_t (own_ltT (n := 880) rfl (by omega)) (own_t (own_ltT (n := 895) rfl (by omega)) (own_t (own_ltT (n := 8204) rfl (by omega)) (own_t (own_ltT (n := 8304) rfl (by omega)) (own_t (own_ltT (n := 11264) rfl (by omega)) (own_t (own_ltT (n := 12289) rfl (by omega)) (own_t (own_ltT (n := 63744) rfl (by omega)) (own_t (own_ltT (n := 65008) rfl (by omega)) (own_t (own_ltT (n := 65536) rfl (by omega)) rfl)))))))))))))))))
  have qb : own_fB_0 c = (1 : Int32) := (own_f (own_ltF (n := 65) rfl (by omega)) (own_f (own_leF (n := 90) rfl (by omega)) (own_t (own_geT (n := 97) rfl (by omega)) (own_f (own_leF (n := 122) rfl (by omega)) (own_t (own_ltT (n := 192) rfl (by omega)) rfl)))))
  rw [qa, qb]; rfl
theorem own_same_7 (c : Int32) (h1 : 192 ≤ c.toInt) (h2 : c.toInt < 215) : nar .boolean (own_fA_0 c) = own_not (nar .boolean (own_fB_0 c)) := by
  have qa : own_fA_0 c = (1 : Int32) := (own_f (own_ltF (n := 97) rfl (by omega)) (own_f (own_leF (n := 122) rfl (by omega)) (own_f (own_ltF (n := 65) rfl (by omega)) (own_f (own_leF (n := 90) rfl (by omega)) (own_f (own_eqF (n := 95) rfl (by omega)) (own_f (own_ltF (n := 192) rfl (by omega)) (own_t (own_leT (n := 214) rfl (by omega)) rfl)))))))
  have qb : own_fB_0 c = (0 : Int32) := (own_f (own_ltF (n := 65) rfl (by omega)) (own_f (own_leF (n := 90) rfl (by omega)) (own_t (own_geT (n := 97) rfl (by omega)) (own_f (own_leF (n := 122) rfl (by omega)) (own_f (own_ltF (n := 192) rfl (by omega)) (own_f (own_eqF (n := 215) rfl (by omega)) (own_f (own_eqF (n := 247) rfl (by omega)) (own_t (own_ltT (n := 768) rfl (by omega)) (own_f (own_eqF (n := 894) rfl (by omega)) (own_t (own_ltT (n := 8192) rfl (by omega)) (own_t (own_ltT (n := 8206) rfl (by omega)) (own_t (own_ltT (n := 8592) rfl (by omega)) (own_t (own_ltT (n := 12272) rfl (by omega)) (own_t (own_ltT (n := 55296) rfl (by omega)) (own_t (own_ltT (n := 64976) rfl (by omega)) (own_t (own_ltT (n := 65534) rfl (by omega)) (own_t (own_ltT (n := 983040) rfl (by omega)) rfl)))))))))))))))))
  rw [qa, qb]; rfl
theorem own_same_8 (c : Int32) (h1 : 215 ≤ c.toInt) (h2 : c.toInt < 216) : nar .boolean (own_fA_0 c) = own_not (nar .boolean (own_fB_0 c)) := by
  have qa : own_fA_0 c = (0 : Int32) := (own_f (own_ltF (n := 97) rfl (by omega)) (own_f (own_leF (n := 122) rfl (by omega)) (own_f (own_ltF (n := 65) rfl (by omega)) (own_f (own_leF (n := 90) rfl (by omega)) (own_f (own_eqF (n := 95) rfl (by omega)) (own_f (own_ltF (n := 192) rfl (by omega)) (own_f (own_leF (n := 214) rfl (by omega)) (own_t (own_ltT (n := 216) rfl (by omega)) (own_t (own_ltT (n := 248) rfl (by omega)) (own_t (own_ltT (n := 880) rfl (by omega)) (own_t (own_ltT (n := 895) rfl (by omega)) (own_t (own_ltT (n := 8204) rfl (by omega)) (own_t (own_ltT (n := 8304) rfl (by omega)) (own_t (own_ltT (n := 11264) rfl (by omega)) (own_t (own_ltT (n := 12289) rfl (by omega)) (own_t (own_ltT (n := 63744) rfl (by omega)) (own_t (own_ltT (n := 65008) rfl (by omega)) (own_t (own_ltT (n := 65536) rfl (by omega)) rfl))))))))))))))))))
  have qb : own_fB_0 c = (1 : Int32) := (own_f (own_ltF (n := 65) rfl (by omega)) (own_f (own_leF (n := 90) rfl (by omega)) (own_t (own_geT (n := 97) rfl (by omega)) (own_f (own_leF (n := 122) rfl (by omega)) (own_f (own_ltF (n := 192) rfl (by omega)) (own_t (own_eqT (n := 215) rfl (by omega)) rfl))))))
  rw [qa, qb]; rfl
theorem own_same_9 (c : Int32) (h1 : 216 ≤ c.toInt) (h2 : c.toInt < 247) : nar .boolean (own_fA_0 c) = own_not (nar .boolean (own_fB_0 c)) := by
  have qa : own_fA_0 c = (1 : Int32) := (own_f (own_ltF (n := 97) rfl (by omega)) (own_f (own_leF (n := 122) rfl (by omega)) (own_f (own_ltF (n := 65) rfl (by omega)) (own_f (own_leF (n := 90) rfl (by omega)) (own_f (own_eqF (n := 95) rfl (by omega)) (own_f (own_ltF (n := 192) rfl (by omega)) (own_f (own_leF (n := 214) rfl (by omega)) (own_f (own_ltF (n := 216) rfl (by omega)) (own_t (own_leT (n := 246) rfl (by omega)) rfl)))))))))
  have qb : own_fB_0 c = (0 : Int32) := (own_f (own_ltF (n := 65) rfl (by omega)) (own_f (own_leF (n := 90) rfl (by omega)) (own_t (own_geT (n := 97) rfl (by omega)) (own_f (own_leF (n := 122) rfl (by omega)) (own_f (own_ltF (n := 192) rfl (by omega)) (own_f (own_eqF (n := 215) rfl (by omega)) (own_f (own_eqF (n := 247) rfl (by omega)) (own_t (own_ltT (n := 768) rfl (by omega)) (own_f (own_eqF (n := 894) rfl (by omega)) (own_t (own_ltT (n := 8192) rfl (by omega)) (own_t (own_ltT (n := 8206) rfl (by omega)) (own_t (own_ltT (n := 8592) rfl (by omega)) (own_t (own_ltT (n := 12272) rfl (by omega)) (own_t (own_ltT (n := 55296) rfl (by omega)) (own_t (own_ltT (n := 64976) rfl (by omega)) (own_t (own_ltT (n := 65534) rfl (by omega)) (own_t (own_ltT (n := 983040) rfl (by omega)) rfl)))))))))))))))))
  rw [qa, qb]; rfl
theorem own_same_10 (c : Int32) (h1 : 247 ≤ c.toInt) (h2 : c.toInt < 248) : nar .boolean (own_fA_0 c) = own_not (nar .boolean (own_fB_0 c)) := by
  have qa : own_fA_0 c = (0 : Int32) := (own_f (own_ltF (n := 97) rfl (by omega)) (own_f (own_leF (n := 122) rfl (by omega)) (own_f (own_ltF (n := 65) rfl (by omega)) (own_f (own_leF (n := 90) rfl (by omega)) (own_f (own_eqF (n := 95) rfl (by omega)) (own_f (own_ltF (n := 192) rfl (by omega)) (own_f (own_leF (n := 214) rfl (by omega)) (own_f (own_ltF (n := 216) rfl (by omega)) (own_f (own_leF (n := 246) rfl (by omega)) (own_t (own_ltT (n := 248) rfl (by omega)) (own_t (own_ltT (n := 880) rfl (by omega)) (own_t (own_ltT (n := 895) rfl (by omega)) (own_t (own_ltT (n := 8204) rfl (by omega)) (own_t (own_ltT (n := 8304) rfl (by omega)) (own_t (own_ltT (n := 11264) rfl (by omega)) (own_t (own_ltT (n := 12289) rfl (by omega)) (own_t (own_ltT (n := 63744) rfl (by omega)) (own_t (own_ltT (n := 65008) rfl (by omega)) (own_t (own_ltT (n := 65536) rfl (by omega)) rfl)))))))))))))))))))
  have qb : own_fB_0 c = (1 : Int32) := (own_f (own_ltF (n := 65) rfl (by omega)) (own_f (own_leF (n := 90) rfl (by omega)) (own_t (own_geT (n := 97) rfl (by omega)) (own_f (own_leF (n := 122) rfl (by omega)) (own_f (own_ltF (n := 192) rfl (by omega)) (own_f (own_eqF (n := 215) rfl (by omega)) (own_t (own_eqT (n := 247) rfl (by omega)) rfl)))))))
  rw [qa, qb]; rfl
theorem own_same_11 (c : Int32) (h1 : 248 ≤ c.toInt) (h2 : c.toInt < 768) : nar .boolean (own_fA_0 c) = own_not (nar .boolean (own_fB_0 c)) := by
  have qa : own_fA_0 c = (1 : Int32) := (own_f (own_ltF (n := 97) rfl (by omega)) (own_f (own_leF (n := 122) rfl (by omega)) (own_f (own_ltF (n := 65) rfl (by omega)) (own_f (own_leF (n := 90) rfl (by omega)) (own_f (own_eqF (n := 95) rfl (by omega)) (own_f (own_ltF (n := 192) rfl (by omega)) (own_f (own_leF (n := 214) rfl (by omega)) (own_f (own_ltF (n := 216) rfl (by omega)) (own_f (own_leF (n := 246) rfl (by omega)) (own_f (own_ltF (n := 248) rfl (by omega)) (own_t (own_leT (n := 767) rfl (by omega)) rfl)))))))))))
  have qb : own_fB_0 c = (0 : Int32) := (own_f (own_ltF (n := 65) rfl (by omega)) (own_f (own_leF (n := 90) rfl (by omega)) (own_t (own_geT (n := 97) rfl (by omega)) (own_f (own_leF (n := 122) rfl (by omega)) (own_f (own_ltF (n := 192) rfl (by omega)) (own_f (own_eqF (n := 215) rfl (by omega)) (own_f (own_eqF (n := 247) rfl (by omega)) (own_t (own_ltT (n := 768) rfl (by omega)) (own_f (own_eqF (n := 894) rfl (by omega)) (own_t (own_ltT (n := 8192) rfl (by omega)) (own_t (own_ltT (n := 8206) rfl (by omega)) (own_t (own_ltT (n := 8592) rfl (by omega)) (own_t (own_ltT (n := 12272) rfl (by omega)) (own_t (own_ltT (n := 55296) rfl (by omega)) (own_t (own_ltT (n := 64976) rfl (by omega)) (own_t (own_ltT (n := 65534) rfl (by omega)) (own_t (own_ltT (n := 983040) rfl (by omega)) rfl)))))))))))))))))
  rw [qa, qb]; rfl
theorem own_same_12 (c : Int32) (h1 : 768 ≤ c.toInt) (h2 : c.toInt < 880) : nar .boolean (own_fA_0 c) = own_not (nar .boolean (own_fB_0 c)) := by
  have qa : own_fA_0 c = (0 : Int32) := (own_f (own_ltF (n := 97) rfl (by omega)) (own_f (own_leF (n := 122) rfl (by omega)) (own_f (own_ltF (n := 65) rfl (by omega)) (own_f (own_leF (n := 90) rfl (by omega)) (own_f (own_eqF (n := 95) rfl (by omega)) (own_f (own_ltF (n := 192) rfl (by omega)) (own_f (own_leF (n := 214) rfl (by omega)) (own_f (own_ltF (n := 216) rfl (by omega)) (own_f (own_leF (n := 246) rfl (by omega)) (own_f (own_ltF (n := 248) rfl (by omega)) (own_f (own_leF (n := 767) rfl (by omega)) (own_t (own_ltT (n := 880) rfl (by omega)) (own_t (own_ltT (n := 895) rfl (by omega)) (own_t (own_ltT (n := 8204) rfl (by omega)) (own_t (own_ltT (n := 8304) rfl (by omega)) (own_t (own_ltT (n := 11264) rfl (by omega)) (own_t (own_ltT (n := 12289) rfl (by omega)) (own_t (own_ltT (n := 63744) rfl (by omega)) (own_t (own_ltT (n := 65008) rfl (by omega)) (own_t (own_ltT (n := 65536) rfl (by omega)) rfl))))))))))))))))))))
  have qb : own_fB_0 c = (1 : Int32) := (own_f (own_ltF (n := 65) rfl (by omega)) (own_f (own_leF (n := 90) rfl (by omega)) (own_t (own_geT (n := 97) rfl (by omega)) (own_f (own_leF (n := 122) rfl (by omega)) (own_f (own_ltF (n := 192) rfl (by omega)) (own_f (own_eqF (n := 215) rfl (by omega)) (own_f (own_eqF (n := 247) rfl (by omega)) (own_f (own_ltF (n := 768) rfl (by omega)) (own_t (own_leT (n := 879) rfl (by omega)) rfl)))))))))
  rw [qa, qb]; rfl
theorem own_same_13 (c : Int32) (h1 : 880 ≤ c.toInt) (h2 : c.toInt < 894) : nar .boolean (own_fA_0 c) = own_not (nar .boolean (own_fB_0 c)) := by
  have qa : own_fA_0 c = (1 : Int32) := (own_f (own_ltF (n := 97) rfl (by omega)) (own_f (own_leF (n := 122) rfl (by omega)) (own_f (own_ltF (n := 65) rfl (by omega)) (own_f (own_leF (n := 90) rfl (by omega)) (own_f (own_eqF (n := 95) rfl (by omega)) (own_f (own_ltF (n := 192) rfl (by omega)) (own_f (own_leF (n := 214) rfl (by omega)) (own_f (own_ltF (n := 216) rfl (by omega)) (own_f (own_leF (n := 246) rfl (by omega)) (own_f (own_ltF (n := 248) rfl (by omega)) (own_f (own_leF (n := 767) rfl (by omega)) (own_f (own_ltF (n := 880) rfl (by omega)) (own_t (own_leT (n := 893) rfl (by omega)) rfl)))))))))))))
  have qb : own_fB_0 c = (0 : Int32) := (own_f (own_ltF (n := 65) rfl (by omega)) (own_f (own_leF (n := 90) rfl (by omega)) (own_t (own_geT (n := 97) rfl (by omega)) (own_f (own_leF (n := 122) rfl (by omega)) (own_f (own_ltF (n := 192) rfl (by omega)) (own_f (own_eqF (n := 215) rfl (by omega)) (own_f (own_eqF (n := 247) rfl (by omega)) (own_f (own_ltF (n := 768) rfl (by omega)) (own_f (own_leF (n := 879) rfl (by omega)) (own_f (own_eqF (n := 894) rfl (by omega)) (own_t (own_ltT (n := 8192) rfl (by omega)) (own_t (own_ltT (n := 8206) rfl (by omega)) (own_t (own_ltT (n := 8592) rfl (by omega)) (own_t (own_ltT (n := 12272) rfl (by omega)) (own_t (own_ltT (n := 55296) rfl (by omega)) (own_t (own_ltT (n := 64976) rfl (by omega)) (own_t (own_ltT (n := 65534) rfl (by omega)) (own_t (own_ltT (n := 983040) rfl (by omega)) rfl))))))))))))))))))
  rw [qa, qb]; rfl
theorem own_same_14 (c : Int32) (h1 : 894 ≤ c.toInt) (h2 : c.toInt < 895) : nar .boolean (own_fA_0 c) = own_not (nar .boolean (own_fB_0 c)) := by
  have qa : own_fA_0 c = (0 : Int32) := (own_f (own_ltF (n := 97) rfl (by omega)) (own_f (own_leF (n := 122) rfl (by omega)) (own_f (own_ltF (n := 65) rfl (by omega)) (own_f (own_leF (n := 90) rfl (by omega)) (own_f (own_eqF (n := 95) rfl (by omega)) (own_f (own_ltF (n := 192) rfl (by omega)) (own_f (own_leF (n := 214) rfl (by omega)) (own_f (own_ltF (n := 216) rfl (by omega)) (own_f (own_leF (n := 246) rfl (by omega)) (own_f (own_ltF (n := 248) rfl (by omega)) (own_f (own_leF (n := 767) rfl (by omega)) (own_f (own_ltF (n := 880) rfl (by omega)) (own_f (own_leF (n := 893) rfl (by omega)) (own_t (own_ltT (n := 895) rfl (by omega)) (own_t (own_ltT (n := 8204) rfl (by omega)) (own_t (own_ltT (n := 8304) rfl (by omega)) (own_t (own_ltT (n := 11264) rfl (by omega)) (own_t (own_ltT (n := 12289) rfl (by omega)) (own_t (own_ltT (n := 63744) rfl (by omega)) (own_t (own_ltT (n := 65008) rfl (by omega)) (own_t (own_ltT (n := 65536) rfl (by omega)) rfl)))))))))))))))))))))
  have qb : own_fB_0 c = (1 : Int32) := (own_f (own_ltF (n := 65) rfl (by omega)) (own_f (own_leF (n := 90) rfl (by omega)) (own_t (own_geT (n := 97) rfl (by omega)) (own_f (own_leF (n := 122) rfl (by omega)) (own_f (own_ltF (n := 192) rfl (by omega)) (own_f (own_eqF (n := 215) rfl (by omega)) (own_f (own_eqF (n := 247) rfl (by omega)) (own_f (own_ltF (n := 768) rfl (by omega)) (own_f (own_leF (n := 879) rfl (by omega)) (own_t (own_eqT (n := 894) rfl (by omega)) rfl))))))))))
  rw [qa, qb]; rfl
theorem own_same_15 (c : Int32) (h1 : 895 ≤ c.toInt) (h2 : c.toInt < 8192) : nar .boolean (own_fA_0 c) = own_not (nar .boolean (own_fB_0 c)) := by
  have qa : own_fA_0 c = (1 : Int32) := (own_f (own_ltF (n := 97) rfl (by omega)) (own_f (own_leF (n := 122) rfl (by omega)) (own_f (own_ltF (n := 65) rfl (by omega)) (own_f (own_leF (n := 90) rfl (by omega)) (own_f (own_eqF (n := 95) rfl (by omega)) (own_f (own_ltF (n := 192) rfl (by omega)) (own_f (own_leF (n := 214) rfl (by omega)) (own_f (own_ltF (n := 216) rfl (by omega)) (own_f (own_leF (n := 246) rfl (by omega)) (own_f (own_ltF (n := 248) rfl (by omega)) (own_f (own_leF (n := 767) rfl (by omega)) (own_f (own_ltF (n := 880) rfl (by omega)) (own_f (own_leF (n := 893) rfl (by omega)) (own_f (own_ltF (n := 895) rfl (by omega)) (own_t (own_leT (n := 8191) rfl (by omega)) rfl)))))))))))))))
  have qb : own_fB_0 c = (0 : Int32) := (own_f (own_ltF (n := 65) rfl (by omega)) (own_f (own_leF (n := 90) rfl (by omega)) (own_t (own_geT (n := 97) rfl (by omega)) (own_f (own_leF (n := 122) rfl (by omega)) (own_f (own_ltF (n := 192) rfl (by omega)) (own_f (own_eqF (n := 215) rfl (by omega)) (own_f (own_eqF (n := 247) rfl (by omega)) (own_f (own_ltF (n := 768) rfl (by omega)) (own_f (own_leF (n := 879) rfl (by omega)) (own_f (own_eqF (n := 894) rfl (by omega)) (own_t (own_ltT (n := 8192) rfl (by omega)) (own_t (own_ltT (n := 8206) rfl (by omega)) (own_t (own_ltT (n := 8592) rfl (by omega)) (own_t (own_ltT (n := 12272) rfl (by omega)) (own_t (own_ltT (n := 55296) rfl (by omega)) (own_t (own_ltT (n := 64976) rfl (by omega)) (own_t (own_ltT (n := 65534) rfl (by omega)) (own_t (own_ltT (n := 983040) rfl (by omega)) rfl))))))))))))))))))
  rw [qa, qb]; rfl
theorem own_same_16 (c : Int32) (h1 : 8192 ≤ c.toInt) (h2 : c.toInt < 8204) : nar .boolean (own_fA_0 c) = own_not (nar .boolean (own_fB_0 c)) := by
  have qa : own_fA_0 c = (0 : Int32) := (own_f (own_ltF (n := 97) rfl (by omega)) (own_f (own_leF (n := 122) rfl (by omega)) (own_f (own_ltF (n := 65) rfl (by omega)) (own_f (own_leF (n := 90) rfl (by omega)) (own_f (own_eqF (n := 95) rfl (by omega)) (own_f (own_ltF (n := 192) rfl (by omega)) (own_f (own_leF (n := 214) rfl (by omega)) (own_f (own_ltF (n := 216) rfl (by omega)) (own_f (own_leF (n := 246) rfl (by omega)) (own_f (own_ltF (n := 248) rfl (by omega)) (own_f (own_leF (n := 767) rfl (by omega)) (own_f (own_ltF (n := 880) rfl (by omega)) (own_f (own_leF (n := 893) rfl (by omega)) (own_f (own_ltF (n := 895) rfl (by omega)) (own_f (own_leF (n := 8191) rfl (by omega)) (own_t (own_ltT (n := 8204) rfl (by omega)) (own_t (own_ltT (n := 8304) rfl (by omega)) (own_t (own_ltT (n := 11264) rfl (by omega)) (own_t (own_ltT (n := 12289) rfl (by omega)) (own_t (own_ltT (n := 63744) rfl (by omega)) (own_t (own_ltT (n := 65008) rfl (by omega)) (own_t (own_ltT (n := 65536) rfl (by omega)) rfl))))))))))))))))))))))
  have qb : own_fB_0 c = (1 : Int32) := (own_f (own_ltF (n := 65) rfl (by omega)) (own_f (own_leF (n := 90) rfl (by omega)) (own_t (own_geT (n := 97) rfl (by omega)) (own_f (own_leF (n := 122) rfl (by omega)) (own_f (own_ltF (n := 192) rfl (by omega)) (own_f (own_eqF (n := 215) rfl (by omega)) (own_f (own_eqF (n := 247) rfl (by omega)) (own_f (own_ltF (n := 768) rfl (by omega)) (own_f (own_leF (n := 879) rfl (by omega)) (own_f (own_eqF (n := 894) rfl (by omega)) (own_f (own_ltF (n := 8192) rfl (by omega)) (own_t (own_leT (n := 8203) rfl (by omega)) rfl))))))))))))
  rw [qa, qb]; rfl
theorem own_same_17 (c : Int32) (h1 : 8204 ≤ c.toInt) (h2 : c.toInt < 8206) : nar .boolean (own_fA_0 c) = own_not (nar .boolean (own_fB_0 c)) := by
  have qa : own_fA_0 c = (1 : Int32) := (own_f (own_ltF (n := 97) rfl (by omega)) (own_f (own_leF (n := 122) rfl (by omega)) (own_f (own_ltF (n := 65) rfl (by omega)) (own_f (own_leF (n := 90) rfl (by omega)) (own_f (own_eqF (n := 95) rfl (by omega)) (own_f (own_ltF (n := 192) rfl (by omega)) (own_f (own_leF (n := 214) rfl (by omega)) (own_f (own_ltF (n := 216) rfl (by omega)) (own_f (own_leF (n := 246) rfl (by omega)) (own_f (own_ltF (n := 248) rfl (by omega)) (own_f (own_leF (n := 767) rfl (by omega)) (own_f (own_ltF (n := 880) rfl (by omega)) (own_f (own_leF (n := 893) rfl (by omega)) (own_f (own_ltF (n := 895) rfl (by omega)) (own_f (own_leF (n := 8191) rfl (by omega)) (own_f (own_ltF (n := 8204) rfl (by omega)) (own_t (own_leT (n := 8205) rfl (by omega)) rfl)))))))))))))))))
  have qb : own_fB_0 c = (0 : Int32) := (own_f (own_ltF (n := 65) rfl (by omega)) (own_f (own_leF (n := 90) rfl (by omega)) (own_t (own_geT (n := 97) rfl (by omega)) (own_f (own_leF (n := 122) rfl (by omega)) (own_f (own_ltF (n := 192) rfl (by omega)) (own_f (own_eqF (n := 215) rfl (by omega)) (own_f (own_eqF (n := 247) rfl (by omega)) (own_f (own_ltF (n := 768) rfl (by omega)) (own_f (own_leF (n := 879) rfl (by omega)) (own_f (own_eqF (n := 894) rfl (by omega)) (own_f (own_ltF (n := 8192) rfl (by omega)) (own_f (own_leF (n := 8203) rfl (by omega)) (own_t (own_ltT (n := 8206) rfl (by omega)) (own_t (own_ltT (n := 8592) rfl (by omega)) (own_t (own_ltT (n := 12272) rfl (by omega)) (own_t (own_ltT (n := 55296) rfl (by omega)) (own_t (own_ltT (n := 64976) rfl (by omega)) (own_t (own_ltT (n := 65534) rfl (by omega)) (own_t (own_ltT (n := 983040) rfl (by omega)) rfl)))))))))))))))))))
  rw [qa, qb]; rfl
theorem own_same_18 (c : Int32) (h1 : 8206 ≤ c.toInt) (h2 : c.toInt < 8304) : nar .boolean (own_fA_0 c) = own_not (nar .boolean (own_fB_0 c)) := by
  have qa : own_fA_0 c = (0 : Int32) := (own_f (own_ltF (n := 97) rfl (by omega)) (own_f (own_leF (n := 122) rfl (by omega)) (own_f (own_ltF (n := 65) rfl (by omega)) (own_f (own_leF (n := 90) rfl (by omega)) (own_f (own_eqF (n := 95) rfl (by omega)) (own_f (own_ltF (n := 192) rfl (by omega)) (own_f (own_leF (n := 214) rfl (by omega)) (own_f (own_ltF (n := 216) rfl (by omega)) (own_f (own_leF (n := 246) rfl (by omega)) (own_f (own_ltF (n := 248) rfl (by omega)) (own_f (own_leF (n := 767) rfl (by omega)) (own_f (own_ltF (n := 880) rfl (by omega)) (own_f (own_leF (n := 893) rfl (by omega)) (own_f (own_ltF (n := 895) rfl (by omega)) (own_f (own_leF (n := 8191) rfl (by omega)) (own_f (own_ltF (n := 8204) rfl (by omega)) (own_f (own_leF (n := 8205) rfl (by omega)) (own_t (own_ltT (n := 8304) rfl (by omega)) (own_t (own_ltT (n := 11264) rfl (by omega)) (own_t (own_ltT (n := 12289) rfl (by omega)) (own_t (own_ltT (n := 63744) rfl (by omega)) (own_t (own_ltT (n := 65008) rfl (by omega)) (own_t (own_ltT (n := 65536) rfl (by omega)) rfl)))))))))))))))))))))))
  have qb : own_fB_0 c = (1 : Int32) := (own_f (own_ltF (n := 65) rfl (by omega)) (own_f (own_leF (n := 90) rfl (by omega)) (own_t (own_geT (n := 97) rfl (by omega)) (own_f (own_leF (n := 122) rfl (by omega)) (own_f (own_ltF (n := 192) rfl (by omega)) (own_f (own_eqF (n := 215) rfl (by omega)) (own_f (own_eqF (n := 247) rfl (by omega)) (own_f (own_ltF (n := 768) rfl (by omega)) (own_f (own_leF (n := 879) rfl (by omega)) (own_f (own_eqF (n := 894) rfl (by omega)) (own_f (own_ltF (n := 8192) rfl (by omega)) (own_f (own_leF (n := 8203) rfl (by omega)) (own_f (own_ltF (n := 8206) rfl (by omega)) (own_t (own_leT (n := 8303) rfl (by omega)) rfl))))))))))))))
  rw [qa, qb]; rfl
theorem own_same_19 (c : Int32) (h1 : 8304 ≤ c.toInt) (h2 : c.toInt < 8592) : nar .boolean (own_fA_0 c) = own_not (nar .boolean (own_fB_0 c)) := by
  have qa : own_fA_0 c = (1 : Int32) := (own_f (own_ltF (n := 97) rfl (by omega)) (own_f (own_leF (n := 122) rfl (by omega)) (own_f (own_ltF (n := 65) rfl (by omega)) (own_f (own_leF (n := 90) rfl (by omega)) (own_f (own_eqF (n := 95) rfl (by omega)) (own_f (own_ltF (n := 192) rfl (by omega)) (own_f (own_leF (n := 214) rfl (by omega)) (own_f (own_ltF (n := 216) rfl (by omega)) (own_f (own_leF (n := 246) rfl (by omega)) (own_f (own_ltF (n := 248) rfl (by omega)) (own_f (own_leF (n := 767) rfl (by omega)) (own_f (own_ltF (n := 880) rfl (by omega)) (own_f (own_leF (n := 893) rfl (by omega)) (own_f (own_ltF (n := 895) rfl (by omega)) (own_f (own_leF (n := 8191) rfl (by omega)) (own_f (own_ltF (n := 8204) rfl (by omega)) (own_f (own_leF (n := 8205) rfl (by omega)) (own_f (own_ltF (n := 8304) rfl (by omega)) (own_t (own_leT (n := 8591) rfl (by omega)) rfl)))))))))))))))))))
  have qb : own_fB_0 c = (0 : Int32) := (own_f (own_ltF (n := 65) rfl (by omega)) (own_f (own_leF (n := 90) rfl (by omega)) (own_t (own_geT (n := 97) rfl (by omega)) (own_f (own_leF (n := 122) rfl (by omega)) (own_f (own_ltF (n := 192) rfl (by omega)) (own_f (own_eqF (n := 215) rfl (by omega)) (own_f (own_eqF (n := 247) rfl (by omega)) (own_f (own_ltF (n := 768) rfl (by omega)) (own_f (own_leF (n := 879) rfl (by omega)) (own_f (own_eqF (n := 894) rfl (by omega)) (own_f (own_ltF (n := 8192) rfl (by omega)) (own_f (own_leF (n := 8203) rfl (by omega)) (own_f (own_ltF (n := 8206) rfl (by omega)) (own_f (own_leF (n := 8303) rfl (by omega)) (own_t (own_ltT (n := 8592) rfl (by omega)) (own_t (own_ltT (n := 12272) rfl (by omega)) (own_t (own_ltT (n := 55296) rfl (by omega)) (own_t (own_ltT (n := 64976) rfl (by omega)) (own_t (own_ltT (n := 65534) rfl (by omega)) (own_t (own_ltT (n := 983040) rfl (by omega)) rfl))))))))))))))))))))
  rw [qa, qb]; rfl
theorem own_same_20 (c : Int32) (h1 : 8592 ≤ c.toInt) (h2 : c.toInt < 11264) : nar .boolean (own_fA_0 c) = own_not (nar .boolean (own_fB_0 c)) := by
  have qa : own_fA_0 c = (0 : Int32) := (own_f (own_ltF (n := 97) rfl (by omega)) (own_f (own_leF (n := 122) rfl (by omega)) (own_f (own_ltF (n := 65) rfl (by omega)) (own_f (own_leF (n := 90) rfl (by omega)) (own_f (own_eqF (n := 95) rfl (by omega)) (own_f (own_ltF (n := 192) rfl (by omega)) (own_f (own_leF (n := 214) rfl (by omega)) (own_f (own_ltF (n := 216) rfl (by omega)) (own_f (own_leF (n := 246) rfl (by omega)) (own_f (own_ltF (n := 248) rfl (by omega)) (own_f (own_leF (n := 767) rfl (by omega)) (own_f (own_ltF (n := 880) rfl (by omega)) (own_f (own_leF (n := 893) rfl (by omega)) (own_f (own_ltF (n := 895) rfl (by omega)) (own_f (own_leF (n := 8191) rfl (by omega)) (own_f (own_ltF (n := 8204) rfl (by omega)) (own_f (own_leF (n := 8205) rfl (by omega)) (own_f (own_ltF (n := 8304) rfl (by omega)) (own_f (own_leF (n := 8591) rfl (by omega)) (own_t (own_ltT (n := 11264) rfl (by omega)) (own_t (own_ltT (n := 12289) rfl (by omega)) (own_t (own_ltT (n := 63744) rfl (by omega)) (own_t (own_ltT (n := 65008) rfl (by omega)) (own_t (own_ltT (n := 65536) rfl (by omega)) rfl))))))))))))))))))))))))
  have qb : own_fB_0 c = (1 : Int32) := (own_f (own_ltF (n := 65) rfl (by omega)) (own_f (own_leF (n := 90) rfl (by omega)) (own_t (own_geT (n := 97) rfl (by omega)) (own_f (own_leF (n := 122) rfl (by omega)) (own_f (own_ltF (n := 192) rfl (by omega)) (own_f (own_eqF (n := 215) rfl (by omega)) (own_f (own_eqF (n := 247) rfl (by omega)) (own_f (own_ltF (n := 768) rfl (by omega)) (own_f (own_leF (n := 879) rfl (by omega)) (own_f (own_eqF (n := 894) rfl (by omega)) (own_f (own_ltF (n := 8192) rfl (by omega)) (own_f (own_leF (n := 8203) rfl (by omega)) (own_f (own_ltF (n := 8206) rfl (by omega)) (own_f (own_leF (n := 8303) rfl (by omega)) (own_f (own_ltF (n := 8592) rfl (by omega)) (own_t (own_leT (n := 11263) rfl (by omega)) rfl))))))))))))))))
  rw [qa, qb]; rfl
theorem own_same_21 (c : Int32) (h1 : 11264 ≤ c.toInt) (h2 : c.toInt < 12272) : nar .boolean (own_fA_0 c) = own_not (nar .boolean (own_fB_0 c)) := by
  have qa : own_fA_0 c = (1 : Int32) := (own_f (own_ltF (n := 97) rfl (by omega)) (own_f (own_leF (n := 122) rfl (by omega)) (own_f (own_ltF (n := 65) rfl (by omega)) (own_f (own_leF (n := 90) rfl (by omega)) (own_f (own_eqF (n := 95) rfl (by omega)) (own_f (own_ltF (n := 192) rfl (by omega)) (own_f (own_leF (n := 214) rfl (by omega)) (own_f (own_ltF (n := 216) rfl (by omega)) (own_f (own_leF (n := 246) rfl (by omega)) (own_f (own_ltF (n := 248) rfl (by omega)) (own_f (own_leF (n := 767) rfl (by omega)) (own_f (own_ltF (n := 880) rfl (by omega)) (own_f (own_leF (n := 893) rfl (by omega)) (own_f (own_ltF (n := 895) rfl (by omega)) (own_f (own_leF (n := 8191) rfl (by omega)) (own_f (own_ltF (n := 8204) rfl (by omega)) (own_f (own_leF (n := 8205) rfl (by omega)) (own_f (own_ltF (n := 8304) rfl (by omega)) (own_f (own_leF (n := 8591) rfl (by omega)) (own_f (own_ltF (n := 11264) rfl (by omega)) (own_t (own_leT (n := 12271) rfl (by omega)) rfl)))))))))))))))))))))
  have qb : own_fB_0 c = (0 : Int32) := (own_f (own_ltF (n := 65) rfl (by omega)) (own_f (own_leF (n := 90) rfl (by omega)) (own_t (own_geT (n := 97) rfl (by omega)) (own_f (own_leF (n := 122) rfl (by omega)) (own_f (own_ltF (n := 192) rfl (by omega)) (own_f (own_eqF (n := 215) rfl (by omega)) (own_f (own_eqF (n := 247) rfl (by omega)) (own_f (own_ltF (n := 768) rfl (by omega)) (own_f (own_leF (n := 879) rfl (by omega)) (own_f (own_eqF (n := 894) rfl (by omega)) (own_f (own_ltF (n := 8192) rfl (by omega)) (own_f (own_leF (n := 8203) rfl (by omega)) (own_f (own_ltF (n := 8206) rfl (by omega)) (own_f (own_leF (n := 8303) rfl (by omega)) (own_f (own_ltF (n := 8592) rfl (by omega)) (own_f (own_leF (n := 11263) rfl (by omega)) (own_t (own_ltT (n := 12272) rfl (by omega)) (own_t (own_ltT (n := 55296) rfl (by omega)) (own_t (own_ltT (n := 64976) rfl (by omega)) (own_t (own_ltT (n := 65534) rfl (by omega)) (own_t (own_ltT (n := 983040) rfl (by omega)) rfl)))))))))))))))))))))
  rw [qa, qb]; rfl
theorem own_same_22 (c : Int32) (h1 : 12272 ≤ c.toInt) (h2 : c.toInt < 12289) : nar .boolean (own_fA_0 c) = own_not (nar .boolean (own_fB_0 c)) := by
  have qa : own_fA_0 c = (0 : Int32) := (own_f (own_ltF (n := 97) rfl (by omega)) (own_f (own_leF (n := 122) rfl (by omega)) (own_f (own_ltF (n := 65) rfl (by omega)) (own_f (own_leF (n := 90) rfl (by omega)) (own_f (own_eqF (n := 95) rfl (by omega)) (own_f (own_ltF (n := 192) rfl (by omega)) (own_f (own_leF (n := 214) rfl (by omega)) (own_f (own_ltF (n := 216) rfl (by omega)) (own_f (own_leF (n := 246) rfl (by omega)) (own_f (own_ltF (n := 248) rfl (by omega)) (own_f (own_leF (n := 767) rfl (by omega)) (own_f (own_ltF (n := 880) rfl (by omega)) (own_f (own_leF (n := 893) rfl (by omega)) (own_f (own_ltF (n := 895) rfl (by omega)) (own_f (own_leF (n := 8191) rfl (by omega)) (own_f (own_ltF (n := 8204) rfl (by omega)) (own_f (own_leF (n := 8205) rfl (by omega)) (own_f (own_ltF (n := 8304) rfl (by omega)) (own_f (own_leF (n := 8591) rfl (by omega)) (own_f (own_ltF (n := 11264) rfl (by omega)) (own_f (own_leF (n := 12271) rfl (by omega)) (own_t (own_ltT (n := 12289) rfl (by omega)) (own_t (own_ltT (n := 63744) rfl (by omega)) (own_t (own_ltT (n := 65008) rfl (by omega)) (own_t (own_ltT (n := 65536) rfl (by omega)) rfl)))))))))))))))))))))))))
  have qb : own_fB_0 c = (1 : Int32) := (own_f (own_ltF (n := 65) rfl (by omega)) (own_f (own_leF (n := 90) rfl (by omega)) (own_t (own_geT (n := 97) rfl (by omega)) (own_f (own_leF (n := 122) rfl (by omega)) (own_f (own_ltF (n := 192) rfl (by omega)) (own_f (own_eqF (n := 215) rfl (by omega)) (own_f (own_eqF (n := 247) rfl (by omega)) (own_f (own_ltF (n := 768) rfl (by omega)) (own_f (own_leF (n := 879) rfl (by omega)) (own_f (own_eqF (n := 894) rfl (by omega)) (own_f (own_ltF (n := 8192) rfl (by omega)) (own_f (own_leF (n := 8203) rfl (by omega)) (own_f (own_ltF (n := 8206) rfl (by omega)) (own_f (own_leF (n := 8303) rfl (by omega)) (own_f (own_ltF (n := 8592) rfl (by omega)) (own_f (own_leF (n := 11263) rfl (by omega)) (own_f (own_ltF (n := 12272) rfl (by omega)) (own_t (own_leT (n := 12288) rfl (by omega)) rfl))))))))))))))))))
  rw [qa, qb]; rfl
theorem own_same_23 (c : Int32) (h1 : 12289 ≤ c.toInt) (h2 : c.toInt < 55296) : nar .boolean (own_fA_0 c) = own_not (nar .boolean (own_fB_0 c)) := by
  have qa : own_fA_0 c = (1 : Int32) := (own_f (own_ltF (n := 97) rfl (by omega)) (own_f (own_leF (n := 122) rfl (by omega)) (own_f (own_ltF (n := 65) rfl (by omega)) (own_f (own_leF (n := 90) rfl (by omega)) (own_f (own_eqF (n := 95) rfl (by omega)) (own_f (own_ltF (n := 192) rfl (by omega)) (own_f (own_leF (n := 214) rfl (by omega)) (own_f (own_ltF (n := 216) rfl (by omega)) (own_f (own_leF (n := 246) rfl (by omega)) (own_f (own_ltF (n := 248) rfl (by omega)) (own_f (own_leF (n := 767) rfl (by omega)) (own_f (own_ltF (n := 880) rfl (by omega)) (own_f (own_leF (n := 893) rfl (by omega)) (own_f (own_ltF (n := 895) rfl (by omega)) (own_f (own_leF (n := 8191) rfl (by omega)) (own_f (own_ltF (n := 8204) rfl (by omega)) (own_f (own_leF (n := 8205) rfl (by omega)) (own_f (own_ltF (n := 8304) rfl (by omega)) (own_f (own_leF (n := 8591) rfl (by omega)) (own_f (own_ltF (n := 11264) rfl (by omega)) (own_f (own_leF (n := 12271) rfl (by omega)) (own_f (own_ltF (n := 12289) rfl (by omega)) (own_t (own_leT (n := 55295) rfl (by omega)) rfl)))))))))))))))))))))))
  have qb : own_fB_0 c = (0 : Int32) := (own_f (own_ltF (n := 65) rfl (by omega)) (own_f (own_leF (n := 90) rfl (by omega)) (own_t (own_geT (n := 97) rfl (by omega)) (own_f (own_leF (n := 122) rfl (by omega)) (own_f (own_ltF (n := 192) rfl (by omega)) (own_f (own_eqF (n := 215) rfl (by omega)) (own_f (own_eqF (n := 247) rfl (by omega)) (own_f (own_ltF (n := 768) rfl (by omega)) (own_f (own_leF (n := 879) rfl (by omega)) (own_f (own_eqF (n := 894) rfl (by omega)) (own_f (own_ltF (n := 8192) rfl (by omega)) (own_f (own_leF (n := 8203) rfl (by omega)) (own_f (own_ltF (n := 8206) rfl (by omega)) (own_f (own_leF (n := 8303) rfl (by omega)) (own_f (own_ltF (n := 8592) rfl (by omega)) (own_f (own_leF (n := 11263) rfl (by omega)) (own_f (own_ltF (n := 12272) rfl (by omega)) (own_f (own_leF (n := 12288) rfl (by omega)) (own_t (own_ltT (n := 55296) rfl (by omega)) (own_t (own_ltT (n := 64976) rfl (by omega)) (own_t (own_ltT (n := 65534) rfl (by omega)) (own_t (own_ltT (n := 983040) rfl (by omega)) rfl))))))))))))))))))))))
  rw [qa, qb]; rfl
theorem own_same_24 (c : Int32) (h1 : 55296 ≤ c.toInt) (h2 : c.toInt < 63744) : nar .boolean (own_fA_0 c) = own_not (nar .boolean (own_fB_0 c)) := by
  have qa : own_fA_0 c = (0 : Int32) := (own_f (own_ltF (n := 97) rfl (by omega)) (own_f (own_leF (n := 122) rfl (by omega)) (own_f (own_ltF (n := 65) rfl (by omega)) (own_f (own_leF (n := 90) rfl (by omega)) (own_f (own_eqF (n := 95) rfl (by omega)) (own_f (own_ltF (n := 192) rfl (by omega)) (own_f (own_leF (n := 214) rfl (by omega)) (own_f (own_ltF (n := 216) rfl (by omega)) (own_f (own_leF (n := 246) rfl (by omega)) (own_f (own_ltF (n := 248) rfl (by omega)) (own_f (own_leF (n := 767) rfl (by omega)) (own_f (own_ltF (n := 880) rfl (by omega)) (own_f (own_leF (n := 893) rfl (by omega)) (own_f (own_ltF (n := 895) rfl (by omega)) (own_f (own_leF (n := 8191) rfl (by omega)) (own_f (own_ltF (n := 8204) rfl (by omega)) (own_f (own_leF (n := 8205) rfl (by omega)) (own_f (own_ltF (n := 8304) rfl (by omega)) (own_f (own_leF (n := 8591) rfl (by omega)) (own_f (own_ltF (n := 11264) rfl (by omega)) (own_f (own_leF (n := 12271) rfl (by omega)) (own_f (own_ltF (n := 12289) rfl (by omega)) (own_f (own_leF (n := 55295) rfl (by omega)) (own_t (own_ltT (n := 63744) rfl (by omega)) (own_t (own_ltT (n := 65008) rfl (by omega)) (own_t (own_ltT (n := 65536) rfl (by omega)) rfl))))))))))))))))))))))))))
  have qb : own_fB_0 c = (1 : Int32) := (own_f (own_ltF (n := 65) rfl (by omega)) (own_f (own_leF (n := 90) rfl (by omega)) (own_t (own_geT (n := 97) rfl (by omega)) (own_f (own_leF (n := 122) rfl (by omega)) (own_f (own_ltF (n := 192) rfl (by omega)) (own_f (own_eqF (n := 215) rfl (by omega)) (own_f (own_eqF (n := 247) rfl (by omega)) (own_f (own_ltF (n := 768) rfl (by omega)) (own_f (own_leF (n := 879) rfl (by omega)) (own_f (own_eqF (n := 894) rfl (by omega)) (own_f (own_ltF (n := 8192) rfl (by omega)) (own_f (own_leF (n := 8203) rfl (by omega)) (own_f (own_ltF (n := 8206) rfl (by omega)) (own_f (own_leF (n := 8303) rfl (by omega)) (own_f (own_ltF (n := 8592) rfl (by omega)) (own_f (own_leF (n := 11263) rfl (by omega)) (own_f (own_ltF (n := 12272) rfl (by omega)) (own_f (own_leF (n := 12288) rfl (by omega)) (own_f (own_ltF (n := 55296) rfl (by omega)) (own_t (own_leT (n := 63743) rfl (by omega)) rfl))))))))))))))))))))
  rw [qa, qb]; rfl
theorem own_same_25 (c : Int32) (h1 : 63744 ≤ c.toInt) (h2 : c.toInt < 64976) : nar .boolean (own_fA_0 c) = own_not (nar .boolean (own_fB_0 c)) := by
  have qa : own_fA_0 c = (1 : Int32) := (own_f (own_ltF (n := 97) rfl (by omega)) (own_f (own_leF (n := 122) rfl (by omega)) (own_f (own_ltF (n := 65) rfl (by omega)) (own_f (own_leF (n := 90) rfl (by omega)) (own_f (own_eqF (n := 95) rfl (by omega)) (own_f (own_ltF (n := 192) rfl (by omega)) (own_f (own_leF (n := 214) rfl (by omega)) (own_f (own_ltF (n := 216) rfl (by omega)) (own_f (own_leF (n := 246) rfl (by omega)) (own_f (own_ltF (n := 248) rfl (by omega)) (own_f (own_leF (n := 767) rfl (by omega)) (own_f (own_ltF (n := 880) rfl (by omega)) (own_f (own_leF (n := 893) rfl (by omega)) (own_f (own_ltF (n := 895) rfl (by omega)) (own_f (own_leF (n := 8191) rfl (by omega)) (own_f (own_ltF (n := 8204) rfl (by omega)) (own_f (own_leF (n := 8205) rfl (by omega)) (own_f (own_ltF (n := 8304) rfl (by omega)) (own_f (own_leF (n := 8591) rfl (by omega)) (own_f (own_ltF (n := 11264) rfl (by omega)) (own_f (own_leF (n := 12271) rfl (by omega)) (own_f (own_ltF (n := 12289) rfl (by omega)) (own_f (own_leF (n := 55295) rfl (by omega)) (own_f (own_ltF (n := 63744) rfl (by omega)) (own_t (own_leT (n := 64975) rfl (by omega)) rfl)))))))))))))))))))))))))
  have qb : own_fB_0 c = (0 : Int32) := (own_f (own_ltF (n := 65) rfl (by omega)) (own_f (own_leF (n := 90) rfl (by omega)) (own_t (own_geT (n := 97) rfl (by omega)) (own_f (own_leF (n := 122) rfl (by omega)) (own_f (own_ltF (n := 192) rfl (by omega)) (own_f (own_eqF (n := 215) rfl (by omega)) (own_f (own_eqF (n := 247) rfl (by omega)) (own_f (own_ltF (n := 768) rfl (by omega)) (own_f (own_leF (n := 879) rfl (by omega)) (own_f (own_eqF (n := 894) rfl (by omega)) (own_f (own_ltF (n := 8192) rfl (by omega)) (own_f (own_leF (n := 8203) rfl (by omega)) (own_f (own_ltF (n := 8206) rfl (by omega)) (own_f (own_leF (n := 8303) rfl (by omega)) (own_f (own_ltF (n := 8592) rfl (by omega)) (own_f (own_leF (n := 11263) rfl (by omega)) (own_f (own_ltF (n := 12272) rfl (by omega)) (own_f (own_leF (n := 12288) rfl (by omega)) (own_f (own_ltF (n := 55296) rfl (by omega)) (own_f (own_leF (n := 63743) rfl (by omega)) (own_t (own_ltT (n := 64976) rfl (by omega)) (own_t (own_ltT (n := 65534) rfl (by omega)) (own_t (own_ltT (n := 983040) rfl (by omega)) rfl)))))))))))))))))))))))
  rw [qa, qb]; rfl
theorem own_same_26 (c : Int32) (h1 : 64976 ≤ c.toInt) (h2 : c.toInt < 65008) : nar .boolean (own_fA_0 c) = own_not (nar .boolean (own_fB_0 c)) := by
  have qa : own_fA_0 c = (0 : Int32) := (own_f (own_ltF (n := 97) rfl (by omega)) (own_f (own_leF (n := 122) rfl (by omega)) (own_f (own_ltF (n := 65) rfl (by omega)) (own_f (own_leF (n := 90) rfl (by omega)) (own_f (own_eqF (n := 95) rfl (by omega)) (own_f (own_ltF (n := 192) rfl (by omega)) (own_f (own_leF (n := 214) rfl (by omega)) (own_f (own_ltF (n := 216) rfl (by omega)) (own_f (own_leF (n := 246) rfl (by omega)) (own_f (own_ltF (n := 248) rfl (by omega)) (own_f (own_leF (n := 767) rfl (by omega)) (own_f (own_ltF (n := 880) rfl (by omega)) (own_f (own_leF (n := 893) rfl (by omega)) (own_f (own_ltF (n := 895) rfl (by omega)) (own_f (own_leF (n := 8191) rfl (by omega)) (own_f (own_ltF (n := 8204) rfl (by omega)) (own_f (own_leF (n := 8205) rfl (by omega)) (own_f (own_ltF (n := 8304) rfl (by omega)) (own_f (own_leF (n := 8591) rfl (by omega)) (own_f (own_ltF (n := 11264) rfl (by omega)) (own_f (own_leF (n := 12271) rfl (by omega)) (own_f (own_ltF (n := 12289) rfl (by omega)) (own_f (own_leF (n := 55295) rfl (by omega)) (own_f (own_ltF (n := 63744) rfl (by omega)) (own_f (own_leF (n := 64975) rfl (by omega)) (own_t (own_ltT (n := 65008) rfl (by omega)) (own_t (own_ltT (n := 65536) rfl (by omega)) rfl)))))))))))))))))))))))))))
  have qb : own_fB_0 c = (1 : Int32) := (own_f (own_ltF (n := 65) rfl (by omega)) (own_f (own_leF (n := 90) rfl (by omega)) (own_t (own_geT (n := 97) rfl (by omega)) (own_f (own_leF (n := 122) rfl (by omega)) (own_f (own_ltF (n := 192) rfl (by omega)) (own_f (own_eqF (n := 215) rfl (by omega)) (own_f (own_eqF (n := 247) rfl (by omega)) (own_f (own_ltF (n := 768) rfl (by omega)) (own_f (own_leF (n := 879) rfl (by omega)) (own_f (own_eqF (n := 894) rfl (by omega)) (own_f (own_ltF (n := 8192) rfl (by omega)) (own_f (own_leF (n := 8203) rfl (by omega)) (own_f (own_ltF (n := 8206) rfl (by omega)) (own_f (own_leF (n := 8303) rfl (by omega)) (own_f (own_ltF (n := 8592) rfl (by omega)) (own_f (own_leF (n := 11263) rfl (by omega)) (own_f (own_ltF (n := 12272) rfl (by omega)) (own_f (own_leF (n := 12288) rfl (by omega)) (own_f (own_ltF (n := 55296) rfl (by omega)) (own_f (own_leF (n := 63743) rfl (by omega)) (own_f (own_ltF (n := 64976) rfl (by omega)) (own_t (own_leT (n := 65007) rfl (by omega)) rfl))))))))))))))))))))))
  rw [qa, qb]; rfl
theorem own_same_27 (c : Int32) (h1 : 65008 ≤ c.toInt) (h2 : c.toInt < 65534) : nar .boolean (own_fA_0 c) = own_not (nar .boolean (own_fB_0 c)) := by
  have qa : own_fA_0 c = (1 : Int32) := (own_f (own_ltF (n := 97) rfl (by omega)) (own_f (own_leF (n := 122) rfl (by omega)) (own_f (own_ltF (n := 65) rfl (by omega)) (own_f (own_leF (n := 90) rfl (by omega)) (own_f (own_eqF (n := 95) rfl (by omega)) (own_f (own_ltF (n := 192) rfl (by omega)) (own_f (own_leF (n := 214) rfl (by omega)) (own_f (own_ltF (n := 216) rfl (by omega)) (own_f (own_leF (n := 246) rfl (by omega)) (own_f (own_ltF (n := 248) rfl (by omega)) (own_f (own_leF (n := 767) rfl (by omega)) (own_f (own_ltF (n := 880) rfl (by omega)) (own_f (own_leF (n := 893) rfl (by omega)) (own_f (own_ltF (n := 895) rfl (by omega)) (own_f (own_leF (n := 8191) rfl (by omega)) (own_f (own_ltF (n := 8204) rfl (by omega)) (own_f (own_leF (n := 8205) rfl (by omega)) (own_f (own_ltF (n := 8304) rfl (by omega)) (own_f (own_leF (n := 8591) rfl (by omega)) (own_f (own_ltF (n := 11264) rfl (by omega)) (own_f (own_leF (n := 12271) rfl (by omega)) (own_f (own_ltF (n := 12289) rfl (by omega)) (own_f (own_leF (n := 55295) rfl (by omega)) (own_f (own_ltF (n := 63744) rfl (by omega)) (own_f (own_leF (n := 64975) rfl (by omega)) (own_f (own_ltF (n := 65008) rfl (by omega)) (own_t (own_leT (n := 65533) rfl (by omega)) rfl)))))))))))))))))))))))))))
  have qb : own_fB_0 c = (0 : Int32) := (own_f (own_ltF (n := 65) rfl (by omega)) (own_f (own_leF (n := 90) rfl (by omega)) (own_t (own_geT (n := 97) rfl (by omega)) (own_f (own_leF (n := 122) rfl (by omega)) (own_f (own_ltF (n := 192) rfl (by omega)) (own_f (own_eqF (n := 215) rfl (by omega)) (own_f (own_eqF (n := 247) rfl (by omega)) (own_f (own_ltF (n := 768) rfl (by omega)) (own_f (own_leF (n := 879) rfl (by omega)) (own_f (own_eqF (n := 894) rfl (by omega)) (own_f (own_ltF (n := 8192) rfl (by omega)) (own_f (own_leF (n := 8203) rfl (by omega)) (own_f (own_ltF (n := 8206) rfl (by omega)) (own_f (own_leF (n := 8303) rfl (by omega)) (own_f (own_ltF (n := 8592) rfl (by omega)) (own_f (own_leF (n := 11263) rfl (by omega)) (own_f (own_ltF (n := 12272) rfl (by omega)) (own_f (own_leF (n := 12288) rfl (by omega)) (own_f (own_ltF (n := 55296) rfl (by omega)) (own_f (own_leF (n := 63743) rfl (by omega)) (own_f (own_ltF (n := 64976) rfl (by omega)) (own_f (own_leF (n := 65007) rfl (by omega)) (own_t (own_ltT (n := 65534) rfl (by omega)) (own_t (own_ltT (n := 983040) rfl (by omega)) rfl))))))))))))))))))))))))
  rw [qa, qb]; rfl
theorem own_same_28 (c : Int32) (h1 : 65534 ≤ c.toInt) (h2 : c.toInt < 65536) : nar .boolean (own_fA_0 c) = own_not (nar .boolean (own_fB_0 c)) := by
  have qa : own_fA_0 c = (0 : Int32) := (own_f (own_ltF (n := 97) rfl (by omega)) (own_f (own_leF (n := 122) rfl (by omega)) (own_f (own_ltF (n := 65) rfl (by omega)) (own_f (own_leF (n := 90) rfl (by omega)) (own_f (own_eqF (n := 95) rfl (by omega)) (own_f (own_ltF (n := 192) rfl (by omega)) (own_f (own_leF (n := 214) rfl (by omega)) (own_f (own_ltF (n := 216) rfl (by omega)) (own_f (own_leF (n := 246) rfl (by omega)) (own_f (own_ltF (n := 248) rfl (by omega)) (own_f (own_leF (n := 767) rfl (by omega)) (own_f (own_ltF (n := 880) rfl (by omega)) (own_f (own_leF (n := 893) rfl (by omega)) (own_f (own_ltF (n := 895) rfl (by omega)) (own_f (own_leF (n := 8191) rfl (by omega)) (own_f (own_ltF (n := 8204) rfl (by omega)) (own_f (own_leF (n := 8205) rfl (by omega)) (own_f (own_ltF (n := 8304) rfl (by omega)) (own_f (own_leF (n := 8591) rfl (by omega)) (own_f (own_ltF (n := 11264) rfl (by omega)) (own_f (own_leF (n := 12271) rfl (by omega)) (own_f (own_ltF (n := 12289) rfl (by omega)) (own_f (own_leF (n := 55295) rfl (by omega)) (own_f (own_ltF (n := 63744) rfl (by omega)) (own_f (own_leF (n := 64975) rfl (by omega)) (own_f (own_ltF (n := 65008) rfl (by omega)) (own_f (own_leF (n := 65533) rfl (by omega)) (own_t (own_ltT (n := 65536) rfl (by omega)) rfl))))))))))))))))))))))))))))
  have qb : own_fB_0 c = (1 : Int32) := (own_f (own_ltF (n := 65) rfl (by omega)) (own_f (own_leF (n := 90) rfl (by omega)) (own_t (own_geT (n := 97) rfl (by omega)) (own_f (own_leF (n := 122) rfl (by omega)) (own_f (own_ltF (n := 192) rfl (by omega)) (own_f (own_eqF (n := 215) rfl (by omega)) (own_f (own_eqF (n := 247) rfl (by omega)) (own_f (own_ltF (n := 768) rfl (by omega)) (own_f (own_leF (n := 879) rfl (by omega)) (own_f (own_eqF (n := 894) rfl (by omega)) (own_f (own_ltF (n := 8192) rfl (by omega)) (own_f (own_leF (n := 8203) rfl (by omega)) (own_f (own_ltF (n := 8206) rfl (by omega)) (own_f (own_leF (n := 8303) rfl (by omega)) (own_f (own_ltF (n := 8592) rfl (by omega)) (own_f (own_leF (n := 11263) rfl (by omega)) (own_f (own_ltF (n := 12272) rfl (by omega)) (own_f (own_leF (n := 12288) rfl (by omega)) (own_f (own_ltF (n := 55296) rfl (by omega)) (own_f (own_leF (n := 63743) rfl (by omega)) (own_f (own_ltF (n := 64976) rfl (by omega)) (own_f (own_leF (n := 65007) rfl (by omega)) (own_f (own_ltF (n := 65534) rfl (by omega)) (own_t (own_leT (n := 65535) rfl (by omega)) rfl))))))))))))))))))))))))
  rw [qa, qb]; rfl
theorem own_same_29 (c : Int32) (h1 : 65536 ≤ c.toInt) (h2 : c.toInt < 983040) : nar .boolean (own_fA_0 c) = own_not (nar .boolean (own_fB_0 c)) := by
  have qa : own_fA_0 c = (1 : Int32) := (own_f (own_ltF (n := 97) rfl (by omega)) (own_f (own_leF (n := 122) rfl (by omega)) (own_f (own_ltF (n := 65) rfl (by omega)) (own_f (own_leF (n := 90) rfl (by omega)) (own_f (own_eqF (n := 95) rfl (by omega)) (own_f (own_ltF (n := 192) rfl (by omega)) (own_f (own_leF (n := 214) rfl (by omega)) (own_f (own_ltF (n := 216) rfl (by omega)) (own_f (own_leF (n := 246) rfl (by omega)) (own_f (own_ltF (n := 248) rfl (by omega)) (own_f (own_leF (n := 767) rfl (by omega)) (own_f (own_ltF (n := 880) rfl (by omega)) (own_f (own_leF (n := 893) rfl (by omega)) (own_f (own_ltF (n := 895) rfl (by omega)) (own_f (own_leF (n := 8191) rfl (by omega)) (own_f (own_ltF (n := 8204) rfl (by omega)) (own_f (own_leF (n := 8205) rfl (by omega)) (own_f (own_ltF (n := 8304) rfl (by omega)) (own_f (own_leF (n := 8591) rfl (by omega)) (own_f (own_ltF (n := 11264) rfl (by omega)) (own_f (own_leF (n := 12271) rfl (by omega)) (own_f (own_ltF (n := 12289) rfl (by omega)) (own_f (own_leF (n := 55295) rfl (by omega)) (own_f (own_ltF (n := 63744) rfl (by omega)) (own_f (own_leF (n := 64975) rfl (by omega)) (own_f (own_ltF (n := 65008) rfl (by omega)) (own_f (own_leF (n := 65533) rfl (by omega)) (own_f (own_ltF (n := 65536) rfl (by omega)) (own_f (own_gtF (n := 983039) rfl (by omega)) rfl)))))))))))))))))))))))))))))
  have qb : own_fB_0 c = (0 : Int32) := (own_f (own_ltF (n := 65) rfl (by omega)) (own_f (own_leF (n := 90) rfl (by omega)) (own_t (own_geT (n := 97) rfl (by omega)) (own_f (own_leF (n := 122) rfl (by omega)) (own_f (own_ltF (n := 192) rfl (by omega)) (own_f (own_eqF (n := 215) rfl (by omega)) (own_f (own_eqF (n := 247) rfl (by omega)) (own_f (own_ltF (n := 768) rfl (by omega)) (own_f (own_leF (n := 879) rfl (by omega)) (own_f (own_eqF (n := 894) rfl (by omega)) (own_f (own_ltF (n := 8192) rfl (by omega)) (own_f (own_leF (n := 8203) rfl (by omega)) (own_f (own_ltF (n := 8206) rfl (by omega)) (own_f (own_leF (n := 8303) rfl (by omega)) (own_f (own_ltF (n := 8592) rfl (by omega)) (own_f (own_leF (n := 11263) rfl (by omega)) (own_f (own_ltF (n := 12272) rfl (by omega)) (own_f (own_leF (n := 12288) rfl (by omega)) (own_f (own_ltF (n := 55296) rfl (by omega)) (own_f (own_leF (n := 63743) rfl (by omega)) (own_f (own_ltF (n := 64976) rfl (by omega)) (own_f (own_leF (n := 65007) rfl (by omega)) (own_f (own_ltF (n := 65534) rfl (by omega)) (own_f (own_leF (n := 65535) rfl (by omega)) (own_t (own_ltT (n := 983040) rfl (by omega)) rfl)))))))))))))))))))))))))
  rw [qa, qb]; rfl
theorem own_same_30 (c : Int32) (h1 : 983040 ≤ c.toInt) : nar .boolean (own_fA_0 c) = own_not (nar .boolean (own_fB_0 c)) := by
  have qa : own_fA_0 c = (0 : Int32) := (own_f (own_ltF (n := 97) rfl (by omega)) (own_f (own_leF (n := 122) rfl (by omega)) (own_f (own_ltF (n := 65) rfl (by omega)) (own_f (own_leF (n := 90) rfl (by omega)) (own_f (own_eqF (n := 95) rfl (by omega)) (own_f (own_ltF (n := 192) rfl (by omega)) (own_f (own_leF (n := 214) rfl (by omega)) (own_f (own_ltF (n := 216) rfl (by omega)) (own_f (own_leF (n := 246) rfl (by omega)) (own_f (own_ltF (n := 248) rfl (by omega)) (own_f (own_leF (n := 767) rfl (by omega)) (own_f (own_ltF (n := 880) rfl (by omega)) (own_f (own_leF (n := 893) rfl (by omega)) (own_f (own_ltF (n := 895) rfl (by omega)) (own_f (own_leF (n := 8191) rfl (by omega)) (own_f (own_ltF (n := 8204) rfl (by omega)) (own_f (own_leF (n := 8205) rfl (by omega)) (own_f (own_ltF (n := 8304) rfl (by omega)) (own_f (own_leF (n := 8591) rfl (by omega)) (own_f (own_ltF (n := 11264) rfl (by omega)) (own_f (own_leF (n := 12271) rfl (by omega)) (own_f (own_ltF (n := 12289) rfl (by omega)) (own_f (own_leF (n := 55295) rfl (by omega)) (own_f (own_ltF (n := 63744) rfl (by omega)) (own_f (own_leF (n := 64975) rfl (by omega)) (own_f (own_ltF (n := 65008) rfl (by omega)) (own_f (own_leF (n := 65533) rfl (by omega)) (own_f (own_ltF (n := 65536) rfl (by omega)) (own_t (own_gtT (n := 983039) rfl (by omega)) rfl)))))))))))))))))))))))))))))
  have qb : own_fB_0 c = (1 : Int32) := (own_f (own_ltF (n := 65) rfl (by omega)) (own_f (own_leF (n := 90) rfl (by omega)) (own_t (own_geT (n := 97) rfl (by omega)) (own_f (own_leF (n := 122) rfl (by omega)) (own_f (own_ltF (n := 192) rfl (by omega)) (own_f (own_eqF (n := 215) rfl (by omega)) (own_f (own_eqF (n := 247) rfl (by omega)) (own_f (own_ltF (n := 768) rfl (by omega)) (own_f (own_leF (n := 879) rfl (by omega)) (own_f (own_eqF (n := 894) rfl (by omega)) (own_f (own_ltF (n := 8192) rfl (by omega)) (own_f (own_leF (n := 8203) rfl (by omega)) (own_f (own_ltF (n := 8206) rfl (by omega)) (own_f (own_leF (n := 8303) rfl (by omega)) (own_f (own_ltF (n := 8592) rfl (by omega)) (own_f (own_leF (n := 11263) rfl (by omega)) (own_f (own_ltF (n := 12272) rfl (by omega)) (own_f (own_leF (n := 12288) rfl (by omega)) (own_f (own_ltF (n := 55296) rfl (by omega)) (own_f (own_leF (n := 63743) rfl (by omega)) (own_f (own_ltF (n := 64976) rfl (by omega)) (own_f (own_leF (n := 65007) rfl (by omega)) (own_f (own_ltF (n := 65534) rfl (by omega)) (own_f (own_leF (n := 65535) rfl (by omega)) (own_f (own_ltF (n := 983040) rfl (by omega)) rfl)))))))))))))))))))))))))
  rw [qa, qb]; rfl
theorem own_same (c : Int32) : nar .boolean (own_fA_0 c) = own_not (nar .boolean (own_fB_0 c)) := by
  by_cases q0 : c.toInt < 65
  · exact own_same_0 c q0
  by_cases q1 : c.toInt < 91
  · exact own_same_1 c (by omega) q1
  by_cases q2 : c.toInt < 95
  · exact own_same_2 c (by omega) q2
  by_cases q3 : c.toInt < 96
  · exact own_same_3 c (by omega) q3
  by_cases q4 : c.toInt < 97
  · exact own_same_4 c (by omega) q4
  by_cases q5 : c.toInt < 123
  · exact own_same_5 c (by omega) q5
  by_cases q6 : c.toInt < 192
  · exact own_same_6 c (by omega) q6
  by_cases q7 : c.toInt < 215
  · exact own_same_7 c (by omega) q7
  by_cases q8 : c.toInt < 216
  · exact own_same_8 c (by omega) q8
  by_cases q9 : c.toInt < 247
  · exact own_same_9 c (by omega) q9
  by_cases q10 : c.toInt < 248
  · exact own_same_10 c (by omega) q10
  by_cases q11 : c.toInt < 768
  · exact own_same_11 c (by omega) q11
  by_cases q12 : c.toInt < 880
  · exact own_same_12 c (by omega) q12
  by_cases q13 : c.toInt < 894
  · exact own_same_13 c (by omega) q13
  by_cases q14 : c.toInt < 895
  · exact own_same_14 c (by omega) q14
  by_cases q15 : c.toInt < 8192
  · exact own_same_15 c (by omega) q15
  by_cases q16 : c.toInt < 8204
  · exact own_same_16 c (by omega) q16
  by_cases q17 : c.toInt < 8206
  · exact own_same_17 c (by omega) q17
  by_cases q18 : c.toInt < 8304
  · exact own_same_18 c (by omega) q18
  by_cases q19 : c.toInt < 8592
  · exact own_same_19 c (by omega) q19
  by_cases q20 : c.toInt < 11264
  · exact own_same_20 c (by omega) q20
  by_cases q21 : c.toInt < 12272
  · exact own_same_21 c (by omega) q21
  by_cases q22 : c.toInt < 12289
  · exact own_same_22 c (by omega) q22
  by_cases q23 : c.toInt < 55296
  · exact own_same_23 c (by omega) q23
  by_cases q24 : c.toInt < 63744
  · exact own_same_24 c (by omega) q24
  by_cases q25 : c.toInt < 64976
  · exact own_same_25 c (by omega) q25
  by_cases q26 : c.toInt < 65008
  · exact own_same_26 c (by omega) q26
  by_cases q27 : c.toInt < 65534
  · exact own_same_27 c (by omega) q27
  by_cases q28 : c.toInt < 65536
  · exact own_same_28 c (by omega) q28
  by_cases q29 : c.toInt < 983040
  · exact own_same_29 c (by omega) q29
  exact own_same_30 c (by omega)
theorem own_pn0 : plainName "com/example/quillon/quillon/xdm/XmlCharsIsNameStartCharPinLaw" = true := by first | (simp [plainName, overriddenIn]; done) | decide +kernel
theorem own_ef0 (m : MethodId) (x0 : Int32) (x1 : Int32) (x2 : Int32) : entryFrame m #[(.int x0), (.int x1), (.int x2)] maxLocals = mkF m 0 #[.val (.int x0), .val (.int x1), .val (.int x2), .unset, .unset] [] := by first | (simp [entryFrame, mkF, argsToLocals, Value.category, maxLocals]; done) | rfl
set_option maxRecDepth 65536 in
set_option maxHeartbeats 40000000 in
theorem own_rm0 (l : Launch) (Z : State) (a0 : Array Value) (hw : ∀ d ∈ tables_1, d.before a0 Z = true) (ws : List Jvm.Cond) (p0 : Int32) (p1 : Int32) (p2 : Int32) (h0 : Heap) (n0 : Nat) (Z0 : n0 ≤ h0.size) :
    MetFree l x (head1 (Jvm.Cond.code x code maxLocals ret :: ws) room_1) (fun a U => a = #[(.int p0), (.int p1), (.int p2)] ∧ Z.Warmed39 U.vm ∧ U.heap = h0) (fun _ _ _ _ _ => True) (fun _ U o U' => ∃ v L, o = .returned v ∧ own_Q0 n0 v L ∧ FrameEnd U o U' L room_1.cells room_1.slots) := by
  refine MetFree.of_bodySF (plainFor_of_name own_pn0) hisR ?_
  intro p e s m args below meth c s₁ Bd hml0 hP hK
  obtain ⟨rfl, hZ, hh⟩ := hP
  have hx := Bd.exec
  have hby := Bd.bytes
  have hml : c.maxLocals = 5 := hml0
  have hown : s.vm.findClass "com/example/quillon/quillon/xdm/XmlCharsIsNameStartCharPinLaw" = some m.cls := findClass_of_methodNamed Bd.named
  have hnm := (name_of_methodNamed Bd.named Bd.method).1
  have X0 : Stand p l e room_1 s m #[(.int p0), (.int p1), (.int p2)] below meth c s₁ [] 0 0 := Stand.of_body Bd
  have e0 : s₁.heap = h0 := by rw [← hh, Bd.state]; rfl
  have N0 := Fr.nil n0
  have pre0 : ∀ t, Steps p.tables e below (s₁.setTop (mkF m 0 #[.val (.int p0), .val (.int p1), .val (.int p2), .unset, .unset] [])) t → Steps p.tables e below (s₁.setTop (entryFrame m #[(.int p0), (.int p1), (.int p2)] maxLocals)) t := fun t k => castTop (own_ef0 m p0 p1 p2) k
  obtain ⟨T1, h1, k1, X1, e1, E1, A1, st1⟩ := newP X0 hx hZ (hw _ (List.mem_of_getElem? (i := 0) rfl)) e0 (g := (mkF m 2 #[.val (.int p0), .val (.int p1), .val (.int p2), .unset, .unset] [(.int (33 : Int32))])) rfl (hb hby at_2) rfl (by decide) (cap := 33) (by decide) (by decide) (by decide) (by decide)
  obtain ⟨b1, gb1⟩ : ∃ z, z = h0.size := ⟨_, rfl⟩
  rw [← gb1] at A1 st1
  have I1 : own_Ints (newA k1 .int (33 : Int32)) 33 := own_ints_new k1 _ _ (by decide)
  have ga1 : n0 ≤ b1 := Nat.le_trans Z0 (Nat.le_of_eq gb1.symm)
  obtain ⟨T2, h2, cl2, L2, X2, e2, A2, I2, N2, st2⟩ := own_st X1 hx hZ e1 A1 I1 N0 ga1 (j := (0 : Int32)) (x := (65 : Int32)) (by decide) (g := (mkF m 8 #[.val (.int p0), .val (.int p1), .val (.int p2), .unset, .unset] [(.int (65 : Int32)), (.int (0 : Int32)), (.ref b1), (.ref b1)])) rfl rfl (hb hby at_8)
  obtain ⟨T3, h3, cl3, L3, X3, e3, A3, I3, N3, st3⟩ := own_st X2 hx hZ e2 A2 I2 N2 ga1 (j := (1 : Int32)) (x := (90 : Int32)) (by decide) (g := (mkF m 13 #[.val (.int p0), .val (.int p1), .val (.int p2), .unset, .unset] [(.int (90 : Int32)), (.int (1 : Int32)), (.ref b1), (.ref b1)])) rfl rfl (hb hby at_13)
  obtain ⟨T4, h4, cl4, L4, X4, e4, A4, I4, N4, st4⟩ := own_st X3 hx hZ e3 A3 I3 N3 ga1 (j := (2 : Int32)) (x := (95 : Int32)) (by decide) (g := (mkF m 18 #[.val (.int p0), .val (.int p1), .val (.int p2), .unset, .unset] [(.int (95 : Int32)), (.int (2 : Int32)), (.ref b1), (.ref b1)])) rfl rfl (hb hby at_18)
  obtain ⟨T5, h5, cl5, L5, X5, e5, A5, I5, N5, st5⟩ := own_st X4 hx hZ e4 A4 I4 N4 ga1 (j := (3 : Int32)) (x := (97 : Int32)) (by decide) (g := (mkF m 23 #[.val (.int p0), .val (.int p1), .val (.int p2), .unset, .unset] [(.int (97 : Int32)), (.int (3 : Int32)), (.ref b1), (.ref b1)])) rfl rfl (hb hby at_23)
  obtain ⟨T6, h6, cl6, L6, X6, e6, A6, I6, N6, st6⟩ := own_st X5 hx hZ e5 A5 I5 N5 ga1 (j := (4 : Int32)) (x := (122 : Int32)) (by decide) (g := (mkF m 28 #[.val (.int p0), .val (.int p1), .val (.int p2), .unset, .unset] [(.int (122 : Int32)), (.int (4 : Int32)), (.ref b1), (.ref b1)])) rfl rfl (hb hby at_28)
  obtain ⟨T7, h7, cl7, L7, X7, e7, A7, I7, N7, st7⟩ := own_st X6 hx hZ e6 A6 I6 N6 ga1 (j := (5 : Int32)) (x := (192 : Int32)) (by decide) (g := (mkF m 34 #[.val (.int p0), .val (.int p1), .val (.int p2), .unset, .unset] [(.int (192 : Int32)), (.int (5 : Int32)), (.ref b1), (.ref b1)])) rfl rfl (hb hby at_34)
  obtain ⟨T8, h8, cl8, L8, X8, e8, A8, I8, N8, st8⟩ := own_st X7 hx hZ e7 A7 I7 N7 ga1 (j := (6 : Int32)) (x := (214 : Int32)) (by decide) (g := (mkF m 41 #[.val (.int p0), .val (.int p1), .val (.int p2), .unset, .unset] [(.int (214 : Int32)), (.int (6 : Int32)), (.ref b1), (.ref b1)])) rfl rfl (hb hby at_41)
  obtain ⟨T9, h9, cl9, L9, X9, e9, A9, I9, N9, st9⟩ := own_st X8 hx hZ e8 A8 I8 N8 ga1 (j := (7 : Int32)) (x := (216 : Int32)) (by decide) (g := (mkF m 48 #[.val (.int p0), .val (.int p1), .val (.int p2), .unset, .unset] [(.int (216 : Int32)), (.int (7 : Int32)), (.ref b1), (.ref b1)])) rfl rfl (hb hby at_48)
  obtain ⟨T10, h10, cl10, L10, X10, e10, A10, I10, N10, st10⟩ := own_st X9 hx hZ e9 A9 I9 N9 ga1 (j := (8 : Int32)) (x := (246 : Int32)) (by decide) (g := (mkF m 55 #[.val (.int p0), .val (.int p1), .val (.int p2), .unset, .unset] [(.int (246 : Int32)), (.int (8 : Int32)), (.ref b1), (.ref b1)])) rfl rfl (hb hby at_55)
  obtain ⟨T11, h11, cl11, L11, X11, e11, A11, I11, N11, st11⟩ := own_st X10 hx hZ e10 A10 I10 N10 ga1 (j := (9 : Int32)) (x := (248 : Int32)) (by decide) (g := (mkF m 62 #[.val (.int p0), .val (.int p1), .val (.int p2), .unset, .unset] [(.int (248 : Int32)), (.int (9 : Int32)), (.ref b1), (.ref b1)])) rfl rfl (hb hby at_62)
  obtain ⟨T12, h12, cl12, L12, X12, e12, A12, I12, N12, st12⟩ := own_st X11 hx hZ e11 A11 I11 N11 ga1 (j := (10 : Int32)) (x := (767 : Int32)) (by decide) (g := (mkF m 69 #[.val (.int p0), .val (.int p1), .val (.int p2), .unset, .unset] [(.int (767 : Int32)), (.int (10 : Int32)), (.ref b1), (.ref b1)])) rfl rfl (hb hby at_69)
  obtain ⟨T13, h13, cl13, L13, X13, e13, A13, I13, N13, st13⟩ := own_st X12 hx hZ e12 A12 I12 N12 ga1 (j := (11 : Int32)) (x := (880 : Int32)) (by decide) (g := (mkF m 76 #[.val (.int p0), .val (.int p1), .val (.int p2), .unset, .unset] [(.int (880 : Int32)), (.int (11 : Int32)), (.ref b1), (.ref b1)])) rfl rfl (hb hby at_76)
  obtain ⟨T14, h14, cl14, L14, X14, e14, A14, I14, N14, st14⟩ := own_st X13 hx hZ e13 A13 I13 N13 ga1 (j := (12 : Int32)) (x := (893 : Int32)) (by decide) (g := (mkF m 83 #[.val (.int p0), .val (.int p1), .val (.int p2), .unset, .unset] [(.int (893 : Int32)), (.int (12 : Int32)), (.ref b1), (.ref b1)])) rfl rfl (hb hby at_83)
  obtain ⟨T15, h15, cl15, L15, X15, e15, A15, I15, N15, st15⟩ := own_st X14 hx hZ e14 A14 I14 N14 ga1 (j := (13 : Int32)) (x := (895 : Int32)) (by decide) (g := (mkF m 90 #[.val (.int p0), .val (.int p1), .val (.int p2), .unset, .unset] [(.int (895 : Int32)), (.int (13 : Int32)), (.ref b1), (.ref b1)])) rfl rfl (hb hby at_90)
  obtain ⟨T16, h16, cl16, L16, X16, e16, A16, I16, N16, st16⟩ := own_st X15 hx hZ e15 A15 I15 N15 ga1 (j := (14 : Int32)) (x := (8191 : Int32)) (by decide) (g := (mkF m 97 #[.val (.int p0), .val (.int p1), .val (.int p2), .unset, .unset] [(.int (8191 : Int32)), (.int (14 : Int32)), (.ref b1), (.ref b1)])) rfl rfl (hb hby at_97)
  obtain ⟨T17, h17, cl17, L17, X17, e17, A17, I17, N17, st17⟩ := own_st X16 hx hZ e16 A16 I16 N16 ga1 (j := (15 : Int32)) (x := (8204 : Int32)) (by decide) (g := (mkF m 104 #[.val (.int p0), .val (.int p1), .val (.int p2), .unset, .unset] [(.int (8204 : Int32)), (.int (15 : Int32)), (.ref b1), (.ref b1)])) rfl rfl (hb hby at_104)
  obtain ⟨T18, h18, cl18, L18, X18, e18, A18, I18, N18, st18⟩ := own_st X17 hx hZ e17 A17 I17 N17 ga1 (j := (16 : Int32)) (x := (8205 : Int32)) (by decide) (g := (mkF m 111 #[.val (.int p0), .val (.int p1), .val (.int p2), .unset, .unset] [(.int (8205 : Int32)), (.int (16 : Int32)), (.ref b1), (.ref b1)])) rfl rfl (hb hby at_111)
  obtain ⟨T19, h19, cl19, L19, X19, e19, A19, I19, N19, st19⟩ := own_st X18 hx hZ e18 A18 I18 N18 ga1 (j := (17 : Int32)) (x := (8304 : Int32)) (by decide) (g := (mkF m 118 #[.val (.int p0), .val (.int p1), .val (.int p2), .unset, .unset] [(.int (8304 : Int32)), (.int (17 : Int32)), (.ref b1), (.ref b1)])) rfl rfl (hb hby at_118)
  obtain ⟨T20, h20, cl20, L20, X20, e20, A20, I20, N20, st20⟩ := own_st X19 hx hZ e19 A19 I19 N19 ga1 (j := (18 : Int32)) (x := (8591 : Int32)) (by decide) (g := (mkF m 125 #[.val (.int p0), .val (.int p1), .val (.int p2), .unset, .unset] [(.int (8591 : Int32)), (.int (18 : Int32)), (.ref b1), (.ref b1)])) rfl rfl (hb hby at_125)
  obtain ⟨T21, h21, cl21, L21, X21, e21, A21, I21, N21, st21⟩ := own_st X20 hx hZ e20 A20 I20 N20 ga1 (j := (19 : Int32)) (x := (11264 : Int32)) (by decide) (g := (mkF m 132 #[.val (.int p0), .val (.int p1), .val (.int p2), .unset, .unset] [(.int (11264 : Int32)), (.int (19 : Int32)), (.ref b1), (.ref b1)])) rfl rfl (hb hby at_132)
  obtain ⟨T22, h22, cl22, L22, X22, e22, A22, I22, N22, st22⟩ := own_st X21 hx hZ e21 A21 I21 N21 ga1 (j := (20 : Int32)) (x := (12271 : Int32)) (by decide) (g := (mkF m 139 #[.val (.int p0), .val (.int p1), .val (.int p2), .unset, .unset] [(.int (12271 : Int32)), (.int (20 : Int32)), (.ref b1), (.ref b1)])) rfl rfl (hb hby at_139)
  obtain ⟨T23, h23, cl23, L23, X23, e23, A23, I23, N23, st23⟩ := own_st X22 hx hZ e22 A22 I22 N22 ga1 (j := (21 : Int32)) (x := (12289 : Int32)) (by decide) (g := (mkF m 146 #[.val (.int p0), .val (.int p1), .val (.int p2), .unset, .unset] [(.int (12289 : Int32)), (.int (21 : Int32)), (.ref b1), (.ref b1)])) rfl rfl (hb hby at_146)
  obtain ⟨T24, h24, cl24, L24, X24, e24, A24, I24, N24, st24⟩ := own_st X23 hx hZ e23 A23 I23 N23 ga1 (j := (22 : Int32)) (x := (55295 : Int32)) (by decide) (g := (mkF m 152 #[.val (.int p0), .val (.int p1), .val (.int p2), .unset, .unset] [(.int (55295 : Int32)), (.int (22 : Int32)), (.ref b1), (.ref b1)])) rfl rfl (hb hby at_152)
  obtain ⟨T25, h25, cl25, L25, X25, e25, A25, I25, N25, st25⟩ := own_st X24 hx hZ e24 A24 I24 N24 ga1 (j := (23 : Int32)) (x := (63744 : Int32)) (by decide) (g := (mkF m 158 #[.val (.int p0), .val (.int p1), .val (.int p2), .unset, .unset] [(.int (63744 : Int32)), (.int (23 : Int32)), (.ref b1), (.ref b1)])) rfl rfl (hb hby at_158)
  obtain ⟨T26, h26, cl26, L26, X26, e26, A26, I26, N26, st26⟩ := own_st X25 hx hZ e25 A25 I25 N25 ga1 (j := (24 : Int32)) (x := (64975 : Int32)) (by decide) (g := (mkF m 164 #[.val (.int p0), .val (.int p1), .val (.int p2), .unset, .unset] [(.int (64975 : Int32)), (.int (24 : Int32)), (.ref b1), (.ref b1)])) rfl rfl (hb hby at_164)
  obtain ⟨T27, h27, cl27, L27, X27, e27, A27, I27, N27, st27⟩ := own_st X26 hx hZ e26 A26 I26 N26 ga1 (j := (25 : Int32)) (x := (65008 : Int32)) (by decide) (g := (mkF m 170 #[.val (.int p0), .val (.int p1), .val (.int p2), .unset, .unset] [(.int (65008 : Int32)), (.int (25 : Int32)), (.ref b1), (.ref b1)])) rfl rfl (hb hby at_170)
  obtain ⟨T28, h28, cl28, L28, X28, e28, A28, I28, N28, st28⟩ := own_st X27 hx hZ e27 A27 I27 N27 ga1 (j := (26 : Int32)) (x := (65533 : Int32)) (by decide) (g := (mkF m 176 #[.val (.int p0), .val (.int p1), .val (.int p2), .unset, .unset] [(.int (65533 : Int32)), (.int (26 : Int32)), (.ref b1), (.ref b1)])) rfl rfl (hb hby at_176)
  obtain ⟨T29, h29, cl29, L29, X29, e29, A29, I29, N29, st29⟩ := own_st X28 hx hZ e28 A28 I28 N28 ga1 (j := (27 : Int32)) (x := (65536 : Int32)) (by decide) (g := (mkF m 182 #[.val (.int p0), .val (.int p1), .val (.int p2), .unset, .unset] [(.int (65536 : Int32)), (.int (27 : Int32)), (.ref b1), (.ref b1)])) rfl rfl (hb hby at_182)
  obtain ⟨T30, h30, cl30, L30, X30, e30, A30, I30, N30, st30⟩ := own_st X29 hx hZ e29 A29 I29 N29 ga1 (j := (28 : Int32)) (x := (983039 : Int32)) (by decide) (g := (mkF m 188 #[.val (.int p0), .val (.int p1), .val (.int p2), .unset, .unset] [(.int (983039 : Int32)), (.int (28 : Int32)), (.ref b1), (.ref b1)])) rfl rfl (hb hby at_188)
  obtain ⟨T31, h31, cl31, L31, X31, e31, A31, I31, N31, st31⟩ := own_st X30 hx hZ e30 A30 I30 N30 ga1 (j := (29 : Int32)) (x := (58 : Int32)) (by decide) (g := (mkF m 194 #[.val (.int p0), .val (.int p1), .val (.int p2), .unset, .unset] [(.int (58 : Int32)), (.int (29 : Int32)), (.ref b1), (.ref b1)])) rfl rfl (hb hby at_194)
  obtain ⟨T32, h32, cl32, L32, X32, e32, A32, I32, N32, st32⟩ := own_st X31 hx hZ e31 A31 I31 N31 ga1 (j := (30 : Int32)) (x := (0 : Int32)) (by decide) (g := (mkF m 199 #[.val (.int p0), .val (.int p1), .val (.int p2), .unset, .unset] [(.int (0 : Int32)), (.int (30 : Int32)), (.ref b1), (.ref b1)])) rfl rfl (hb hby at_199)
  obtain ⟨T33, h33, cl33, L33, X33, e33, A33, I33, N33, st33⟩ := own_st X32 hx hZ e32 A32 I32 N32 ga1 (j := (31 : Int32)) (x := (-2147483648 : Int32)) (by decide) (g := (mkF m 205 #[.val (.int p0), .val (.int p1), .val (.int p2), .unset, .unset] [(.int (-2147483648 : Int32)), (.int (31 : Int32)), (.ref b1), (.ref b1)])) rfl rfl (hb hby at_205)
  obtain ⟨T34, h34, cl34, L34, X34, e34, A34, I34, N34, st34⟩ := own_st X33 hx hZ e33 A33 I33 N33 ga1 (j := (32 : Int32)) (x := (2147483647 : Int32)) (by decide) (g := (mkF m 211 #[.val (.int p0), .val (.int p1), .val (.int p2), .unset, .unset] [(.int (2147483647 : Int32)), (.int (32 : Int32)), (.ref b1), (.ref b1)])) rfl rfl (hb hby at_211)
  obtain ⟨cv, stJ⟩ : ∃ cv : Int32, ∀ t, Steps p.tables e below (T34.setTop (mkF m 239 #[.val (.int p0), .val (.int p1), .val (.int p2), .val (.ref b1), .val (.int cv)] [])) t → Steps p.tables e below (T34.setTop (mkF m 216 #[.val (.int p0), .val (.int p1), .val (.int p2), .val (.ref b1), .unset] [(.int (p1 &&& (1 : Int32)))])) t := by
    rcases own_tf (ifCond.holds .ne (p1 &&& (1 : Int32))) with hc | hc
    · obtain ⟨z35, sz35⟩ := own_ld X34 hx hZ e34 A34 I34 (j := ((((p1).toUInt32 >>> ((1 : Int32) &&& 31).toUInt32).toInt32) - ((((p1).toUInt32 >>> ((1 : Int32) &&& 31).toUInt32).toInt32) / (33 : Int32)) * (33 : Int32))) (own_rem_in (own_nn_shr p1) rfl (by decide))
      refine ⟨(z35 + (p2 - (p2 / (3 : Int32)) * (3 : Int32))), fun t k => ?_⟩
      show Steps p.tables e below (T34.setTop (mkF m 216 #[.val (.int p0), .val (.int p1), .val (.int p2), .val (.ref b1), .unset] [(.int (p1 &&& (1 : Int32)))])) _
      refine XS.ifYes X34.here hx rfl (pc0 := 216) (pc' := 225) rfl (hb hby at_216) rfl hc (by decide) (by decide) ?_
      show Steps p.tables e below (T34.setTop (mkF m 225 #[.val (.int p0), .val (.int p1), .val (.int p2), .val (.ref b1), .unset] [])) _
      refine XS.aloadN X34.here hx rfl (hb hby at_225) rfl rfl ?_
      show Steps p.tables e below (T34.setTop (mkF m 226 #[.val (.int p0), .val (.int p1), .val (.int p2), .val (.ref b1), .unset] [(.ref b1)])) _
      refine XS.iloadN X34.here hx rfl (hb hby at_226) rfl ?_
      show Steps p.tables e below (T34.setTop (mkF m 227 #[.val (.int p0), .val (.int p1), .val (.int p2), .val (.ref b1), .unset] [(.int p1), (.ref b1)])) _
      refine XS.iconst X34.here hx rfl (hb hby at_227) ?_
      show Steps p.tables e below (T34.setTop (mkF m 228 #[.val (.int p0), .val (.int p1), .val (.int p2), .val (.ref b1), .unset] [(.int (1 : Int32)), (.int p1), (.ref b1)])) _
      refine XS.iushr X34.here hx rfl (hb hby at_228) rfl ?_
      show Steps p.tables e below (T34.setTop (mkF m 229 #[.val (.int p0), .val (.int p1), .val (.int p2), .val (.ref b1), .unset] [(.int (((p1).toUInt32 >>> ((1 : Int32) &&& 31).toUInt32).toInt32)), (.ref b1)])) _
      refine XS.aloadN X34.here hx rfl (hb hby at_229) rfl rfl ?_
      show Steps p.tables e below (T34.setTop (mkF m 230 #[.val (.int p0), .val (.int p1), .val (.int p2), .val (.ref b1), .unset] [(.ref b1), (.int (((p1).toUInt32 >>> ((1 : Int32) &&& 31).toUInt32).toInt32)), (.ref b1)])) _
      refine own_len X34 hx hZ e34 A34 I34 (k := (33 : Int32)) rfl (g := (mkF m 230 #[.val (.int p0), .val (.int p1), .val (.int p2), .val (.ref b1), .unset] [(.ref b1), (.int (((p1).toUInt32 >>> ((1 : Int32) &&& 31).toUInt32).toInt32)), (.ref b1)])) rfl rfl (hb hby at_230) _ ?_
      show Steps p.tables e below (T34.setTop (mkF m 231 #[.val (.int p0), .val (.int p1), .val (.int p2), .val (.ref b1), .unset] [(.int (33 : Int32)), (.int (((p1).toUInt32 >>> ((1 : Int32) &&& 31).toUInt32).toInt32)), (.ref b1)])) _
      refine XS.irem X34.here hx rfl (hb hby at_231) rfl (by decide) ?_
      show Steps p.tables e below (T34.setTop (mkF m 232 #[.val (.int p0), .val (.int p1), .val (.int p2), .val (.ref b1), .unset] [(.int ((((p1).toUInt32 >>> ((1 : Int32) &&& 31).toUInt32).toInt32) - ((((p1).toUInt32 >>> ((1 : Int32) &&& 31).toUInt32).toInt32) / (33 : Int32)) * (33 : Int32))), (.ref b1)])) _
      refine sz35 (g := (mkF m 232 #[.val (.int p0), .val (.int p1), .val (.int p2), .val (.ref b1), .unset] [(.int ((((p1).toUInt32 >>> ((1 : Int32) &&& 31).toUInt32).toInt32) - ((((p1).toUInt32 >>> ((1 : Int32) &&& 31).toUInt32).toInt32) / (33 : Int32)) * (33 : Int32))), (.ref b1)])) rfl rfl (hb hby at_232) _ ?_
      show Steps p.tables e below (T34.setTop (mkF m 233 #[.val (.int p0), .val (.int p1), .val (.int p2), .val (.ref b1), .unset] [(.int z35)])) _
      refine XS.iloadN X34.here hx rfl (hb hby at_233) rfl ?_
      show Steps p.tables e below (T34.setTop (mkF m 234 #[.val (.int p0), .val (.int p1), .val (.int p2), .val (.ref b1), .unset] [(.int p2), (.int z35)])) _
      refine XS.iconst X34.here hx rfl (hb hby at_234) ?_
      show Steps p.tables e below (T34.setTop (mkF m 235 #[.val (.int p0), .val (.int p1), .val (.int p2), .val (.ref b1), .unset] [(.int (3 : Int32)), (.int p2), (.int z35)])) _
      refine XS.irem X34.here hx rfl (hb hby at_235) rfl (by decide) ?_
      show Steps p.tables e below (T34.setTop (mkF m 236 #[.val (.int p0), .val (.int p1), .val (.int p2), .val (.ref b1), .unset] [(.int (p2 - (p2 / (3 : Int32)) * (3 : Int32))), (.int z35)])) _
      refine XS.iadd X34.here hx rfl (hb hby at_236) rfl ?_
      show Steps p.tables e below (T34.setTop (mkF m 237 #[.val (.int p0), .val (.int p1), .val (.int p2), .val (.ref b1), .unset] [(.int (z35 + (p2 - (p2 / (3 : Int32)) * (3 : Int32))))])) _
      refine XS.istore X34.here hx rfl (hb hby at_237) rfl (l' := #[.val (.int p0), .val (.int p1), .val (.int p2), .val (.ref b1), .val (.int (z35 + (p2 - (p2 / (3 : Int32)) * (3 : Int32))))]) rfl ?_
      exact k
    · refine ⟨p0, fun t k => ?_⟩
      show Steps p.tables e below (T34.setTop (mkF m 216 #[.val (.int p0), .val (.int p1), .val (.int p2), .val (.ref b1), .unset] [(.int (p1 &&& (1 : Int32)))])) _
      refine XS.ifNo X34.here hx rfl (hb hby at_216) rfl hc ?_
      show Steps p.tables e below (T34.setTop (mkF m 219 #[.val (.int p0), .val (.int p1), .val (.int p2), .val (.ref b1), .unset] [])) _
      refine XS.iloadN X34.here hx rfl (hb hby at_219) rfl ?_
      show Steps p.tables e below (T34.setTop (mkF m 220 #[.val (.int p0), .val (.int p1), .val (.int p2), .val (.ref b1), .unset] [(.int p0)])) _
      refine XS.istore X34.here hx rfl (hb hby at_220) rfl (l' := #[.val (.int p0), .val (.int p1), .val (.int p2), .val (.ref b1), .val (.int p0)]) rfl ?_
      show Steps p.tables e below (T34.setTop (mkF m 222 #[.val (.int p0), .val (.int p1), .val (.int p2), .val (.ref b1), .val (.int p0)] [])) _
      refine XS.goto X34.here hx rfl (pc0 := 222) (pc' := 239) rfl (hb hby at_222) (by decide) (by decide) ?_
      exact k
  obtain ⟨T36, L36, X36, e36, N36, st36⟩ := own_callS X34 hx hZ (y := (⟨"com/example/quillon/quillon/xdm/XmlChars", "isNameStartChar", "(I)Z"⟩ : MethodName)) hown (hw _ (List.mem_of_getElem? (i := 10) rfl)) (hw _ (List.mem_of_getElem? (i := 11) rfl)) (hw _ (List.mem_of_getElem? (i := 12) rfl)) (hw _ (List.mem_of_getElem? (i := 13) rfl)) (by decide) (W := 0) (own_rmA l Z a0 hw [] cv h34 n0) (by decide) (by decide) (g := (mkF m 241 #[.val (.int p0), .val (.int p1), .val (.int p2), .val (.ref b1), .val (.int cv)] [(.int cv)])) rfl (by rw [hml]; rfl) (rest := []) (lenOf own_pdA rfl) rfl (by show 2 * 0 + _ ≤ _; exact Nat.le_of_eq rfl) (hb hby at_241) (by decide) (by decide) e34 N34
  obtain ⟨T37, L37, X37, e37, N37, st37⟩ := own_callS X36 hx hZ (y := (⟨"com/example/quillon/quillon/xdm/XmlCharsIsNameStartCharPinLaw", "excluded", "(I)Z"⟩ : MethodName)) hown (hw _ (List.mem_of_getElem? (i := 17) rfl)) (hw _ (List.mem_of_getElem? (i := 18) rfl)) (hw _ (List.mem_of_getElem? (i := 19) rfl)) (hw _ (List.mem_of_getElem? (i := 20) rfl)) (by decide) (W := 1) (own_rmB l Z a0 hw [] cv h34 n0) (by decide) (by decide) (g := (mkF m 246 #[.val (.int p0), .val (.int p1), .val (.int p2), .val (.ref b1), .val (.int cv)] [(.int cv), (.int (nar .boolean (own_fA_0 cv)))])) rfl (by rw [hml]; rfl) (rest := [(.int (nar .boolean (own_fA_0 cv)))]) (lenOf own_pdB rfl) rfl (by show 2 * 0 + _ ≤ _; exact Nat.le_of_eq rfl) (hb hby at_246) (by decide) (by decide) e36 N36
  have stN : ∀ t, Steps p.tables e below (T37.setTop (mkF m 257 #[.val (.int p0), .val (.int p1), .val (.int p2), .val (.ref b1), .val (.int cv)] [(.int (own_not (nar .boolean (own_fB_0 cv)))), (.int (nar .boolean (own_fA_0 cv)))])) t → Steps p.tables e below (T37.setTop (mkF m 249 #[.val (.int p0), .val (.int p1), .val (.int p2), .val (.ref b1), .val (.int cv)] [(.int (nar .boolean (own_fB_0 cv))), (.int (nar .boolean (own_fA_0 cv)))])) t := by
    intro t k
    rcases own_tf (ifCond.holds .ne (nar .boolean (own_fB_0 cv))) with hc | hc
    · have hn : own_not (nar .boolean (own_fB_0 cv)) = (0 : Int32) := own_t hc rfl
      rw [hn] at k
      show Steps p.tables e below (T37.setTop (mkF m 249 #[.val (.int p0), .val (.int p1), .val (.int p2), .val (.ref b1), .val (.int cv)] [(.int (nar .boolean (own_fB_0 cv))), (.int (nar .boolean (own_fA_0 cv)))])) _
      refine XS.ifYes X37.here hx rfl (pc0 := 249) (pc' := 256) rfl (hb hby at_249) rfl hc (by decide) (by decide) ?_
      show Steps p.tables e below (T37.setTop (mkF m 256 #[.val (.int p0), .val (.int p1), .val (.int p2), .val (.ref b1), .val (.int cv)] [(.int (nar .boolean (own_fA_0 cv)))])) _
      refine XS.iconst X37.here hx rfl (hb hby at_256) ?_
      exact k
    · have hn : own_not (nar .boolean (own_fB_0 cv)) = (1 : Int32) := own_f hc rfl
      rw [hn] at k
      show Steps p.tables e below (T37.setTop (mkF m 249 #[.val (.int p0), .val (.int p1), .val (.int p2), .val (.ref b1), .val (.int cv)] [(.int (nar .boolean (own_fB_0 cv))), (.int (nar .boolean (own_fA_0 cv)))])) _
      refine XS.ifNo X37.here hx rfl (hb hby at_249) rfl hc ?_
      show Steps p.tables e below (T37.setTop (mkF m 252 #[.val (.int p0), .val (.int p1), .val (.int p2), .val (.ref b1), .val (.int cv)] [(.int (nar .boolean (own_fA_0 cv)))])) _
      refine XS.iconst X37.here hx rfl (hb hby at_252) ?_
      show Steps p.tables e below (T37.setTop (mkF m 253 #[.val (.int p0), .val (.int p1), .val (.int p2), .val (.ref b1), .val (.int cv)] [(.int (1 : Int32)), (.int (nar .boolean (own_fA_0 cv)))])) _
      refine XS.goto X37.here hx rfl (pc0 := 253) (pc' := 257) rfl (hb hby at_253) (by decide) (by decide) ?_
      exact k
  obtain ⟨fs, hr, hrun, hended, hW, hsame⟩ := X37.leave (v := some (.int (1 : Int32))) (fun h => by rw [Bd.returns] at h; cases h)
  refine ⟨_, _, pre0 _ ?_, hrun, hended, _, _, rfl, ?_, ⟨_, rfl⟩, hW, hsame.mono (by decide) (by decide)⟩
  · show Steps p.tables e below (s₁.setTop (mkF m 0 #[.val (.int p0), .val (.int p1), .val (.int p2), .unset, .unset] [])) _
    refine XS.bipush X0.here hx rfl (hb hby at_0) ?_
    show Steps p.tables e below (s₁.setTop (mkF m 2 #[.val (.int p0), .val (.int p1), .val (.int p2), .unset, .unset] [(.int (33 : Int32))])) _
    refine st1 _ ?_
    show Steps p.tables e below (T1.setTop (mkF m 4 #[.val (.int p0), .val (.int p1), .val (.int p2), .unset, .unset] [(.ref b1)])) _
    refine XS.dup X1.here hx rfl (hb hby at_4) rfl rfl ?_
    show Steps p.tables e below (T1.setTop (mkF m 5 #[.val (.int p0), .val (.int p1), .val (.int p2), .unset, .unset] [(.ref b1), (.ref b1)])) _
    refine XS.iconst X1.here hx rfl (hb hby at_5) ?_
    show Steps p.tables e below (T1.setTop (mkF m 6 #[.val (.int p0), .val (.int p1), .val (.int p2), .unset, .unset] [(.int (0 : Int32)), (.ref b1), (.ref b1)])) _
    refine XS.bipush X1.here hx rfl (hb hby at_6) ?_
    show Steps p.tables e below (T1.setTop (mkF m 8 #[.val (.int p0), .val (.int p1), .val (.int p2), .unset, .unset] [(.int (65 : Int32)), (.int (0 : Int32)), (.ref b1), (.ref b1)])) _
    refine st2 _ ?_
    show Steps p.tables e below (T2.setTop (mkF m 9 #[.val (.int p0), .val (.int p1), .val (.int p2), .unset, .unset] [(.ref b1)])) _
    refine XS.dup X2.here hx rfl (hb hby at_9) rfl rfl ?_
    show Steps p.tables e below (T2.setTop (mkF m 10 #[.val (.int p0), .val (.int p1), .val (.int p2), .unset, .unset] [(.ref b1), (.ref b1)])) _
    refine XS.iconst X2.here hx rfl (hb hby at_10) ?_
    show Steps p.tables e below (T2.setTop (mkF m 11 #[.val (.int p0), .val (.int p1), .val (.int p2), .unset, .unset] [(.int (1 : Int32)), (.ref b1), (.ref b1)])) _
    refine XS.bipush X2.here hx rfl (hb hby at_11) ?_
    show Steps p.tables e below (T2.setTop (mkF m 13 #[.val (.int p0), .val (.int p1), .val (.int p2), .unset, .unset] [(.int (90 : Int32)), (.int (1 : Int32)), (.ref b1), (.ref b1)])) _
    refine st3 _ ?_
    show Steps p.tables e below (T3.setTop (mkF m 14 #[.val (.int p0), .val (.int p1), .val (.int p2), .unset, .unset] [(.ref b1)])) _
    refine XS.dup X3.here hx rfl (hb hby at_14) rfl rfl ?_
    show Steps p.tables e below (T3.setTop (mkF m 15 #[.val (.int p0), .val (.int p1), .val (.int p2), .unset, .unset] [(.ref b1), (.ref b1)])) _
    refine XS.iconst X3.here hx rfl (hb hby at_15) ?_
    show Steps p.tables e below (T3.setTop (mkF m 16 #[.val (.int p0), .val (.int p1), .val (.int p2), .unset, .unset] [(.int (2 : Int32)), (.ref b1), (.ref b1)])) _
    refine XS.bipush X3.here hx rfl (hb hby at_16) ?_
    show Steps p.tables e below (T3.setTop (mkF m 18 #[.val (.int p0), .val (.int p1), .val (.int p2), .unset, .unset] [(.int (95 : Int32)), (.int (2 : Int32)), (.ref b1), (.ref b1)])) _
    refine st4 _ ?_
    show Steps p.tables e below (T4.setTop (mkF m 19 #[.val (.int p0), .val (.int p1), .val (.int p2), .unset, .unset] [(.ref b1)])) _
    refine XS.dup X4.here hx rfl (hb hby at_19) rfl rfl ?_
    show Steps p.tables e below (T4.setTop (mkF m 20 #[.val (.int p0), .val (.int p1), .val (.int p2), .unset, .unset] [(.ref b1), (.ref b1)])) _
    refine XS.iconst X4.here hx rfl (hb hby at_20) ?_
    show Steps p.tables e below (T4.setTop (mkF m 21 #[.val (.int p0), .val (.int p1), .val (.int p2), .unset, .unset] [(.int (3 : Int32)), (.ref b1), (.ref b1)])) _
    refine XS.bipush X4.here hx rfl (hb hby at_21) ?_
    show Steps p.tables e below (T4.setTop (mkF m 23 #[.val (.int p0), .val (.int p1), .val (.int p2), .unset, .unset] [(.int (97 : Int32)), (.int (3 : Int32)), (.ref b1), (.ref b1)])) _
    refine st5 _ ?_
    show Steps p.tables e below (T5.setTop (mkF m 24 #[.val (.int p0), .val (.int p1), .val (.int p2), .unset, .unset] [(.ref b1)])) _
    refine XS.dup X5.here hx rfl (hb hby at_24) rfl rfl ?_
    show Steps p.tables e below (T5.setTop (mkF m 25 #[.val (.int p0), .val (.int p1), .val (.int p2), .unset, .unset] [(.ref b1), (.ref b1)])) _
    refine XS.iconst X5.here hx rfl (hb hby at_25) ?_
    show Steps p.tables e below (T5.setTop (mkF m 26 #[.val (.int p0), .val (.int p1), .val (.int p2), .unset, .unset] [(.int (4 : Int32)), (.ref b1), (.ref b1)])) _
    refine XS.bipush X5.here hx rfl (hb hby at_26) ?_
    show Steps p.tables e below (T5.setTop (mkF m 28 #[.val (.int p0), .val (.int p1), .val (.int p2), .unset, .unset] [(.int (122 : Int32)), (.int (4 : Int32)), (.ref b1), (.ref b1)])) _
    refine st6 _ ?_
    show Steps p.tables e below (T6.setTop (mkF m 29 #[.val (.int p0), .val (.int p1), .val (.int p2), .unset, .unset] [(.ref b1)])) _
    refine XS.dup X6.here hx rfl (hb hby at_29) rfl rfl ?_
    show Steps p.tables e below (T6.setTop (mkF m 30 #[.val (.int p0), .val (.int p1), .val (.int p2), .unset, .unset] [(.ref b1), (.ref b1)])) _
    refine XS.iconst X6.here hx rfl (hb hby at_30) ?_
    show Steps p.tables e below (T6.setTop (mkF m 31 #[.val (.int p0), .val (.int p1), .val (.int p2), .unset, .unset] [(.int (5 : Int32)), (.ref b1), (.ref b1)])) _
    refine XS.sipush X6.here hx rfl (hb hby at_31) ?_
    show Steps p.tables e below (T6.setTop (mkF m 34 #[.val (.int p0), .val (.int p1), .val (.int p2), .unset, .unset] [(.int (192 : Int32)), (.int (5 : Int32)), (.ref b1), (.ref b1)])) _
    refine st7 _ ?_
    show Steps p.tables e below (T7.setTop (mkF m 35 #[.val (.int p0), .val (.int p1), .val (.int p2), .unset, .unset] [(.ref b1)])) _
    refine XS.dup X7.here hx rfl (hb hby at_35) rfl rfl ?_
    show Steps p.tables e below (T7.setTop (mkF m 36 #[.val (.int p0), .val (.int p1), .val (.int p2), .unset, .unset] [(.ref b1), (.ref b1)])) _
    refine XS.bipush X7.here hx rfl (hb hby at_36) ?_
    show Steps p.tables e below (T7.setTop (mkF m 38 #[.val (.int p0), .val (.int p1), .val (.int p2), .unset, .unset] [(.int (6 : Int32)), (.ref b1), (.ref b1)])) _
    refine XS.sipush X7.here hx rfl (hb hby at_38) ?_
    show Steps p.tables e below (T7.setTop (mkF m 41 #[.val (.int p0), .val (.int p1), .val (.int p2), .unset, .unset] [(.int (214 : Int32)), (.int (6 : Int32)), (.ref b1), (.ref b1)])) _
    refine st8 _ ?_
    show Steps p.tables e below (T8.setTop (mkF m 42 #[.val (.int p0), .val (.int p1), .val (.int p2), .unset, .unset] [(.ref b1)])) _
    refine XS.dup X8.here hx rfl (hb hby at_42) rfl rfl ?_
    show Steps p.tables e below (T8.setTop (mkF m 43 #[.val (.int p0), .val (.int p1), .val (.int p2), .unset, .unset] [(.ref b1), (.ref b1)])) _
    refine XS.bipush X8.here hx rfl (hb hby at_43) ?_
    show Steps p.tables e below (T8.setTop (mkF m 45 #[.val (.int p0), .val (.int p1), .val (.int p2), .unset, .unset] [(.int (7 : Int32)), (.ref b1), (.ref b1)])) _
    refine XS.sipush X8.here hx rfl (hb hby at_45) ?_
    show Steps p.tables e below (T8.setTop (mkF m 48 #[.val (.int p0), .val (.int p1), .val (.int p2), .unset, .unset] [(.int (216 : Int32)), (.int (7 : Int32)), (.ref b1), (.ref b1)])) _
    refine st9 _ ?_
    show Steps p.tables e below (T9.setTop (mkF m 49 #[.val (.int p0), .val (.int p1), .val (.int p2), .unset, .unset] [(.ref b1)])) _
    refine XS.dup X9.here hx rfl (hb hby at_49) rfl rfl ?_
    show Steps p.tables e below (T9.setTop (mkF m 50 #[.val (.int p0), .val (.int p1), .val (.int p2), .unset, .unset] [(.ref b1), (.ref b1)])) _
    refine XS.bipush X9.here hx rfl (hb hby at_50) ?_
    show Steps p.tables e below (T9.setTop (mkF m 52 #[.val (.int p0), .val (.int p1), .val (.int p2), .unset, .unset] [(.int (8 : Int32)), (.ref b1), (.ref b1)])) _
    refine XS.sipush X9.here hx rfl (hb hby at_52) ?_
    show Steps p.tables e below (T9.setTop (mkF m 55 #[.val (.int p0), .val (.int p1), .val (.int p2), .unset, .unset] [(.int (246 : Int32)), (.int (8 : Int32)), (.ref b1), (.ref b1)])) _
    refine st10 _ ?_
    show Steps p.tables e below (T10.setTop (mkF m 56 #[.val (.int p0), .val (.int p1), .val (.int p2), .unset, .unset] [(.ref b1)])) _
    refine XS.dup X10.here hx rfl (hb hby at_56) rfl rfl ?_
    show Steps p.tables e below (T10.setTop (mkF m 57 #[.val (.int p0), .val (.int p1), .val (.int p2), .unset, .unset] [(.ref b1), (.ref b1)])) _
    refine XS.bipush X10.here hx rfl (hb hby at_57) ?_
    show Steps p.tables e below (T10.setTop (mkF m 59 #[.val (.int p0), .val (.int p1), .val (.int p2), .unset, .unset] [(.int (9 : Int32)), (.ref b1), (.ref b1)])) _
    refine XS.sipush X10.here hx rfl (hb hby at_59) ?_
    show Steps p.tables e below (T10.setTop (mkF m 62 #[.val (.int p0), .val (.int p1), .val (.int p2), .unset, .unset] [(.int (248 : Int32)), (.int (9 : Int32)), (.ref b1), (.ref b1)])) _
    refine st11 _ ?_
    show Steps p.tables e below (T11.setTop (mkF m 63 #[.val (.int p0), .val (.int p1), .val (.int p2), .unset, .unset] [(.ref b1)])) _
    refine XS.dup X11.here hx rfl (hb hby at_63) rfl rfl ?_
    show Steps p.tables e below (T11.setTop (mkF m 64 #[.val (.int p0), .val (.int p1), .val (.int p2), .unset, .unset] [(.ref b1), (.ref b1)])) _
    refine XS.bipush X11.here hx rfl (hb hby at_64) ?_
    show Steps p.tables e below (T11.setTop (mkF m 66 #[.val (.int p0), .val (.int p1), .val (.int p2), .unset, .unset] [(.int (10 : Int32)), (.ref b1), (.ref b1)])) _
    refine XS.sipush X11.here hx rfl (hb hby at_66) ?_
    show Steps p.tables e below (T11.setTop (mkF m 69 #[.val (.int p0), .val (.int p1), .val (.int p2), .unset, .unset] [(.int (767 : Int32)), (.int (10 : Int32)), (.ref b1), (.ref b1)])) _
    refine st12 _ ?_
    show Steps p.tables e below (T12.setTop (mkF m 70 #[.val (.int p0), .val (.int p1), .val (.int p2), .unset, .unset] [(.ref b1)])) _
    refine XS.dup X12.here hx rfl (hb hby at_70) rfl rfl ?_
    show Steps p.tables e below (T12.setTop (mkF m 71 #[.val (.int p0), .val (.int p1), .val (.int p2), .unset, .unset] [(.ref b1), (.ref b1)])) _
    refine XS.bipush X12.here hx rfl (hb hby at_71) ?_
    show Steps p.tables e below (T12.setTop (mkF m 73 #[.val (.int p0), .val (.int p1), .val (.int p2), .unset, .unset] [(.int (11 : Int32)), (.ref b1), (.ref b1)])) _
    refine XS.sipush X12.here hx rfl (hb hby at_73) ?_
    show Steps p.tables e below (T12.setTop (mkF m 76 #[.val (.int p0), .val (.int p1), .val (.int p2), .unset, .unset] [(.int (880 : Int32)), (.int (11 : Int32)), (.ref b1), (.ref b1)])) _
    refine st13 _ ?_
    show Steps p.tables e below (T13.setTop (mkF m 77 #[.val (.int p0), .val (.int p1), .val (.int p2), .unset, .unset] [(.ref b1)])) _
    refine XS.dup X13.here hx rfl (hb hby at_77) rfl rfl ?_
    show Steps p.tables e below (T13.setTop (mkF m 78 #[.val (.int p0), .val (.int p1), .val (.int p2), .unset, .unset] [(.ref b1), (.ref b1)])) _
    refine XS.bipush X13.here hx rfl (hb hby at_78) ?_
    show Steps p.tables e below (T13.setTop (mkF m 80 #[.val (.int p0), .val (.int p1), .val (.int p2), .unset, .unset] [(.int (12 : Int32)), (.ref b1), (.ref b1)])) _
    refine XS.sipush X13.here hx rfl (hb hby at_80) ?_
    show Steps p.tables e below (T13.setTop (mkF m 83 #[.val (.int p0), .val (.int p1), .val (.int p2), .unset, .unset] [(.int (893 : Int32)), (.int (12 : Int32)), (.ref b1), (.ref b1)])) _
    refine st14 _ ?_
    show Steps p.tables e below (T14.setTop (mkF m 84 #[.val (.int p0), .val (.int p1), .val (.int p2), .unset, .unset] [(.ref b1)])) _
    refine XS.dup X14.here hx rfl (hb hby at_84) rfl rfl ?_
    show Steps p.tables e below (T14.setTop (mkF m 85 #[.val (.int p0), .val (.int p1), .val (.int p2), .unset, .unset] [(.ref b1), (.ref b1)])) _
    refine XS.bipush X14.here hx rfl (hb hby at_85) ?_
    show Steps p.tables e below (T14.setTop (mkF m 87 #[.val (.int p0), .val (.int p1), .val (.int p2), .unset, .unset] [(.int (13 : Int32)), (.ref b1), (.ref b1)])) _
    refine XS.sipush X14.here hx rfl (hb hby at_87) ?_
    show Steps p.tables e below (T14.setTop (mkF m 90 #[.val (.int p0), .val (.int p1), .val (.int p2), .unset, .unset] [(.int (895 : Int32)), (.int (13 : Int32)), (.ref b1), (.ref b1)])) _
    refine st15 _ ?_
    show Steps p.tables e below (T15.setTop (mkF m 91 #[.val (.int p0), .val (.int p1), .val (.int p2), .unset, .unset] [(.ref b1)])) _
    refine XS.dup X15.here hx rfl (hb hby at_91) rfl rfl ?_
    show Steps p.tables e below (T15.setTop (mkF m 92 #[.val (.int p0), .val (.int p1), .val (.int p2), .unset, .unset] [(.ref b1), (.ref b1)])) _
    refine XS.bipush X15.here hx rfl (hb hby at_92) ?_
    show Steps p.tables e below (T15.setTop (mkF m 94 #[.val (.int p0), .val (.int p1), .val (.int p2), .unset, .unset] [(.int (14 : Int32)), (.ref b1), (.ref b1)])) _
    refine XS.sipush X15.here hx rfl (hb hby at_94) ?_
    show Steps p.tables e below (T15.setTop (mkF m 97 #[.val (.int p0), .val (.int p1), .val (.int p2), .unset, .unset] [(.int (8191 : Int32)), (.int (14 : Int32)), (.ref b1), (.ref b1)])) _
    refine st16 _ ?_
    show Steps p.tables e below (T16.setTop (mkF m 98 #[.val (.int p0), .val (.int p1), .val (.int p2), .unset, .unset] [(.ref b1)])) _
    refine XS.dup X16.here hx rfl (hb hby at_98) rfl rfl ?_
    show Steps p.tables e below (T16.setTop (mkF m 99 #[.val (.int p0), .val (.int p1), .val (.int p2), .unset, .unset] [(.ref b1), (.ref b1)])) _
    refine XS.bipush X16.here hx rfl (hb hby at_99) ?_
    show Steps p.tables e below (T16.setTop (mkF m 101 #[.val (.int p0), .val (.int p1), .val (.int p2), .unset, .unset] [(.int (15 : Int32)), (.ref b1), (.ref b1)])) _
    refine XS.sipush X16.here hx rfl (hb hby at_101) ?_
    show Steps p.tables e below (T16.setTop (mkF m 104 #[.val (.int p0), .val (.int p1), .val (.int p2), .unset, .unset] [(.int (8204 : Int32)), (.int (15 : Int32)), (.ref b1), (.ref b1)])) _
    refine st17 _ ?_
    show Steps p.tables e below (T17.setTop (mkF m 105 #[.val (.int p0), .val (.int p1), .val (.int p2), .unset, .unset] [(.ref b1)])) _
    refine XS.dup X17.here hx rfl (hb hby at_105) rfl rfl ?_
    show Steps p.tables e below (T17.setTop (mkF m 106 #[.val (.int p0), .val (.int p1), .val (.int p2), .unset, .unset] [(.ref b1), (.ref b1)])) _
    refine XS.bipush X17.here hx rfl (hb hby at_106) ?_
    show Steps p.tables e below (T17.setTop (mkF m 108 #[.val (.int p0), .val (.int p1), .val (.int p2), .unset, .unset] [(.int (16 : Int32)), (.ref b1), (.ref b1)])) _
    refine XS.sipush X17.here hx rfl (hb hby at_108) ?_
    show Steps p.tables e below (T17.setTop (mkF m 111 #[.val (.int p0), .val (.int p1), .val (.int p2), .unset, .unset] [(.int (8205 : Int32)), (.int (16 : Int32)), (.ref b1), (.ref b1)])) _
    refine st18 _ ?_
    show Steps p.tables e below (T18.setTop (mkF m 112 #[.val (.int p0), .val (.int p1), .val (.int p2), .unset, .unset] [(.ref b1)])) _
    refine XS.dup X18.here hx rfl (hb hby at_112) rfl rfl ?_
    show Steps p.tables e below (T18.setTop (mkF m 113 #[.val (.int p0), .val (.int p1), .val (.int p2), .unset, .unset] [(.ref b1), (.ref b1)])) _
    refine XS.bipush X18.here hx rfl (hb hby at_113) ?_
    show Steps p.tables e below (T18.setTop (mkF m 115 #[.val (.int p0), .val (.int p1), .val (.int p2), .unset, .unset] [(.int (17 : Int32)), (.ref b1), (.ref b1)])) _
    refine XS.sipush X18.here hx rfl (hb hby at_115) ?_
    show Steps p.tables e below (T18.setTop (mkF m 118 #[.val (.int p0), .val (.int p1), .val (.int p2), .unset, .unset] [(.int (8304 : Int32)), (.int (17 : Int32)), (.ref b1), (.ref b1)])) _
    refine st19 _ ?_
    show Steps p.tables e below (T19.setTop (mkF m 119 #[.val (.int p0), .val (.int p1), .val (.int p2), .unset, .unset] [(.ref b1)])) _
    refine XS.dup X19.here hx rfl (hb hby at_119) rfl rfl ?_
    show Steps p.tables e below (T19.setTop (mkF m 120 #[.val (.int p0), .val (.int p1), .val (.int p2), .unset, .unset] [(.ref b1), (.ref b1)])) _
    refine XS.bipush X19.here hx rfl (hb hby at_120) ?_
    show Steps p.tables e below (T19.setTop (mkF m 122 #[.val (.int p0), .val (.int p1), .val (.int p2), .unset, .unset] [(.int (18 : Int32)), (.ref b1), (.ref b1)])) _
    refine XS.sipush X19.here hx rfl (hb hby at_122) ?_
    show Steps p.tables e below (T19.setTop (mkF m 125 #[.val (.int p0), .val (.int p1), .val (.int p2), .unset, .unset] [(.int (8591 : Int32)), (.int (18 : Int32)), (.ref b1), (.ref b1)])) _
    refine st20 _ ?_
    show Steps p.tables e below (T20.setTop (mkF m 126 #[.val (.int p0), .val (.int p1), .val (.int p2), .unset, .unset] [(.ref b1)])) _
    refine XS.dup X20.here hx rfl (hb hby at_126) rfl rfl ?_
    show Steps p.tables e below (T20.setTop (mkF m 127 #[.val (.int p0), .val (.int p1), .val (.int p2), .unset, .unset] [(.ref b1), (.ref b1)])) _
    refine XS.bipush X20.here hx rfl (hb hby at_127) ?_
    show Steps p.tables e below (T20.setTop (mkF m 129 #[.val (.int p0), .val (.int p1), .val (.int p2), .unset, .unset] [(.int (19 : Int32)), (.ref b1), (.ref b1)])) _
    refine XS.sipush X20.here hx rfl (hb hby at_129) ?_
    show Steps p.tables e below (T20.setTop (mkF m 132 #[.val (.int p0), .val (.int p1), .val (.int p2), .unset, .unset] [(.int (11264 : Int32)), (.int (19 : Int32)), (.ref b1), (.ref b1)])) _
    refine st21 _ ?_
    show Steps p.tables e below (T21.setTop (mkF m 133 #[.val (.int p0), .val (.int p1), .val (.int p2), .unset, .unset] [(.ref b1)])) _
    refine XS.dup X21.here hx rfl (hb hby at_133) rfl rfl ?_
    show Steps p.tables e below (T21.setTop (mkF m 134 #[.val (.int p0), .val (.int p1), .val (.int p2), .unset, .unset] [(.ref b1), (.ref b1)])) _
    refine XS.bipush X21.here hx rfl (hb hby at_134) ?_
    show Steps p.tables e below (T21.setTop (mkF m 136 #[.val (.int p0), .val (.int p1), .val (.int p2), .unset, .unset] [(.int (20 : Int32)), (.ref b1), (.ref b1)])) _
    refine XS.sipush X21.here hx rfl (hb hby at_136) ?_
    show Steps p.tables e below (T21.setTop (mkF m 139 #[.val (.int p0), .val (.int p1), .val (.int p2), .unset, .unset] [(.int (12271 : Int32)), (.int (20 : Int32)), (.ref b1), (.ref b1)])) _
    refine st22 _ ?_
    show Steps p.tables e below (T22.setTop (mkF m 140 #[.val (.int p0), .val (.int p1), .val (.int p2), .unset, .unset] [(.ref b1)])) _
    refine XS.dup X22.here hx rfl (hb hby at_140) rfl rfl ?_
    show Steps p.tables e below (T22.setTop (mkF m 141 #[.val (.int p0), .val (.int p1), .val (.int p2), .unset, .unset] [(.ref b1), (.ref b1)])) _
    refine XS.bipush X22.here hx rfl (hb hby at_141) ?_
    show Steps p.tables e below (T22.setTop (mkF m 143 #[.val (.int p0), .val (.int p1), .val (.int p2), .unset, .unset] [(.int (21 : Int32)), (.ref b1), (.ref b1)])) _
    refine XS.sipush X22.here hx rfl (hb hby at_143) ?_
    show Steps p.tables e below (T22.setTop (mkF m 146 #[.val (.int p0), .val (.int p1), .val (.int p2), .unset, .unset] [(.int (12289 : Int32)), (.int (21 : Int32)), (.ref b1), (.ref b1)])) _
    refine st23 _ ?_
    show Steps p.tables e below (T23.setTop (mkF m 147 #[.val (.int p0), .val (.int p1), .val (.int p2), .unset, .unset] [(.ref b1)])) _
    refine XS.dup X23.here hx rfl (hb hby at_147) rfl rfl ?_
    show Steps p.tables e below (T23.setTop (mkF m 148 #[.val (.int p0), .val (.int p1), .val (.int p2), .unset, .unset] [(.ref b1), (.ref b1)])) _
    refine XS.bipush X23.here hx rfl (hb hby at_148) ?_
    show Steps p.tables e below (T23.setTop (mkF m 150 #[.val (.int p0), .val (.int p1), .val (.int p2), .unset, .unset] [(.int (22 : Int32)), (.ref b1), (.ref b1)])) _
    refine X23.ldcInt hx hown (mvT hZ (hw _ (List.mem_of_getElem? (i := 1) rfl))) (g := (mkF m 150 #[.val (.int p0), .val (.int p1), .val (.int p2), .unset, .unset] [(.int (22 : Int32)), (.ref b1), (.ref b1)])) rfl (hb hby at_150) _ ?_
    show Steps p.tables e below (T23.setTop (mkF m 152 #[.val (.int p0), .val (.int p1), .val (.int p2), .unset, .unset] [(.int (55295 : Int32)), (.int (22 : Int32)), (.ref b1), (.ref b1)])) _
    refine st24 _ ?_
    show Steps p.tables e below (T24.setTop (mkF m 153 #[.val (.int p0), .val (.int p1), .val (.int p2), .unset, .unset] [(.ref b1)])) _
    refine XS.dup X24.here hx rfl (hb hby at_153) rfl rfl ?_
    show Steps p.tables e below (T24.setTop (mkF m 154 #[.val (.int p0), .val (.int p1), .val (.int p2), .unset, .unset] [(.ref b1), (.ref b1)])) _
    refine XS.bipush X24.here hx rfl (hb hby at_154) ?_
    show Steps p.tables e below (T24.setTop (mkF m 156 #[.val (.int p0), .val (.int p1), .val (.int p2), .unset, .unset] [(.int (23 : Int32)), (.ref b1), (.ref b1)])) _
    refine X24.ldcInt hx hown (mvT hZ (hw _ (List.mem_of_getElem? (i := 2) rfl))) (g := (mkF m 156 #[.val (.int p0), .val (.int p1), .val (.int p2), .unset, .unset] [(.int (23 : Int32)), (.ref b1), (.ref b1)])) rfl (hb hby at_156) _ ?_
    show Steps p.tables e below (T24.setTop (mkF m 158 #[.val (.int p0), .val (.int p1), .val (.int p2), .unset, .unset] [(.int (63744 : Int32)), (.int (23 : Int32)), (.ref b1), (.ref b1)])) _
    refine st25 _ ?_
    show Steps p.tables e below (T25.setTop (mkF m 159 #[.val (.int p0), .val (.int p1), .val (.int p2), .unset, .unset] [(.ref b1)])) _
    refine XS.dup X25.here hx rfl (hb hby at_159) rfl rfl ?_
    show Steps p.tables e below (T25.setTop (mkF m 160 #[.val (.int p0), .val (.int p1), .val (.int p2), .unset, .unset] [(.ref b1), (.ref b1)])) _
    refine XS.bipush X25.here hx rfl (hb hby at_160) ?_
    show Steps p.tables e below (T25.setTop (mkF m 162 #[.val (.int p0), .val (.int p1), .val (.int p2), .unset, .unset] [(.int (24 : Int32)), (.ref b1), (.ref b1)])) _
    refine X25.ldcInt hx hown (mvT hZ (hw _ (List.mem_of_getElem? (i := 3) rfl))) (g := (mkF m 162 #[.val (.int p0), .val (.int p1), .val (.int p2), .unset, .unset] [(.int (24 : Int32)), (.ref b1), (.ref b1)])) rfl (hb hby at_162) _ ?_
    show Steps p.tables e below (T25.setTop (mkF m 164 #[.val (.int p0), .val (.int p1), .val (.int p2), .unset, .unset] [(.int (64975 : Int32)), (.int (24 : Int32)), (.ref b1), (.ref b1)])) _
    refine st26 _ ?_
    show Steps p.tables e below (T26.setTop (mkF m 165 #[.val (.int p0), .val (.int p1), .val (.int p2), .unset, .unset] [(.ref b1)])) _
    refine XS.dup X26.here hx rfl (hb hby at_165) rfl rfl ?_
    show Steps p.tables e below (T26.setTop (mkF m 166 #[.val (.int p0), .val (.int p1), .val (.int p2), .unset, .unset] [(.ref b1), (.ref b1)])) _
    refine XS.bipush X26.here hx rfl (hb hby at_166) ?_
    show Steps p.tables e below (T26.setTop (mkF m 168 #[.val (.int p0), .val (.int p1), .val (.int p2), .unset, .unset] [(.int (25 : Int32)), (.ref b1), (.ref b1)])) _
    refine X26.ldcInt hx hown (mvT hZ (hw _ (List.mem_of_getElem? (i := 4) rfl))) (g := (mkF m 168 #[.val (.int p0), .val (.int p1), .val (.int p2), .unset, .unset] [(.int (25 : Int32)), (.ref b1), (.ref b1)])) rfl (hb hby at_168) _ ?_
    show Steps p.tables e below (T26.setTop (mkF m 170 #[.val (.int p0), .val (.int p1), .val (.int p2), .unset, .unset] [(.int (65008 : Int32)), (.int (25 : Int32)), (.ref b1), (.ref b1)])) _
    refine st27 _ ?_
    show Steps p.tables e below (T27.setTop (mkF m 171 #[.val (.int p0), .val (.int p1), .val (.int p2), .unset, .unset] [(.ref b1)])) _
    refine XS.dup X27.here hx rfl (hb hby at_171) rfl rfl ?_
    show Steps p.tables e below (T27.setTop (mkF m 172 #[.val (.int p0), .val (.int p1), .val (.int p2), .unset, .unset] [(.ref b1), (.ref b1)])) _
    refine XS.bipush X27.here hx rfl (hb hby at_172) ?_
    show Steps p.tables e below (T27.setTop (mkF m 174 #[.val (.int p0), .val (.int p1), .val (.int p2), .unset, .unset] [(.int (26 : Int32)), (.ref b1), (.ref b1)])) _
    refine X27.ldcInt hx hown (mvT hZ (hw _ (List.mem_of_getElem? (i := 5) rfl))) (g := (mkF m 174 #[.val (.int p0), .val (.int p1), .val (.int p2), .unset, .unset] [(.int (26 : Int32)), (.ref b1), (.ref b1)])) rfl (hb hby at_174) _ ?_
    show Steps p.tables e below (T27.setTop (mkF m 176 #[.val (.int p0), .val (.int p1), .val (.int p2), .unset, .unset] [(.int (65533 : Int32)), (.int (26 : Int32)), (.ref b1), (.ref b1)])) _
    refine st28 _ ?_
    show Steps p.tables e below (T28.setTop (mkF m 177 #[.val (.int p0), .val (.int p1), .val (.int p2), .unset, .unset] [(.ref b1)])) _
    refine XS.dup X28.here hx rfl (hb hby at_177) rfl rfl ?_
    show Steps p.tables e below (T28.setTop (mkF m 178 #[.val (.int p0), .val (.int p1), .val (.int p2), .unset, .unset] [(.ref b1), (.ref b1)])) _
    refine XS.bipush X28.here hx rfl (hb hby at_178) ?_
    show Steps p.tables e below (T28.setTop (mkF m 180 #[.val (.int p0), .val (.int p1), .val (.int p2), .unset, .unset] [(.int (27 : Int32)), (.ref b1), (.ref b1)])) _
    refine X28.ldcInt hx hown (mvT hZ (hw _ (List.mem_of_getElem? (i := 6) rfl))) (g := (mkF m 180 #[.val (.int p0), .val (.int p1), .val (.int p2), .unset, .unset] [(.int (27 : Int32)), (.ref b1), (.ref b1)])) rfl (hb hby at_180) _ ?_
    show Steps p.tables e below (T28.setTop (mkF m 182 #[.val (.int p0), .val (.int p1), .val (.int p2), .unset, .unset] [(.int (65536 : Int32)), (.int (27 : Int32)), (.ref b1), (.ref b1)])) _
    refine st29 _ ?_
    show Steps p.tables e below (T29.setTop (mkF m 183 #[.val (.int p0), .val (.int p1), .val (.int p2), .unset, .unset] [(.ref b1)])) _
    refine XS.dup X29.here hx rfl (hb hby at_183) rfl rfl ?_
    show Steps p.tables e below (T29.setTop (mkF m 184 #[.val (.int p0), .val (.int p1), .val (.int p2), .unset, .unset] [(.ref b1), (.ref b1)])) _
    refine XS.bipush X29.here hx rfl (hb hby at_184) ?_
    show Steps p.tables e below (T29.setTop (mkF m 186 #[.val (.int p0), .val (.int p1), .val (.int p2), .unset, .unset] [(.int (28 : Int32)), (.ref b1), (.ref b1)])) _
    refine X29.ldcInt hx hown (mvT hZ (hw _ (List.mem_of_getElem? (i := 7) rfl))) (g := (mkF m 186 #[.val (.int p0), .val (.int p1), .val (.int p2), .unset, .unset] [(.int (28 : Int32)), (.ref b1), (.ref b1)])) rfl (hb hby at_186) _ ?_
    show Steps p.tables e below (T29.setTop (mkF m 188 #[.val (.int p0), .val (.int p1), .val (.int p2), .unset, .unset] [(.int (983039 : Int32)), (.int (28 : Int32)), (.ref b1), (.ref b1)])) _
    refine st30 _ ?_
    show Steps p.tables e below (T30.setTop (mkF m 189 #[.val (.int p0), .val (.int p1), .val (.int p2), .unset, .unset] [(.ref b1)])) _
    refine XS.dup X30.here hx rfl (hb hby at_189) rfl rfl ?_
    show Steps p.tables e below (T30.setTop (mkF m 190 #[.val (.int p0), .val (.int p1), .val (.int p2), .unset, .unset] [(.ref b1), (.ref b1)])) _
    refine XS.bipush X30.here hx rfl (hb hby at_190) ?_
    show Steps p.tables e below (T30.setTop (mkF m 192 #[.val (.int p0), .val (.int p1), .val (.int p2), .unset, .unset] [(.int (29 : Int32)), (.ref b1), (.ref b1)])) _
    refine XS.bipush X30.here hx rfl (hb hby at_192) ?_
    show Steps p.tables e below (T30.setTop (mkF m 194 #[.val (.int p0), .val (.int p1), .val (.int p2), .unset, .unset] [(.int (58 : Int32)), (.int (29 : Int32)), (.ref b1), (.ref b1)])) _
    refine st31 _ ?_
    show Steps p.tables e below (T31.setTop (mkF m 195 #[.val (.int p0), .val (.int p1), .val (.int p2), .unset, .unset] [(.ref b1)])) _
    refine XS.dup X31.here hx rfl (hb hby at_195) rfl rfl ?_
    show Steps p.tables e below (T31.setTop (mkF m 196 #[.val (.int p0), .val (.int p1), .val (.int p2), .unset, .unset] [(.ref b1), (.ref b1)])) _
    refine XS.bipush X31.here hx rfl (hb hby at_196) ?_
    show Steps p.tables e below (T31.setTop (mkF m 198 #[.val (.int p0), .val (.int p1), .val (.int p2), .unset, .unset] [(.int (30 : Int32)), (.ref b1), (.ref b1)])) _
    refine XS.iconst X31.here hx rfl (hb hby at_198) ?_
    show Steps p.tables e below (T31.setTop (mkF m 199 #[.val (.int p0), .val (.int p1), .val (.int p2), .unset, .unset] [(.int (0 : Int32)), (.int (30 : Int32)), (.ref b1), (.ref b1)])) _
    refine st32 _ ?_
    show Steps p.tables e below (T32.setTop (mkF m 200 #[.val (.int p0), .val (.int p1), .val (.int p2), .unset, .unset] [(.ref b1)])) _
    refine XS.dup X32.here hx rfl (hb hby at_200) rfl rfl ?_
    show Steps p.tables e below (T32.setTop (mkF m 201 #[.val (.int p0), .val (.int p1), .val (.int p2), .unset, .unset] [(.ref b1), (.ref b1)])) _
    refine XS.bipush X32.here hx rfl (hb hby at_201) ?_
    show Steps p.tables e below (T32.setTop (mkF m 203 #[.val (.int p0), .val (.int p1), .val (.int p2), .unset, .unset] [(.int (31 : Int32)), (.ref b1), (.ref b1)])) _
    refine X32.ldcInt hx hown (mvT hZ (hw _ (List.mem_of_getElem? (i := 8) rfl))) (g := (mkF m 203 #[.val (.int p0), .val (.int p1), .val (.int p2), .unset, .unset] [(.int (31 : Int32)), (.ref b1), (.ref b1)])) rfl (hb hby at_203) _ ?_
    show Steps p.tables e below (T32.setTop (mkF m 205 #[.val (.int p0), .val (.int p1), .val (.int p2), .unset, .unset] [(.int (-2147483648 : Int32)), (.int (31 : Int32)), (.ref b1), (.ref b1)])) _
    refine st33 _ ?_
    show Steps p.tables e below (T33.setTop (mkF m 206 #[.val (.int p0), .val (.int p1), .val (.int p2), .unset, .unset] [(.ref b1)])) _
    refine XS.dup X33.here hx rfl (hb hby at_206) rfl rfl ?_
    show Steps p.tables e below (T33.setTop (mkF m 207 #[.val (.int p0), .val (.int p1), .val (.int p2), .unset, .unset] [(.ref b1), (.ref b1)])) _
    refine XS.bipush X33.here hx rfl (hb hby at_207) ?_
    show Steps p.tables e below (T33.setTop (mkF m 209 #[.val (.int p0), .val (.int p1), .val (.int p2), .unset, .unset] [(.int (32 : Int32)), (.ref b1), (.ref b1)])) _
    refine X33.ldcInt hx hown (mvT hZ (hw _ (List.mem_of_getElem? (i := 9) rfl))) (g := (mkF m 209 #[.val (.int p0), .val (.int p1), .val (.int p2), .unset, .unset] [(.int (32 : Int32)), (.ref b1), (.ref b1)])) rfl (hb hby at_209) _ ?_
    show Steps p.tables e below (T33.setTop (mkF m 211 #[.val (.int p0), .val (.int p1), .val (.int p2), .unset, .unset] [(.int (2147483647 : Int32)), (.int (32 : Int32)), (.ref b1), (.ref b1)])) _
    refine st34 _ ?_
    show Steps p.tables e below (T34.setTop (mkF m 212 #[.val (.int p0), .val (.int p1), .val (.int p2), .unset, .unset] [(.ref b1)])) _
    refine XS.astoreN X34.here hx rfl (hb hby at_212) rfl rfl (l' := #[.val (.int p0), .val (.int p1), .val (.int p2), .val (.ref b1), .unset]) rfl ?_
    show Steps p.tables e below (T34.setTop (mkF m 213 #[.val (.int p0), .val (.int p1), .val (.int p2), .val (.ref b1), .unset] [])) _
    refine XS.iloadN X34.here hx rfl (hb hby at_213) rfl ?_
    show Steps p.tables e below (T34.setTop (mkF m 214 #[.val (.int p0), .val (.int p1), .val (.int p2), .val (.ref b1), .unset] [(.int p1)])) _
    refine XS.iconst X34.here hx rfl (hb hby at_214) ?_
    show Steps p.tables e below (T34.setTop (mkF m 215 #[.val (.int p0), .val (.int p1), .val (.int p2), .val (.ref b1), .unset] [(.int (1 : Int32)), (.int p1)])) _
    refine XS.iand X34.here hx rfl (hb hby at_215) rfl ?_
    show Steps p.tables e below (T34.setTop (mkF m 216 #[.val (.int p0), .val (.int p1), .val (.int p2), .val (.ref b1), .unset] [(.int (p1 &&& (1 : Int32)))])) _
    refine stJ _ ?_
    show Steps p.tables e below (T34.setTop (mkF m 239 #[.val (.int p0), .val (.int p1), .val (.int p2), .val (.ref b1), .val (.int cv)] [])) _
    refine XS.iload X34.here hx rfl (hb hby at_239) rfl ?_
    show Steps p.tables e below (T34.setTop (mkF m 241 #[.val (.int p0), .val (.int p1), .val (.int p2), .val (.ref b1), .val (.int cv)] [(.int cv)])) _
    refine st36 _ ?_
    show Steps p.tables e below (T36.setTop (mkF m 244 #[.val (.int p0), .val (.int p1), .val (.int p2), .val (.ref b1), .val (.int cv)] [(.int (nar .boolean (own_fA_0 cv)))])) _
    refine XS.iload X36.here hx rfl (hb hby at_244) rfl ?_
    show Steps p.tables e below (T36.setTop (mkF m 246 #[.val (.int p0), .val (.int p1), .val (.int p2), .val (.ref b1), .val (.int cv)] [(.int cv), (.int (nar .boolean (own_fA_0 cv)))])) _
    refine st37 _ ?_
    show Steps p.tables e below (T37.setTop (mkF m 249 #[.val (.int p0), .val (.int p1), .val (.int p2), .val (.ref b1), .val (.int cv)] [(.int (nar .boolean (own_fB_0 cv))), (.int (nar .boolean (own_fA_0 cv)))])) _
    refine stN _ ?_
    show Steps p.tables e below (T37.setTop (mkF m 257 #[.val (.int p0), .val (.int p1), .val (.int p2), .val (.ref b1), .val (.int cv)] [(.int (own_not (nar .boolean (own_fB_0 cv)))), (.int (nar .boolean (own_fA_0 cv)))])) _
    refine XS.icmpNo X37.here hx rfl (hb hby at_257) rfl (teq (own_same cv)).2 ?_
    show Steps p.tables e below (T37.setTop (mkF m 260 #[.val (.int p0), .val (.int p1), .val (.int p2), .val (.ref b1), .val (.int cv)] [])) _
    refine XS.iconst X37.here hx rfl (hb hby at_260) ?_
    show Steps p.tables e below (T37.setTop (mkF m 261 #[.val (.int p0), .val (.int p1), .val (.int p2), .val (.ref b1), .val (.int cv)] [(.int (1 : Int32))])) _
    refine XS.goto X37.here hx rfl (pc0 := 261) (pc' := 265) rfl (hb hby at_261) (by decide) (by decide) ?_
    show Steps p.tables e below (T37.setTop (mkF m 265 #[.val (.int p0), .val (.int p1), .val (.int p2), .val (.ref b1), .val (.int cv)] [(.int (1 : Int32))])) _
    exact retN X37 hx (t := .boolean) Bd.returns (by simp) (hb hby at_265) hr
  · exact ⟨rfl, N37⟩
set_option maxRecDepth 65536 in
set_option maxHeartbeats 40000000 in
theorem own_comes {Post : Tables → Env → Array Value → State → Outcome → State → Prop} (hpost : ∀ tb e args s v u, (limb_1_1.after args s (.returned v) u = true ∧ limb_1_2.after args s (.returned v) u = true ∧ True) → FrameEnd s (.returned v) u (Jvm.fieldLocs frame_1_writes args s ++ Jvm.arrayLocs frame_1_arrays args s ++ Jvm.staticLocs frame_1_statics s) 16 192 → Post tb e args s (.returned v) u) :
    ArmFor flags0 classFile x code maxLocals ret World_1 tables_1 room_1 Calls_1 rest_1 Pre_1 Post := by
  intro l hfl _ _ p e ha hc hk s m args below hf hA hF happ hP
  obtain ⟨hcalls, hrest, hpre⟩ := hP
  obtain ⟨-, -, -, hnamed, -, -, -, hat⟩ := (Spec.applies_iff hf).mp happ
  obtain ⟨hg, hn⟩ := and_e (Cond.before_iff.mp (show (Jvm.Cond.and given_1 narrow_1).before args s = true from hpre))
  obtain ⟨g0, k0⟩ := and_e hg
  obtain ⟨q0, k1⟩ := and_e k0
  obtain ⟨q1, k2⟩ := and_e k1
  obtain ⟨w0, w1, w2, rfl⟩ : ∃ w0 w1 w2 : Value, args = #[w0, w1, w2] := by
    have hs : args.size = 3 := by simpa [Cond.value, given_1] using g0
    obtain ⟨L⟩ := args
    match L, hs with
    | [w0, w1, w2], _ => exact ⟨w0, w1, w2, rfl⟩
  have hw := fun d (hd : d ∈ tables_1) => atoms_spec (ws := Jvm.Cond.code x code maxLocals ret :: tables_1) hat d (List.mem_cons_of_mem _ hd)
  obtain ⟨i0, ei0⟩ := is_v q0
  obtain rfl : w0 = (.int i0) := Option.some.inj ei0
  obtain ⟨i1, ei1⟩ := is_v q1
  obtain rfl : w1 = (.int i1) := Option.some.inj ei1
  obtain ⟨i2, ei2⟩ := is_v k2
  obtain rfl : w2 = (.int i2) := Option.some.inj ei2
  obtain ⟨n, o, h1, h2, h3, _, L, rfl, ⟨rfl, N⟩, hq⟩ := own_rm0 l s _ hw tables_1 i0 i1 i2 s.heap s.heap.size (Nat.le_refl _) p e ha hc hk s m _ below hf ((Spec.applies_iff_loose hf).mp happ).1 ⟨rfl, State.Warmed39.refl s, rfl⟩ trivial
  refine ⟨n, _, h1, h2, h3, hpost _ _ _ _ _ _ ⟨Cond.after_iff.mpr rfl, Cond.after_iff.mpr (eq_i res_at (Term.int_eval (1)) rfl), trivial⟩ ⟨hq.1, hq.2.1, (hq.2.2.sift fun y hy => Or.inr (N y hy)).mono (by decide) (by decide)⟩⟩
theorem main_1_1 : Claimed_1_1 := own_comes fun _ _ _ _ _ _ h hF => ⟨h.1, hF⟩
theorem main_1_2 : Claimed_1_2 := own_comes fun _ _ _ _ _ _ h hF => ⟨h.2.1, hF⟩
end Jvm.Pilot.@@N@@
namespace Jvm.Pilot.@@N@@
open Jvm Jvm.ClassFile Sem Op Lib Jvm.Free Jvm.Stand Jvm.Pilot.@@N@@.Jvm.D
/-! MADE BY PROGRAM (witnessworld.py) out of the Statement's table words and the real class files: 9 classes; the members and pool entries that the words name. The judged class is class 1, her method 1. -/
namespace start1
open Jvm.ClassFile
def u (s : String) : CpInfo := .utf8 (stringToUtf16 s)
/-- a pool by its gaps: so many unusable entries, then the entry; so many at the end -/
def gap : Nat → List CpInfo → List CpInfo
  | 0, r => r
  | n + 1, r => .unusable :: gap n r
def poolList (es : List (Nat × CpInfo)) (last : Nat) : List CpInfo := es.foldr (fun e r => gap e.1 (e.2 :: r)) (gap last [])
def pool (es : List (Nat × CpInfo)) (last : Nat) : Array CpInfo := ⟨poolList es last⟩
def fileOf (pool : Array CpInfo) (this : Nat) (attrs : Array Attribute := #[]) (ms : Array MethodInfo := #[]) (fl : Nat := 33) (sup : Nat := 0) (ifs : Array Nat := #[]) (fds : Array FieldInfo := #[]) : ClassFile where
  minorVersion := 0
  majorVersion := 65
  constantPool := pool
  accessFlags := fl
  thisClass := this
  superClass := sup
  interfaces := ifs
  fields := fds
  methods := ms
  attributes := attrs
def plain (name : String) (sup : Option ClassId) : Class where
  name := name
  kind := .ordinary
  loader := none
  accessFlags := 33
  super := sup
  interfaces := #[]
  cf := none
  fields := #[]
  methods := #[]
  instanceTypes := #[]
  staticTypes := #[]
  resolved := #[]
  callSites := []
  init := .initialized
  statics := none
  mirror := none

def pool0 : Array CpInfo := pool [(5, u "<init>"), (0, u "()V"), (1, .class_ 10), (1, u "java/lang/Object")] 113

def k0m0 : Method := { name := "<init>", desc := "()V", sig := { parameters := [], returnType := none }, accessFlags := 1, code := none }
/-- java/lang/Object -/
def k0 : Class := { plain "java/lang/Object" none with
  accessFlags := 33
  interfaces := #[]
  cf := some (fileOf pool0 8 #[] #[{ accessFlags := 1, nameIndex := 5, descriptorIndex := 6, attributes := #[] }] 33 0 #[] #[])
  fields := #[]
  methods := #[k0m0]
  instanceTypes := #[]
  staticTypes := #[]
  resolved := Array.replicate 124 none
  statics := none }

def pool1 : Array CpInfo := pool [(2, .class_ 4), (1, u "java/lang/Object"), (0, u "<init>"), (0, u "()V"), (0, .integer 55295), (0, .integer 63744), (0, .integer 64975), (0, .integer 65008), (0, .integer 65533), (0, .integer 65536), (0, .integer 983039), (2, .integer 2147483648), (0, .integer 2147483647), (0, .methodref 19 20), (0, .class_ 21), (0, .nameAndType 22 23), (0, u "com/example/quillon/quillon/xdm/XmlChars"), (0, u "isNameStartChar"), (0, u "(I)Z"), (0, .methodref 25 26), (0, .class_ 27), (0, .nameAndType 28 23), (0, u "com/example/quillon/quillon/xdm/XmlCharsIsNameStartCharPinLaw"), (0, u "excluded"), (0, .integer 55296), (0, .integer 63743), (0, .integer 64976), (0, .integer 65007), (0, .integer 65534), (0, .integer 65535), (0, .integer 983040), (2, u "law"), (0, u "(III)Z")] 5

def k1m0 : Method := { name := "<init>", desc := "()V", sig := { parameters := [], returnType := none }, accessFlags := 1, code := none }
def k1c1 : Code := { maxStack := 4, maxLocals := 5, code := code, exceptionTable := #[], attributes := #[] }
def k1m1 : Method := { name := "law", desc := "(III)Z", sig := { parameters := [.int, .int, .int], returnType := some .boolean }, accessFlags := 9, code := some k1c1 }
def k1c2 : Code := { maxStack := 2, maxLocals := 1, code := method_3_code, exceptionTable := #[], attributes := #[] }
def k1m2 : Method := { name := "excluded", desc := "(I)Z", sig := { parameters := [.int], returnType := some .boolean }, accessFlags := 10, code := some k1c2 }
/-- com/example/quillon/quillon/xdm/XmlCharsIsNameStartCharPinLaw -/
def k1 : Class := { plain "com/example/quillon/quillon/xdm/XmlCharsIsNameStartCharPinLaw" (some 0) with
  accessFlags := 49
  interfaces := #[]
  cf := some (fileOf pool1 25 #[] #[{ accessFlags := 1, nameIndex := 5, descriptorIndex := 6, attributes := #[] }, { accessFlags := 9, nameIndex := 38, descriptorIndex := 39, attributes := #[] }, { accessFlags := 10, nameIndex := 28, descriptorIndex := 23, attributes := #[] }] 49 2 #[] #[])
  fields := #[]
  methods := #[k1m0, k1m1, k1m2]
  instanceTypes := #[]
  staticTypes := #[]
  resolved := Array.replicate 45 none
  statics := none }

def pool2 : Array CpInfo := pool [(2, .class_ 4), (1, u "java/lang/Object"), (0, u "<init>"), (0, u "()V"), (8, .class_ 16), (0, u "com/example/quillon/quillon/xdm/XmlChars"), (10, .integer 55295), (1, .integer 65533), (0, .integer 65536), (1, .integer 63744), (0, .integer 64975), (0, .integer 65008), (0, .integer 983039), (11, u "(I)Z"), (20, u "isNameStartChar"), (26, u "XML_NAMESPACE"), (0, u "Ljava/lang/String;"), (1, u "XMLNS_NAMESPACE")] 12

def k2m0 : Method := { name := "<init>", desc := "()V", sig := { parameters := [], returnType := none }, accessFlags := 2, code := none }
def k2c1 : Code := { maxStack := 2, maxLocals := 1, code := prog_251_method_4_code, exceptionTable := #[], attributes := #[] }
def k2m1 : Method := { name := "isNameStartChar", desc := "(I)Z", sig := { parameters := [.int], returnType := some .boolean }, accessFlags := 9, code := some k2c1 }
/-- com/example/quillon/quillon/xdm/XmlChars -/
def k2 : Class := { plain "com/example/quillon/quillon/xdm/XmlChars" (some 0) with
  accessFlags := 49
  interfaces := #[]
  cf := some (fileOf pool2 15 #[] #[{ accessFlags := 2, nameIndex := 5, descriptorIndex := 6, attributes := #[] }, { accessFlags := 9, nameIndex := 68, descriptorIndex := 47, attributes := #[] }] 49 2 #[] #[{ accessFlags := 25, nameIndex := 95, descriptorIndex := 96, attributes := #[] }, { accessFlags := 25, nameIndex := 98, descriptorIndex := 96, attributes := #[] }])
  fields := #[{ name := "XML_NAMESPACE", type := (.object "java/lang/String"), accessFlags := 25, slot := 0, constantValue := 0 }, { name := "XMLNS_NAMESPACE", type := (.object "java/lang/String"), accessFlags := 25, slot := 1, constantValue := 0 }]
  methods := #[k2m0, k2m1]
  instanceTypes := #[]
  staticTypes := #[(.object "java/lang/String"), (.object "java/lang/String")]
  resolved := Array.replicate 111 none
  statics := none }

def pool3 : Array CpInfo := pool [(1, u "java/lang/Cloneable"), (0, .class_ 1), (0, u "java/lang/Object"), (0, .class_ 3)] 3

/-- java/lang/Cloneable -/
def k3 : Class := { plain "java/lang/Cloneable" (some 0) with
  accessFlags := 1537
  interfaces := #[]
  cf := some (fileOf pool3 2 #[] #[] 1537 4 #[] #[])
  fields := #[]
  methods := #[]
  instanceTypes := #[]
  staticTypes := #[]
  resolved := Array.replicate 8 none
  statics := none }

def pool4 : Array CpInfo := pool [(1, u "java/io/Serializable"), (0, .class_ 1), (0, u "java/lang/Object"), (0, .class_ 3)] 3

/-- java/io/Serializable -/
def k4 : Class := { plain "java/io/Serializable" (some 0) with
  accessFlags := 1537
  interfaces := #[]
  cf := some (fileOf pool4 2 #[] #[] 1537 4 #[] #[])
  fields := #[]
  methods := #[]
  instanceTypes := #[]
  staticTypes := #[]
  resolved := Array.replicate 8 none
  statics := none }

/-- the primitive byte -/
def k5 : Class := { plain "byte" none with kind := .primitive 'B', accessFlags := 0x411 }
/-- [B -/
def k6 : Class := { plain "[B" (some 0) with kind := .array 5 .byte, interfaces := #[3, 4], accessFlags := 1041 }

/-- the primitive int -/
def k7 : Class := { plain "int" none with kind := .primitive 'I', accessFlags := 0x411 }
/-- [I -/
def k8 : Class := { plain "[I" (some 0) with kind := .array 7 .int, interfaces := #[3, 4], accessFlags := 1041 }

def heap : Heap := #[]
def classes : Array Class := #[k0, k1, k2, k3, k4, k5, k6, k7, k8]
def interned : List (Array UInt16 × Addr) := []
def slotsUsed : Nat := 0
def theMethod : MethodId := ⟨1, 1⟩
def args0 : Array Value := #[.int 65, .int 3, .int 2]
def aboutOver (below : List Frame) : State where
  vm := { classes := classes, interned := interned.toArray }
  heap := heap
  slotsUsed := slotsUsed
  threads := #[{ frames := .invoking theMethod args0 :: below }]
def below0 : List Frame := [.native { method := ⟨0, 0⟩, args := #[] }]
def about1 : State := aboutOver below0
def p0 : Program := .bare "" "" ""
def e0 : Env := launch0.env 0 0 0
theorem w_frames : about1.frames = Frame.invoking theMethod args0 :: below0 := rfl
set_option maxRecDepth 65536 in
theorem w_args : argsFit about1.vm theMethod args0 = true := by decide +kernel
set_option maxRecDepth 65536 in
theorem w_heap : heapFits about1 = true := by decide +kernel
set_option maxRecDepth 65536 in
theorem w_runnable : about1.curStatus? = some .runnable := by decide +kernel
set_option maxRecDepth 65536 in
theorem w_alone : about1.alone = true := by decide +kernel
set_option maxRecDepth 65536 in
theorem w_named : about1.methodNamed? x = some theMethod := by decide +kernel
set_option maxRecDepth 65536 in
theorem w_hears : about1.hears theMethod below0 = true := by decide +kernel
set_option maxRecDepth 65536 in
theorem w_ripe : about1.ripe theMethod args0 below0 = true := by decide +kernel
theorem w_running : about1.status = .running := rfl
set_option maxRecDepth 65536 in
theorem w_room : about1.hasRoom e0.platform room_1 = true :=
  launch0.hasRoom_least _ room_1 (by decide +kernel) (by decide +kernel) (by decide +kernel) (by decide +kernel) (by decide +kernel) (by decide +kernel)
theorem allAtoms_all (ts : List Jvm.Cond) (a : Array Jvm.Value) (st : Jvm.State) : (allAtoms ts).before a st = ts.all (fun c => c.before a st) := by
  induction ts with
  | nil => rfl
  | cons c t ih =>
    show (Jvm.Cond.and c (allAtoms t)).before a st = _
    rw [Jvm.Cond.before_and, ih, List.all_cons]
def words1 : List Jvm.Cond := Jvm.Cond.code x code maxLocals ret :: tables_1
/-- a 'code' word, met by the world's own term for the bytes: nothing is compared byte by byte -/
theorem code_word {y : MethodName} {bytes : ByteArray} {mx : Nat} {rt : Option FieldType} {a : Array Value} {s : State} {m : MethodId} {meth : Method} {c : Code} (h1 : s.methodNamed? y = some m) (h2 : s.vm.method? m = some meth) (h3 : meth.code = some c) (h4 : c.code = bytes)
    (h5 : (c.maxLocals == mx && c.exceptionTable.isEmpty && decide (c.maxStack ≤ mostOperands) && decide (meth.sig.returnType = rt) && !meth.locks && decide (parseMethodDescriptor y.desc = some meth.sig)) = true) : (Jvm.Cond.code y bytes mx rt).before a s = true := by
  simp only [Bool.and_eq_true, beq_iff_eq, Bool.not_eq_true', decide_eq_true_eq] at h5
  obtain ⟨⟨⟨⟨⟨g1, g2⟩, g3⟩, g4⟩, g5⟩, g6⟩ := h5
  simp [Cond.before, Cond.holds, Cond.value, h1, h2, h3, h4, g1, g2, g3, g4, g5, g6]
def isCode : Jvm.Cond → Bool
  | .code _ _ _ _ => true
  | _ => false
theorem all_split {L : List Jvm.Cond} {P : Jvm.Cond → Bool} (h1 : L.all (fun c => isCode c || P c) = true) (h2 : ∀ c ∈ L.filter isCode, P c = true) : L.all P = true := by
  refine List.all_eq_true.mpr fun c hc => ?_
  have h := List.all_eq_true.mp h1 c hc
  rcases Bool.eq_false_or_eq_true (isCode c) with hi | hi
  · exact h2 c (List.mem_filter.mpr ⟨hc, hi⟩)
  · simpa [hi] using h
set_option maxRecDepth 65536 in
theorem w_c0 : (Jvm.Cond.code x code maxLocals ret).before args0 about1 = true := code_word (m := ⟨1, 1⟩) (meth := k1m1) (c := k1c1) (by decide +kernel) rfl rfl rfl (by decide +kernel)
set_option maxRecDepth 65536 in
theorem w_c1 : (Jvm.Cond.code ({ cls := "com/example/quillon/quillon/xdm/XmlChars", name := "isNameStartChar", desc := "(I)Z" } : Jvm.MethodName) prog_251_method_4_code (1 : Nat) (Option.some Jvm.ClassFile.FieldType.boolean)).before args0 about1 = true := code_word (m := ⟨2, 1⟩) (meth := k2m1) (c := k2c1) (by decide +kernel) rfl rfl rfl (by decide +kernel)
set_option maxRecDepth 65536 in
theorem w_c2 : (Jvm.Cond.code ({ cls := "com/example/quillon/quillon/xdm/XmlCharsIsNameStartCharPinLaw", name := "excluded", desc := "(I)Z" } : Jvm.MethodName) method_3_code (1 : Nat) (Option.some Jvm.ClassFile.FieldType.boolean)).before args0 about1 = true := code_word (m := ⟨1, 2⟩) (meth := k1m2) (c := k1c2) (by decide +kernel) rfl rfl rfl (by decide +kernel)
def codes1 : List Jvm.Cond := [Jvm.Cond.code x code maxLocals ret, Jvm.Cond.code ({ cls := "com/example/quillon/quillon/xdm/XmlChars", name := "isNameStartChar", desc := "(I)Z" } : Jvm.MethodName) prog_251_method_4_code (1 : Nat) (Option.some Jvm.ClassFile.FieldType.boolean), Jvm.Cond.code ({ cls := "com/example/quillon/quillon/xdm/XmlCharsIsNameStartCharPinLaw", name := "excluded", desc := "(I)Z" } : Jvm.MethodName) method_3_code (1 : Nat) (Option.some Jvm.ClassFile.FieldType.boolean)]
set_option maxRecDepth 65536 in
theorem codes_eq : words1.filter isCode = codes1 := rfl
theorem w_codes : ∀ c ∈ words1.filter isCode, c.before args0 about1 = true := by
  rw [codes_eq]
  intro c hc
  simp only [codes1, List.mem_cons, List.not_mem_nil, or_false] at hc
  rcases hc with rfl | rfl | rfl
  · exact w_c0
  · exact w_c1
  · exact w_c2
set_option maxRecDepth 65536 in
theorem w_t1 : (words1.take 24).all (fun c => isCode c || c.before args0 about1) = true := by decide +kernel
set_option maxRecDepth 65536 in
theorem w_t2 : (words1.drop 24).all (fun c => isCode c || c.before args0 about1) = true := by decide +kernel
theorem w_tables : (allAtoms (Jvm.Cond.code x code maxLocals ret :: tables_1)).before args0 about1 = true := by
  rw [allAtoms_all]
  show words1.all (fun c => c.before args0 about1) = true
  refine all_split ?_ w_codes
  rw [← List.take_append_drop 24 words1, List.all_append, w_t1, w_t2]
  rfl
set_option maxRecDepth 65536 in
theorem w_case : (Jvm.Cond.and given_1 narrow_1).before args0 about1 = true := by decide +kernel
theorem w_applies : (headSpec (Jvm.Cond.code x code maxLocals ret :: tables_1) room_1).applies x e0.platform about1 = true :=
  (Spec.applies_iff w_frames).mpr ⟨w_running, w_runnable, w_alone, w_named, w_hears, w_ripe, w_room, w_tables⟩
theorem atStart : AtStart classFile x code maxLocals ret World_1 tables_1 room_1 Calls_1 rest_1 Pre_1 launch0 p0 e0 about1 theMethod args0 below0 :=
  ⟨lists_1, trivial, launch0.admits_env _ _ _, launch0.least_env, fairChoices_fair.cas, fairChoices_fair.clock, w_frames, w_args, w_heap, w_applies, trivial, trivial, w_case⟩
end start1
theorem witness_1 : WitnessClaimed_1 := ⟨start1.p0, start1.e0, start1.about1, start1.theMethod, start1.args0, start1.below0, start1.atStart⟩
end Jvm.Pilot.@@N@@
