import JvmDerived
import JvmDerived.Pilot.@@N@@Statement
import JvmDerived.Pilot.@@N@@Code
set_option linter.unusedVariables false
set_option linter.unusedSimpArgs false
namespace Jvm.RoadKit
open Sem ClassFile Op Lib Jvm.Stand Jvm.Free Jvm.LawKit
section New
variable {p : Program} {l : Launch} {e : Env} {R : Room} {s : State} {m : MethodId} {args : Array Value} {below : List Frame} {meth : Method} {c : Code} {T : State} {locs : List Loc} {cells slots : Nat}
theorem retI (X : Stand p l e R s m args below meth c T locs cells slots) (hx : p.tables.exec = Jvm.exec) {pc : Nat} {Ls : Array Slot} {z : Int32} {rest : List Value} (hret : meth.sig.returnType = some .int) (hd : decode c.code pc = .ok (.ireturn, 1)) {fs : List Frame}
    (hl : ∀ (f : JFrame) (acts : List Action), f.method = m → f.locked = none → f.entered = [] → (doReturn e (T.setTop f) acts (some (.int z))).1 = T.setFrames fs) : Steps p.tables e below (T.setTop (mkF m pc Ls (.int z :: rest))) (T.setFrames fs) := by
  have hm' : T.vm.method? m = some meth := X.method'
  have hn : narrow .int (.int z) = .int z := rfl
  show Steps p.tables e below (T.setTop { method := m, pc := pc, locals := Ls, stack := _ :: rest, locked := none }) _
  jvm_step X.here [X.here.top, hx, hd, hm', hret, hn]
  first | (intro acts; rw [hl _ acts rfl rfl rfl]) | rw [hl _ _ rfl rfl rfl]
  exact Steps.refl _
end New
end Jvm.RoadKit
namespace Jvm.Pilot.@@N@@
open Jvm Jvm.ClassFile Sem Op Lib Jvm.Free Jvm.Stand Jvm.LawKit Jvm.RoadKit Bundle Jvm.Pilot.@@N@@.Jvm.D
theorem own_tf (b : Bool) : b = true ∨ b = false := by cases b <;> simp
theorem own_t {b : Bool} {x y z : Int32} (h : b = true) (k : x = z) : (bif b then x else y) = z := by subst h; exact k
theorem own_f {b : Bool} {x y z : Int32} (h : b = false) (k : y = z) : (bif b then x else y) = z := by subst h; exact k
theorem own_ltT {x y : Int32} {n : Int} (hy : y.toInt = n) (h : x.toInt < n) : if_icmp.holds .lt x y = true := (tlt (Int32.lt_iff_toInt_lt.mpr (by rw [hy]; exact h))).1
theorem own_ltF {x y : Int32} {n : Int} (hy : y.toInt = n) (h : n ≤ x.toInt) : if_icmp.holds .lt x y = false := (flt (fun q => absurd (Int32.lt_iff_toInt_lt.mp q) (by rw [hy]; exact Int.not_lt.mpr h))).1
theorem own_geT {x y : Int32} {n : Int} (hy : y.toInt = n) (h : n ≤ x.toInt) : if_icmp.holds .ge x y = true := (flt (fun q => absurd (Int32.lt_iff_toInt_lt.mp q) (by rw [hy]; exact Int.not_lt.mpr h))).2.1
theorem own_geF {x y : Int32} {n : Int} (hy : y.toInt = n) (h : x.toInt < n) : if_icmp.holds .ge x y = false := (tlt (Int32.lt_iff_toInt_lt.mpr (by rw [hy]; exact h))).2.1
theorem own_gtT {x y : Int32} {n : Int} (hy : y.toInt = n) (h : n < x.toInt) : if_icmp.holds .gt x y = true := (tlt (Int32.lt_iff_toInt_lt.mpr (by rw [hy]; exact h))).2.2.1
theorem own_gtF {x y : Int32} {n : Int} (hy : y.toInt = n) (h : x.toInt ≤ n) : if_icmp.holds .gt x y = false := (flt (fun q => absurd (Int32.lt_iff_toInt_lt.mp q) (by rw [hy]; exact Int.not_lt.mpr h))).2.2.1
theorem own_leT {x y : Int32} {n : Int} (hy : y.toInt = n) (h : x.toInt ≤ n) : if_icmp.holds .le x y = true := (flt (fun q => absurd (Int32.lt_iff_toInt_lt.mp q) (by rw [hy]; exact Int.not_lt.mpr h))).2.2.2
theorem own_leF {x y : Int32} {n : Int} (hy : y.toInt = n) (h : n < x.toInt) : if_icmp.holds .le x y = false := (tlt (Int32.lt_iff_toInt_lt.mpr (by rw [hy]; exact h))).2.2.2
theorem own_eqT {x y : Int32} {n : Int} (hy : y.toInt = n) (h : x.toInt = n) : if_icmp.holds .eq x y = true := (teq (Int32.toInt_inj.mp (h.trans hy.symm))).1
theorem own_eqF {x y : Int32} {n : Int} (hy : y.toInt = n) (h : x.toInt ≠ n) : if_icmp.holds .eq x y = false := (feq (fun q => h (by rw [q]; exact hy))).1
theorem own_neT {x y : Int32} {n : Int} (hy : y.toInt = n) (h : x.toInt ≠ n) : if_icmp.holds .ne x y = true := (feq (fun q => h (by rw [q]; exact hy))).2
theorem own_neF {x y : Int32} {n : Int} (hy : y.toInt = n) (h : x.toInt = n) : if_icmp.holds .ne x y = false := (teq (Int32.toInt_inj.mp (h.trans hy.symm))).2
theorem own_pt {x y : Int32} {n : Int} (hy : y.toInt = n) (h : x.toInt = n) : x = y := Int32.toInt_inj.mp (h.trans hy.symm)
def own_Q (w : Option Value) (h0 : Heap) (n0 : Nat) (v : Option Value) (h : Heap) (L : List Loc) : Prop := v = w ∧ Fr n0 L ∧ h = h0
def own_Q0 (n0 : Nat) (v : Option Value) (L : List Loc) : Prop := v = some (.int (1 : Int32)) ∧ Fr n0 L
section OwnCall
variable {p : Program} {l : Launch} {e : Env} {R : Room} {s : State} {m : MethodId} {args : Array Value} {below : List Frame} {meth : Method} {c : Code} {T : State} {locs : List Loc} {cells slots : Nat} {Z : State} {a0 : Array Value} {h : Heap}
theorem own_callS (X : Stand p l e R s m args below meth c T locs cells slots) (hx : p.tables.exec = Jvm.exec) (hZ : Z.Warmed39 s.vm) {own : String} {index : Nat} {y : MethodName} {bytes : ByteArray} {maxL : Nat} {ret : Option FieldType} (hown : s.vm.findClass own = some m.cls)
    (w1 : (Jvm.Cond.methodLink own index y).before a0 Z = true) (w2 : (Jvm.Cond.static y).before a0 Z = true) (w3 : (Jvm.Cond.initialized y.cls).before a0 Z = true) (w4 : (Jvm.Cond.code y bytes maxL ret).before a0 Z = true) (hy : y.cls ≠ "java/lang/invoke/MethodHandle" ∧ y.cls ≠ "java/lang/invoke/VarHandle")
    {W fr lo n0 : Nat} {argsL : List Value} {r : Value}
    (hM : MetFree l y (head1 [Jvm.Cond.code y bytes maxL ret] ({ frames := fr, cells := 0, slots := 0, locals := lo } : Room)) (fun a U => a = argsL.toArray ∧ Z.Warmed39 U.vm ∧ U.heap = h) (fun _ _ _ _ _ => True) (fun _ U o U' => ∃ v L, o = .returned v ∧ own_Q (some r) h n0 v U'.heap L ∧ FrameEnd U o U' L ({ frames := fr, cells := 0, slots := 0, locals := lo } : Room).cells ({ frames := fr, cells := 0, slots := 0, locals := lo } : Room).slots))
    (hf : fr + 1 ≤ R.frames) (hl : W + (maxL + 11) + lo ≤ R.locals)
    {g : JFrame} (hg : g.method = m) (hsize : g.locals.size = c.maxLocals) {rest : List Value} (hlen : ∀ sig, parseMethodDescriptor y.desc = some sig → argsL.length = sig.parameters.length) (hstack : g.stack = argsL.reverse ++ rest) (hW : 2 * g.monitorRoom + (rest.map fun v => v.category).sum ≤ W) (hdg : decode c.code g.pc = .ok (.invokestatic index, 3))
    (hc : cells ≤ R.cells) (hs : slots ≤ R.slots) (eT : T.heap = h) (N : Fr n0 locs) :
    ∃ T' locs', Stand p l e R s m args below meth c T' locs' cells slots ∧ T'.heap = h ∧ Fr n0 locs' ∧ ∀ target, Steps p.tables e below (T'.setTop { g with pc := g.pc + 3, stack := r :: rest }) target → Steps p.tables e below (T.setTop g) target := by
  obtain ⟨v, vm1, ⟨T', L', k', n'⟩, -, X', ⟨Lc, ⟨rfl, N', e'⟩, l', y', z'⟩, st⟩ := Jvm.LawKit.callS X hx hown (mvT hZ w1) (mvT hZ w2) (mvT hZ w3) (mvT hZ w4) hy (backOf (W := W) hM hZ w4 w3 hf hl) hg hsize hlen hstack hW hdg (fun _ _ => ⟨rfl, eT, hc, hs⟩)
  dsimp only [Pt.U, Pt.locs, Pt.cells, Pt.slots] at X' l' y' z' st e'
  subst l' y' z'
  exact ⟨T', _, X', e', Fr.app N N', st⟩
end OwnCall

theorem own_dA_0 : decode prog_251_method_5_code 0 = .ok (.iload_n 0, 1) := by decide +kernel
theorem own_dA_1 : decode prog_251_method_5_code 1 = .ok (.bipush 32, 2) := by decide +kernel
theorem own_dA_3 : decode prog_251_method_5_code 3 = .ok (.if_icmp .eq 21, 3) := by decide +kernel
theorem own_dA_6 : decode prog_251_method_5_code 6 = .ok (.iload_n 0, 1) := by decide +kernel
theorem own_dA_7 : decode prog_251_method_5_code 7 = .ok (.bipush 9, 2) := by decide +kernel
theorem own_dA_9 : decode prog_251_method_5_code 9 = .ok (.if_icmp .eq 15, 3) := by decide +kernel
theorem own_dA_12 : decode prog_251_method_5_code 12 = .ok (.iload_n 0, 1) := by decide +kernel
theorem own_dA_13 : decode prog_251_method_5_code 13 = .ok (.bipush 13, 2) := by decide +kernel
theorem own_dA_15 : decode prog_251_method_5_code 15 = .ok (.if_icmp .eq 9, 3) := by decide +kernel
theorem own_dA_18 : decode prog_251_method_5_code 18 = .ok (.iload_n 0, 1) := by decide +kernel
theorem own_dA_19 : decode prog_251_method_5_code 19 = .ok (.bipush 10, 2) := by decide +kernel
theorem own_dA_21 : decode prog_251_method_5_code 21 = .ok (.if_icmp .ne 7, 3) := by decide +kernel
theorem own_dA_24 : decode prog_251_method_5_code 24 = .ok (.iconst 1, 1) := by decide +kernel
theorem own_dA_25 : decode prog_251_method_5_code 25 = .ok (.goto 4, 3) := by decide +kernel
theorem own_dA_28 : decode prog_251_method_5_code 28 = .ok (.iconst 0, 1) := by decide +kernel
theorem own_dA_29 : decode prog_251_method_5_code 29 = .ok (.ireturn, 1) := by decide +kernel
theorem own_pnA : plainName "com/example/quillon/quillon/xdm/XmlChars" = true := by first | (simp [plainName, overriddenIn]; done) | decide +kernel
theorem own_pdA : parseMethodDescriptor "(I)Z" = some ⟨[.int], some .boolean⟩ := by decide +kernel
theorem own_efA (m : MethodId) (x0 : Int32) : entryFrame m #[(.int x0)] 1 = mkF m 0 #[.val (.int x0)] [] := by first | (simp [entryFrame, mkF, argsToLocals, Value.category]; done) | rfl
def own_fA_29 (l0 : Int32) (s0 : Int32) : Int32 := s0
def own_fA_28 (l0 : Int32) : Int32 := own_fA_29 l0 (0 : Int32)
def own_fA_24 (l0 : Int32) : Int32 := own_fA_29 l0 (1 : Int32)
def own_fA_18 (l0 : Int32) : Int32 := bif if_icmp.holds .ne l0 (10 : Int32) then own_fA_28 l0 else own_fA_24 l0
def own_fA_12 (l0 : Int32) : Int32 := bif if_icmp.holds .eq l0 (13 : Int32) then own_fA_24 l0 else own_fA_18 l0
def own_fA_6 (l0 : Int32) : Int32 := bif if_icmp.holds .eq l0 (9 : Int32) then own_fA_24 l0 else own_fA_12 l0
def own_fA_0 (l0 : Int32) : Int32 := bif if_icmp.holds .eq l0 (32 : Int32) then own_fA_24 l0 else own_fA_6 l0
set_option maxRecDepth 65536 in
set_option maxHeartbeats 40000000 in
theorem own_rmA (l : Launch) (Z : State) (a0 : Array Value) (hw : ∀ d ∈ tables_1, d.before a0 Z = true) (ws : List Jvm.Cond) (p0 : Int32) (h0 : Heap) (n0 : Nat) :
    MetFree l (⟨"com/example/quillon/quillon/xdm/XmlChars", "isWhitespace", "(I)Z"⟩ : MethodName) (head1 (Jvm.Cond.code (⟨"com/example/quillon/quillon/xdm/XmlChars", "isWhitespace", "(I)Z"⟩ : MethodName) prog_251_method_5_code 1 (some .boolean) :: ws) ({ frames := 0, cells := 0, slots := 0, locals := 0 } : Room)) (fun a U => a = #[(.int p0)] ∧ Z.Warmed39 U.vm ∧ U.heap = h0) (fun _ _ _ _ _ => True) (fun _ U o U' => ∃ v L, o = .returned v ∧ own_Q (some (.int (nar .boolean (own_fA_0 p0)))) h0 n0 v U'.heap L ∧ FrameEnd U o U' L ({ frames := 0, cells := 0, slots := 0, locals := 0 } : Room).cells ({ frames := 0, cells := 0, slots := 0, locals := 0 } : Room).slots) := by
  refine MetFree.of_bodySF (plainFor_of_name own_pnA) hisR ?_
  intro p e s m args below meth c s₁ Bd hml0 hP hK
  obtain ⟨rfl, hZ, hh⟩ := hP
  have hx := Bd.exec
  have hby := Bd.bytes
  have hown : s.vm.findClass "com/example/quillon/quillon/xdm/XmlChars" = some m.cls := findClass_of_methodNamed Bd.named
  have X0 : Stand p l e ({ frames := 0, cells := 0, slots := 0, locals := 0 } : Room) s m #[(.int p0)] below meth c s₁ [] 0 0 := Stand.of_body Bd
  have e0 : s₁.heap = h0 := by rw [← hh, Bd.state]; rfl
  obtain ⟨r, hr0⟩ : ∃ r, r = (own_fA_0 p0) := ⟨_, rfl⟩
  obtain ⟨fs, hr, hrun, hended, hW, hsame⟩ := X0.leave (v := some (.int (nar .boolean r))) (fun h => by rw [Bd.returns] at h; cases h)
  have B29 : ∀ (l0 : Int32) (s0 : Int32), own_fA_29 l0 s0 = r → Steps p.tables e below (s₁.setTop (mkF m 29 #[.val (.int l0)] [(.int s0)])) (s₁.setFrames fs) := by
    intro l0 s0 hf
    show Steps p.tables e below (s₁.setTop (mkF m 29 #[.val (.int l0)] [(.int s0)])) _
    have hf' : s0 = r := hf
    exact retN X0 hx (t := .boolean) Bd.returns (by simp) (hb hby own_dA_29) (by rw [hf']; exact hr)
  have B28 : ∀ (l0 : Int32), own_fA_28 l0 = r → Steps p.tables e below (s₁.setTop (mkF m 28 #[.val (.int l0)] [])) (s₁.setFrames fs) := by
    intro l0 hf
    show Steps p.tables e below (s₁.setTop (mkF m 28 #[.val (.int l0)] [])) _
    refine XS.iconst X0.here hx rfl (hb hby own_dA_28) ?_
    have hf' : own_fA_29 l0 (0 : Int32) = r := hf
    exact B29 l0 (0 : Int32) hf'
  have B24 : ∀ (l0 : Int32), own_fA_24 l0 = r → Steps p.tables e below (s₁.setTop (mkF m 24 #[.val (.int l0)] [])) (s₁.setFrames fs) := by
    intro l0 hf
    show Steps p.tables e below (s₁.setTop (mkF m 24 #[.val (.int l0)] [])) _
    refine XS.iconst X0.here hx rfl (hb hby own_dA_24) ?_
    show Steps p.tables e below (s₁.setTop (mkF m 25 #[.val (.int l0)] [(.int (1 : Int32))])) _
    refine XS.goto X0.here hx rfl (pc0 := 25) (pc' := 29) rfl (hb hby own_dA_25) (by decide) (by decide) ?_
    have hf' : own_fA_29 l0 (1 : Int32) = r := hf
    exact B29 l0 (1 : Int32) hf'
  have B18 : ∀ (l0 : Int32), own_fA_18 l0 = r → Steps p.tables e below (s₁.setTop (mkF m 18 #[.val (.int l0)] [])) (s₁.setFrames fs) := by
    intro l0 hf
    show Steps p.tables e below (s₁.setTop (mkF m 18 #[.val (.int l0)] [])) _
    refine XS.iloadN X0.here hx rfl (hb hby own_dA_18) rfl ?_
    show Steps p.tables e below (s₁.setTop (mkF m 19 #[.val (.int l0)] [(.int l0)])) _
    refine XS.bipush X0.here hx rfl (hb hby own_dA_19) ?_
    show Steps p.tables e below (s₁.setTop (mkF m 21 #[.val (.int l0)] [(.int (10 : Int32)), (.int l0)])) _
    have hf' : (bif if_icmp.holds .ne l0 (10 : Int32) then own_fA_28 l0 else own_fA_24 l0) = r := hf
    rcases own_tf (if_icmp.holds .ne l0 (10 : Int32)) with hc | hc
    · rw [hc] at hf'
      refine XS.icmpYes X0.here hx rfl (pc0 := 21) (pc' := 28) rfl (hb hby own_dA_21) rfl hc (by decide) (by decide) ?_
      exact B28 l0 hf'
    · rw [hc] at hf'
      refine XS.icmpNo X0.here hx rfl (hb hby own_dA_21) rfl hc ?_
      exact B24 l0 hf'
  have B12 : ∀ (l0 : Int32), own_fA_12 l0 = r → Steps p.tables e below (s₁.setTop (mkF m 12 #[.val (.int l0)] [])) (s₁.setFrames fs) := by
    intro l0 hf
    show Steps p.tables e below (s₁.setTop (mkF m 12 #[.val (.int l0)] [])) _
    refine XS.iloadN X0.here hx rfl (hb hby own_dA_12) rfl ?_
    show Steps p.tables e below (s₁.setTop (mkF m 13 #[.val (.int l0)] [(.int l0)])) _
    refine XS.bipush X0.here hx rfl (hb hby own_dA_13) ?_
    show Steps p.tables e below (s₁.setTop (mkF m 15 #[.val (.int l0)] [(.int (13 : Int32)), (.int l0)])) _
    have hf' : (bif if_icmp.holds .eq l0 (13 : Int32) then own_fA_24 l0 else own_fA_18 l0) = r := hf
    rcases own_tf (if_icmp.holds .eq l0 (13 : Int32)) with hc | hc
    · rw [hc] at hf'
      refine XS.icmpYes X0.here hx rfl (pc0 := 15) (pc' := 24) rfl (hb hby own_dA_15) rfl hc (by decide) (by decide) ?_
      exact B24 l0 hf'
    · rw [hc] at hf'
      refine XS.icmpNo X0.here hx rfl (hb hby own_dA_15) rfl hc ?_
      exact B18 l0 hf'
  have B6 : ∀ (l0 : Int32), own_fA_6 l0 = r → Steps p.tables e below (s₁.setTop (mkF m 6 #[.val (.int l0)] [])) (s₁.setFrames fs) := by
    intro l0 hf
    show Steps p.tables e below (s₁.setTop (mkF m 6 #[.val (.int l0)] [])) _
    refine XS.iloadN X0.here hx rfl (hb hby own_dA_6) rfl ?_
    show Steps p.tables e below (s₁.setTop (mkF m 7 #[.val (.int l0)] [(.int l0)])) _
    refine XS.bipush X0.here hx rfl (hb hby own_dA_7) ?_
    show Steps p.tables e below (s₁.setTop (mkF m 9 #[.val (.int l0)] [(.int (9 : Int32)), (.int l0)])) _
    have hf' : (bif if_icmp.holds .eq l0 (9 : Int32) then own_fA_24 l0 else own_fA_12 l0) = r := hf
    rcases own_tf (if_icmp.holds .eq l0 (9 : Int32)) with hc | hc
    · rw [hc] at hf'
      refine XS.icmpYes X0.here hx rfl (pc0 := 9) (pc' := 24) rfl (hb hby own_dA_9) rfl hc (by decide) (by decide) ?_
      exact B24 l0 hf'
    · rw [hc] at hf'
      refine XS.icmpNo X0.here hx rfl (hb hby own_dA_9) rfl hc ?_
      exact B12 l0 hf'
  have B0 : ∀ (l0 : Int32), own_fA_0 l0 = r → Steps p.tables e below (s₁.setTop (mkF m 0 #[.val (.int l0)] [])) (s₁.setFrames fs) := by
    intro l0 hf
    show Steps p.tables e below (s₁.setTop (mkF m 0 #[.val (.int l0)] [])) _
    refine XS.iloadN X0.here hx rfl (hb hby own_dA_0) rfl ?_
    show Steps p.tables e below (s₁.setTop (mkF m 1 #[.val (.int l0)] [(.int l0)])) _
    refine XS.bipush X0.here hx rfl (hb hby own_dA_1) ?_
    show Steps p.tables e below (s₁.setTop (mkF m 3 #[.val (.int l0)] [(.int (32 : Int32)), (.int l0)])) _
    have hf' : (bif if_icmp.holds .eq l0 (32 : Int32) then own_fA_24 l0 else own_fA_6 l0) = r := hf
    rcases own_tf (if_icmp.holds .eq l0 (32 : Int32)) with hc | hc
    · rw [hc] at hf'
      refine XS.icmpYes X0.here hx rfl (pc0 := 3) (pc' := 24) rfl (hb hby own_dA_3) rfl hc (by decide) (by decide) ?_
      exact B24 l0 hf'
    · rw [hc] at hf'
      refine XS.icmpNo X0.here hx rfl (hb hby own_dA_3) rfl hc ?_
      exact B6 l0 hf'
  refine ⟨_, _, castTop (own_efA m p0) (B0 p0 hr0.symm), hrun, hended, _, _, rfl, ?_, ⟨_, rfl⟩, hW, hsame.mono (by decide) (by decide)⟩
  show own_Q _ h0 n0 _ s₁.heap _
  exact ⟨by rw [hr0], Fr.nil n0, e0⟩
theorem own_dB_0 : decode method_2_code 0 = .ok (.iload_n 0, 1) := by decide +kernel
theorem own_dB_1 : decode method_2_code 1 = .ok (.ifCond .lt 9, 3) := by decide +kernel
theorem own_dB_4 : decode method_2_code 4 = .ok (.iload_n 0, 1) := by decide +kernel
theorem own_dB_5 : decode method_2_code 5 = .ok (.bipush 32, 2) := by decide +kernel
theorem own_dB_7 : decode method_2_code 7 = .ok (.if_icmp .le 5, 3) := by decide +kernel
theorem own_dB_10 : decode method_2_code 10 = .ok (.iconst 0, 1) := by decide +kernel
theorem own_dB_11 : decode method_2_code 11 = .ok (.ireturn, 1) := by decide +kernel
theorem own_dB_12 : decode method_2_code 12 = .ok (.ldc2_w 7, 3) := by decide +kernel
theorem own_dB_15 : decode method_2_code 15 = .ok (.lstore_n 1, 1) := by decide +kernel
theorem own_dB_16 : decode method_2_code 16 = .ok (.lload_n 1, 1) := by decide +kernel
theorem own_dB_17 : decode method_2_code 17 = .ok (.iload_n 0, 1) := by decide +kernel
theorem own_dB_18 : decode method_2_code 18 = .ok (.lushr, 1) := by decide +kernel
theorem own_dB_19 : decode method_2_code 19 = .ok (.lconst 1, 1) := by decide +kernel
theorem own_dB_20 : decode method_2_code 20 = .ok (.land, 1) := by decide +kernel
theorem own_dB_21 : decode method_2_code 21 = .ok (.lconst 0, 1) := by decide +kernel
theorem own_dB_22 : decode method_2_code 22 = .ok (.lcmp, 1) := by decide +kernel
theorem own_dB_23 : decode method_2_code 23 = .ok (.ifCond .eq 7, 3) := by decide +kernel
theorem own_dB_26 : decode method_2_code 26 = .ok (.iconst 1, 1) := by decide +kernel
theorem own_dB_27 : decode method_2_code 27 = .ok (.goto 4, 3) := by decide +kernel
theorem own_dB_30 : decode method_2_code 30 = .ok (.iconst 0, 1) := by decide +kernel
theorem own_dB_31 : decode method_2_code 31 = .ok (.ireturn, 1) := by decide +kernel
theorem own_pnB : plainName "com/example/quillon/quillon/xdm/XmlCharsIsWhitespacePinLaw" = true := by first | (simp [plainName, overriddenIn]; done) | decide +kernel
theorem own_pdB : parseMethodDescriptor "(I)Z" = some ⟨[.int], some .boolean⟩ := by decide +kernel
theorem own_efB (m : MethodId) (x0 : Int32) : entryFrame m #[(.int x0)] 3 = mkF m 0 #[.val (.int x0), .unset, .unset] [] := by first | (simp [entryFrame, mkF, argsToLocals, Value.category]; done) | rfl
def own_fB_31 (l0 : Int32) (l1 : Int64) (s0 : Int32) : Int32 := s0
def own_fB_30 (l0 : Int32) (l1 : Int64) : Int32 := own_fB_31 l0 l1 (0 : Int32)
def own_fB_26 (l0 : Int32) (l1 : Int64) : Int32 := own_fB_31 l0 l1 (1 : Int32)
def own_fB_12 (l0 : Int32) : Int32 := bif ifCond.holds .eq (lcmpW (((((4294977024 : Int64)).toUInt64 >>> (l0 &&& 0x3f).toInt64.toUInt64).toInt64) &&& (1 : Int64)) (0 : Int64)) then own_fB_30 l0 (4294977024 : Int64) else own_fB_26 l0 (4294977024 : Int64)
def own_fB_10 (l0 : Int32) : Int32 := (0 : Int32)
def own_fB_4 (l0 : Int32) : Int32 := bif if_icmp.holds .le l0 (32 : Int32) then own_fB_12 l0 else own_fB_10 l0
def own_fB_0 (l0 : Int32) : Int32 := bif ifCond.holds .lt l0 then own_fB_10 l0 else own_fB_4 l0
set_option maxRecDepth 65536 in
set_option maxHeartbeats 40000000 in
theorem own_rmB (l : Launch) (Z : State) (a0 : Array Value) (hw : ∀ d ∈ tables_1, d.before a0 Z = true) (ws : List Jvm.Cond) (p0 : Int32) (h0 : Heap) (n0 : Nat) :
    MetFree l (⟨"com/example/quillon/quillon/xdm/XmlCharsIsWhitespacePinLaw", "ref", "(I)Z"⟩ : MethodName) (head1 (Jvm.Cond.code (⟨"com/example/quillon/quillon/xdm/XmlCharsIsWhitespacePinLaw", "ref", "(I)Z"⟩ : MethodName) method_2_code 3 (some .boolean) :: ws) ({ frames := 0, cells := 0, slots := 0, locals := 0 } : Room)) (fun a U => a = #[(.int p0)] ∧ Z.Warmed39 U.vm ∧ U.heap = h0) (fun _ _ _ _ _ => True) (fun _ U o U' => ∃ v L, o = .returned v ∧ own_Q (some (.int (nar .boolean (own_fB_0 p0)))) h0 n0 v U'.heap L ∧ FrameEnd U o U' L ({ frames := 0, cells := 0, slots := 0, locals := 0 } : Room).cells ({ frames := 0, cells := 0, slots := 0, locals := 0 } : Room).slots) := by
  refine MetFree.of_bodySF (plainFor_of_name own_pnB) hisR ?_
  intro p e s m args below meth c s₁ Bd hml0 hP hK
  obtain ⟨rfl, hZ, hh⟩ := hP
  have hx := Bd.exec
  have hby := Bd.bytes
  have hown : s.vm.findClass "com/example/quillon/quillon/xdm/XmlCharsIsWhitespacePinLaw" = some m.cls := findClass_of_methodNamed Bd.named
  have X0 : Stand p l e ({ frames := 0, cells := 0, slots := 0, locals := 0 } : Room) s m #[(.int p0)] below meth c s₁ [] 0 0 := Stand.of_body Bd
  have e0 : s₁.heap = h0 := by rw [← hh, Bd.state]; rfl
  obtain ⟨r, hr0⟩ : ∃ r, r = (own_fB_0 p0) := ⟨_, rfl⟩
  obtain ⟨fs, hr, hrun, hended, hW, hsame⟩ := X0.leave (v := some (.int (nar .boolean r))) (fun h => by rw [Bd.returns] at h; cases h)
  have B31 : ∀ (l0 : Int32) (l1 : Int64) (s0 : Int32), own_fB_31 l0 l1 s0 = r → Steps p.tables e below (s₁.setTop (mkF m 31 #[.val (.int l0), .val (.long l1), .second] [(.int s0)])) (s₁.setFrames fs) := by
    intro l0 l1 s0 hf
    show Steps p.tables e below (s₁.setTop (mkF m 31 #[.val (.int l0), .val (.long l1), .second] [(.int s0)])) _
    have hf' : s0 = r := hf
    exact retN X0 hx (t := .boolean) Bd.returns (by simp) (hb hby own_dB_31) (by rw [hf']; exact hr)
  have B30 : ∀ (l0 : Int32) (l1 : Int64), own_fB_30 l0 l1 = r → Steps p.tables e below (s₁.setTop (mkF m 30 #[.val (.int l0), .val (.long l1), .second] [])) (s₁.setFrames fs) := by
    intro l0 l1 hf
    show Steps p.tables e below (s₁.setTop (mkF m 30 #[.val (.int l0), .val (.long l1), .second] [])) _
    refine XS.iconst X0.here hx rfl (hb hby own_dB_30) ?_
    have hf' : own_fB_31 l0 l1 (0 : Int32) = r := hf
    exact B31 l0 l1 (0 : Int32) hf'
  have B26 : ∀ (l0 : Int32) (l1 : Int64), own_fB_26 l0 l1 = r → Steps p.tables e below (s₁.setTop (mkF m 26 #[.val (.int l0), .val (.long l1), .second] [])) (s₁.setFrames fs) := by
    intro l0 l1 hf
    show Steps p.tables e below (s₁.setTop (mkF m 26 #[.val (.int l0), .val (.long l1), .second] [])) _
    refine XS.iconst X0.here hx rfl (hb hby own_dB_26) ?_
    show Steps p.tables e below (s₁.setTop (mkF m 27 #[.val (.int l0), .val (.long l1), .second] [(.int (1 : Int32))])) _
    refine XS.goto X0.here hx rfl (pc0 := 27) (pc' := 31) rfl (hb hby own_dB_27) (by decide) (by decide) ?_
    have hf' : own_fB_31 l0 l1 (1 : Int32) = r := hf
    exact B31 l0 l1 (1 : Int32) hf'
  have B12 : ∀ (l0 : Int32), own_fB_12 l0 = r → Steps p.tables e below (s₁.setTop (mkF m 12 #[.val (.int l0), .unset, .unset] [])) (s₁.setFrames fs) := by
    intro l0 hf
    show Steps p.tables e below (s₁.setTop (mkF m 12 #[.val (.int l0), .unset, .unset] [])) _
    refine X0.ldc2Long hx hown (mvT hZ (hw _ (List.mem_of_getElem? (i := 9) rfl))) (g := (mkF m 12 #[.val (.int l0), .unset, .unset] [])) rfl (hb hby own_dB_12) _ ?_
    show Steps p.tables e below (s₁.setTop (mkF m 15 #[.val (.int l0), .unset, .unset] [(.long (4294977024 : Int64))])) _
    refine XS.lstoreN X0.here hx rfl (hb hby own_dB_15) rfl (l' := #[.val (.int l0), .val (.long (4294977024 : Int64)), .second]) rfl ?_
    show Steps p.tables e below (s₁.setTop (mkF m 16 #[.val (.int l0), .val (.long (4294977024 : Int64)), .second] [])) _
    refine XS.lloadN X0.here hx rfl (hb hby own_dB_16) rfl ?_
    show Steps p.tables e below (s₁.setTop (mkF m 17 #[.val (.int l0), .val (.long (4294977024 : Int64)), .second] [(.long (4294977024 : Int64))])) _
    refine XS.iloadN X0.here hx rfl (hb hby own_dB_17) rfl ?_
    show Steps p.tables e below (s₁.setTop (mkF m 18 #[.val (.int l0), .val (.long (4294977024 : Int64)), .second] [(.int l0), (.long (4294977024 : Int64))])) _
    refine XS.lushr X0.here hx rfl (hb hby own_dB_18) rfl ?_
    show Steps p.tables e below (s₁.setTop (mkF m 19 #[.val (.int l0), .val (.long (4294977024 : Int64)), .second] [(.long ((((4294977024 : Int64)).toUInt64 >>> (l0 &&& 0x3f).toInt64.toUInt64).toInt64))])) _
    refine XS.lconst X0.here hx rfl (hb hby own_dB_19) ?_
    show Steps p.tables e below (s₁.setTop (mkF m 20 #[.val (.int l0), .val (.long (4294977024 : Int64)), .second] [(.long (1 : Int64)), (.long ((((4294977024 : Int64)).toUInt64 >>> (l0 &&& 0x3f).toInt64.toUInt64).toInt64))])) _
    refine XS.land X0.here hx rfl (hb hby own_dB_20) rfl ?_
    show Steps p.tables e below (s₁.setTop (mkF m 21 #[.val (.int l0), .val (.long (4294977024 : Int64)), .second] [(.long (((((4294977024 : Int64)).toUInt64 >>> (l0 &&& 0x3f).toInt64.toUInt64).toInt64) &&& (1 : Int64)))])) _
    refine XS.lconst X0.here hx rfl (hb hby own_dB_21) ?_
    show Steps p.tables e below (s₁.setTop (mkF m 22 #[.val (.int l0), .val (.long (4294977024 : Int64)), .second] [(.long (0 : Int64)), (.long (((((4294977024 : Int64)).toUInt64 >>> (l0 &&& 0x3f).toInt64.toUInt64).toInt64) &&& (1 : Int64)))])) _
    refine XS.lcmp X0.here hx rfl (hb hby own_dB_22) rfl ?_
    show Steps p.tables e below (s₁.setTop (mkF m 23 #[.val (.int l0), .val (.long (4294977024 : Int64)), .second] [(.int (lcmpW (((((4294977024 : Int64)).toUInt64 >>> (l0 &&& 0x3f).toInt64.toUInt64).toInt64) &&& (1 : Int64)) (0 : Int64)))])) _
    have hf' : (bif ifCond.holds .eq (lcmpW (((((4294977024 : Int64)).toUInt64 >>> (l0 &&& 0x3f).toInt64.toUInt64).toInt64) &&& (1 : Int64)) (0 : Int64)) then own_fB_30 l0 (4294977024 : Int64) else own_fB_26 l0 (4294977024 : Int64)) = r := hf
    rcases own_tf (ifCond.holds .eq (lcmpW (((((4294977024 : Int64)).toUInt64 >>> (l0 &&& 0x3f).toInt64.toUInt64).toInt64) &&& (1 : Int64)) (0 : Int64))) with hc | hc
    · rw [hc] at hf'
      refine XS.ifYes X0.here hx rfl (pc0 := 23) (pc' := 30) rfl (hb hby own_dB_23) rfl hc (by decide) (by decide) ?_
      exact B30 l0 (4294977024 : Int64) hf'
    · rw [hc] at hf'
      refine XS.ifNo X0.here hx rfl (hb hby own_dB_23) rfl hc ?_
      exact B26 l0 (4294977024 : Int64) hf'
  have B10 : ∀ (l0 : Int32), own_fB_10 l0 = r → Steps p.tables e below (s₁.setTop (mkF m 10 #[.val (.int l0), .unset, .unset] [])) (s₁.setFrames fs) := by
    intro l0 hf
    show Steps p.tables e below (s₁.setTop (mkF m 10 #[.val (.int l0), .unset, .unset] [])) _
    refine XS.iconst X0.here hx rfl (hb hby own_dB_10) ?_
    show Steps p.tables e below (s₁.setTop (mkF m 11 #[.val (.int l0), .unset, .unset] [(.int (0 : Int32))])) _
    have hf' : (0 : Int32) = r := hf
    exact retN X0 hx (t := .boolean) Bd.returns (by simp) (hb hby own_dB_11) (by rw [hf']; exact hr)
  have B4 : ∀ (l0 : Int32), own_fB_4 l0 = r → Steps p.tables e below (s₁.setTop (mkF m 4 #[.val (.int l0), .unset, .unset] [])) (s₁.setFrames fs) := by
    intro l0 hf
    show Steps p.tables e below (s₁.setTop (mkF m 4 #[.val (.int l0), .unset, .unset] [])) _
    refine XS.iloadN X0.here hx rfl (hb hby own_dB_4) rfl ?_
    show Steps p.tables e below (s₁.setTop (mkF m 5 #[.val (.int l0), .unset, .unset] [(.int l0)])) _
    refine XS.bipush X0.here hx rfl (hb hby own_dB_5) ?_
    show Steps p.tables e below (s₁.setTop (mkF m 7 #[.val (.int l0), .unset, .unset] [(.int (32 : Int32)), (.int l0)])) _
    have hf' : (bif if_icmp.holds .le l0 (32 : Int32) then own_fB_12 l0 else own_fB_10 l0) = r := hf
    rcases own_tf (if_icmp.holds .le l0 (32 : Int32)) with hc | hc
    · rw [hc] at hf'
      refine XS.icmpYes X0.here hx rfl (pc0 := 7) (pc' := 12) rfl (hb hby own_dB_7) rfl hc (by decide) (by decide) ?_
      exact B12 l0 hf'
    · rw [hc] at hf'
      refine XS.icmpNo X0.here hx rfl (hb hby own_dB_7) rfl hc ?_
      exact B10 l0 hf'
  have B0 : ∀ (l0 : Int32), own_fB_0 l0 = r → Steps p.tables e below (s₁.setTop (mkF m 0 #[.val (.int l0), .unset, .unset] [])) (s₁.setFrames fs) := by
    intro l0 hf
    show Steps p.tables e below (s₁.setTop (mkF m 0 #[.val (.int l0), .unset, .unset] [])) _
    refine XS.iloadN X0.here hx rfl (hb hby own_dB_0) rfl ?_
    show Steps p.tables e below (s₁.setTop (mkF m 1 #[.val (.int l0), .unset, .unset] [(.int l0)])) _
    have hf' : (bif ifCond.holds .lt l0 then own_fB_10 l0 else own_fB_4 l0) = r := hf
    rcases own_tf (ifCond.holds .lt l0) with hc | hc
    · rw [hc] at hf'
      refine XS.ifYes X0.here hx rfl (pc0 := 1) (pc' := 10) rfl (hb hby own_dB_1) rfl hc (by decide) (by decide) ?_
      exact B10 l0 hf'
    · rw [hc] at hf'
      refine XS.ifNo X0.here hx rfl (hb hby own_dB_1) rfl hc ?_
      exact B4 l0 hf'
  refine ⟨_, _, castTop (own_efB m p0) (B0 p0 hr0.symm), hrun, hended, _, _, rfl, ?_, ⟨_, rfl⟩, hW, hsame.mono (by decide) (by decide)⟩
  show own_Q _ h0 n0 _ s₁.heap _
  exact ⟨by rw [hr0], Fr.nil n0, e0⟩
theorem own_same_0 (c : Int32) (h2 : c.toInt < 0) : own_fA_0 c = own_fB_0 c := by
  have qa : own_fA_0 c = (0 : Int32) := (own_f (own_eqF (n := 32) rfl (by omega)) (own_f (own_eqF (n := 9) rfl (by omega)) (own_f (own_eqF (n := 13) rfl (by omega)) (own_t (own_neT (n := 10) rfl (by omega)) rfl))))
  have qb : own_fB_0 c = (0 : Int32) := (own_t ((if0 _ _).trans (own_ltT (n := 0) rfl (by omega))) rfl)
  rw [qa, qb]
theorem own_same_1 (c : Int32) (h1 : 0 ≤ c.toInt) (h2 : c.toInt < 1) : own_fA_0 c = own_fB_0 c := by
  have q : c = (0 : Int32) := own_pt (n := 0) rfl (by omega)
  subst q; decide
theorem own_same_2 (c : Int32) (h1 : 1 ≤ c.toInt) (h2 : c.toInt < 2) : own_fA_0 c = own_fB_0 c := by
  have q : c = (1 : Int32) := own_pt (n := 1) rfl (by omega)
  subst q; decide
theorem own_same_3 (c : Int32) (h1 : 2 ≤ c.toInt) (h2 : c.toInt < 3) : own_fA_0 c = own_fB_0 c := by
  have q : c = (2 : Int32) := own_pt (n := 2) rfl (by omega)
  subst q; decide
theorem own_same_4 (c : Int32) (h1 : 3 ≤ c.toInt) (h2 : c.toInt < 4) : own_fA_0 c = own_fB_0 c := by
  have q : c = (3 : Int32) := own_pt (n := 3) rfl (by omega)
  subst q; decide
theorem own_same_5 (c : Int32) (h1 : 4 ≤ c.toInt) (h2 : c.toInt < 5) : own_fA_0 c = own_fB_0 c := by
  have q : c = (4 : Int32) := own_pt (n := 4) rfl (by omega)
  subst q; decide
theorem own_same_6 (c : Int32) (h1 : 5 ≤ c.toInt) (h2 : c.toInt < 6) : own_fA_0 c = own_fB_0 c := by
  have q : c = (5 : Int32) := own_pt (n := 5) rfl (by omega)
  subst q; decide
theorem own_same_7 (c : Int32) (h1 : 6 ≤ c.toInt) (h2 : c.toInt < 7) : own_fA_0 c = own_fB_0 c := by
  have q : c = (6 : Int32) := own_pt (n := 6) rfl (by omega)
  subst q; decide
theorem own_same_8 (c : Int32) (h1 : 7 ≤ c.toInt) (h2 : c.toInt < 8) : own_fA_0 c = own_fB_0 c := by
  have q : c = (7 : Int32) := own_pt (n := 7) rfl (by omega)
  subst q; decide
theorem own_same_9 (c : Int32) (h1 : 8 ≤ c.toInt) (h2 : c.toInt < 9) : own_fA_0 c = own_fB_0 c := by
  have q : c = (8 : Int32) := own_pt (n := 8) rfl (by omega)
  subst q; decide
theorem own_same_10 (c : Int32) (h1 : 9 ≤ c.toInt) (h2 : c.toInt < 10) : own_fA_0 c = own_fB_0 c := by
  have q : c = (9 : Int32) := own_pt (n := 9) rfl (by omega)
  subst q; decide
theorem own_same_11 (c : Int32) (h1 : 10 ≤ c.toInt) (h2 : c.toInt < 11) : own_fA_0 c = own_fB_0 c := by
  have q : c = (10 : Int32) := own_pt (n := 10) rfl (by omega)
  subst q; decide
theorem own_same_12 (c : Int32) (h1 : 11 ≤ c.toInt) (h2 : c.toInt < 12) : own_fA_0 c = own_fB_0 c := by
  have q : c = (11 : Int32) := own_pt (n := 11) rfl (by omega)
  subst q; decide
theorem own_same_13 (c : Int32) (h1 : 12 ≤ c.toInt) (h2 : c.toInt < 13) : own_fA_0 c = own_fB_0 c := by
  have q : c = (12 : Int32) := own_pt (n := 12) rfl (by omega)
  subst q; decide
theorem own_same_14 (c : Int32) (h1 : 13 ≤ c.toInt) (h2 : c.toInt < 14) : own_fA_0 c = own_fB_0 c := by
  have q : c = (13 : Int32) := own_pt (n := 13) rfl (by omega)
  subst q; decide
theorem own_same_15 (c : Int32) (h1 : 14 ≤ c.toInt) (h2 : c.toInt < 15) : own_fA_0 c = own_fB_0 c := by
  have q : c = (14 : Int32) := own_pt (n := 14) rfl (by omega)
  subst q; decide
theorem own_same_16 (c : Int32) (h1 : 15 ≤ c.toInt) (h2 : c.toInt < 16) : own_fA_0 c = own_fB_0 c := by
  have q : c = (15 : Int32) := own_pt (n := 15) rfl (by omega)
  subst q; decide
theorem own_same_17 (c : Int32) (h1 : 16 ≤ c.toInt) (h2 : c.toInt < 17) : own_fA_0 c = own_fB_0 c := by
  have q : c = (16 : Int32) := own_pt (n := 16) rfl (by omega)
  subst q; decide
theorem own_same_18 (c : Int32) (h1 : 17 ≤ c.toInt) (h2 : c.toInt < 18) : own_fA_0 c = own_fB_0 c := by
  have q : c = (17 : Int32) := own_pt (n := 17) rfl (by omega)
  subst q; decide
theorem own_same_19 (c : Int32) (h1 : 18 ≤ c.toInt) (h2 : c.toInt < 19) : own_fA_0 c = own_fB_0 c := by
  have q : c = (18 : Int32) := own_pt (n := 18) rfl (by omega)
  subst q; decide
theorem own_same_20 (c : Int32) (h1 : 19 ≤ c.toInt) (h2 : c.toInt < 20) : own_fA_0 c = own_fB_0 c := by
  have q : c = (19 : Int32) := own_pt (n := 19) rfl (by omega)
  subst q; decide
theorem own_same_21 (c : Int32) (h1 : 20 ≤ c.toInt) (h2 : c.toInt < 21) : own_fA_0 c = own_fB_0 c := by
  have q : c = (20 : Int32) := own_pt (n := 20) rfl (by omega)
  subst q; decide
theorem own_same_22 (c : Int32) (h1 : 21 ≤ c.toInt) (h2 : c.toInt < 22) : own_fA_0 c = own_fB_0 c := by
  have q : c = (21 : Int32) := own_pt (n := 21) rfl (by omega)
  subst q; decide
theorem own_same_23 (c : Int32) (h1 : 22 ≤ c.toInt) (h2 : c.toInt < 23) : own_fA_0 c = own_fB_0 c := by
  have q : c = (22 : Int32) := own_pt (n := 22) rfl (by omega)
  subst q; decide
theorem own_same_24 (c : Int32) (h1 : 23 ≤ c.toInt) (h2 : c.toInt < 24) : own_fA_0 c = own_fB_0 c := by
  have q : c = (23 : Int32) := own_pt (n := 23) rfl (by omega)
  subst q; decide
theorem own_same_25 (c : Int32) (h1 : 24 ≤ c.toInt) (h2 : c.toInt < 25) : own_fA_0 c = own_fB_0 c := by
  have q : c = (24 : Int32) := own_pt (n := 24) rfl (by omega)
  subst q; decide
theorem own_same_26 (c : Int32) (h1 : 25 ≤ c.toInt) (h2 : c.toInt < 26) : own_fA_0 c = own_fB_0 c := by
  have q : c = (25 : Int32) := own_pt (n := 25) rfl (by omega)
  subst q; decide
theorem own_same_27 (c : Int32) (h1 : 26 ≤ c.toInt) (h2 : c.toInt < 27) : own_fA_0 c = own_fB_0 c := by
  have q : c = (26 : Int32) := own_pt (n := 26) rfl (by omega)
  subst q; decide
theorem own_same_28 (c : Int32) (h1 : 27 ≤ c.toInt) (h2 : c.toInt < 28) : own_fA_0 c = own_fB_0 c := by
  have q : c = (27 : Int32) := own_pt (n := 27) rfl (by omega)
  subst q; decide
theorem own_same_29 (c : Int32) (h1 : 28 ≤ c.toInt) (h2 : c.toInt < 29) : own_fA_0 c = own_fB_0 c := by
  have q : c = (28 : Int32) := own_pt (n := 28) rfl (by omega)
  subst q; decide
theorem own_same_30 (c : Int32) (h1 : 29 ≤ c.toInt) (h2 : c.toInt < 30) : own_fA_0 c = own_fB_0 c := by
  have q : c = (29 : Int32) := own_pt (n := 29) rfl (by omega)
  subst q; decide
theorem own_same_31 (c : Int32) (h1 : 30 ≤ c.toInt) (h2 : c.toInt < 31) : own_fA_0 c = own_fB_0 c := by
  have q : c = (30 : Int32) := own_pt (n := 30) rfl (by omega)
  subst q; decide
theorem own_same_32 (c : Int32) (h1 : 31 ≤ c.toInt) (h2 : c.toInt < 32) : own_fA_0 c = own_fB_0 c := by
  have q : c = (31 : Int32) := own_pt (n := 31) rfl (by omega)
  subst q; decide
theorem own_same_33 (c : Int32) (h1 : 32 ≤ c.toInt) (h2 : c.toInt < 33) : own_fA_0 c = own_fB_0 c := by
  have q : c = (32 : Int32) := own_pt (n := 32) rfl (by omega)
  subst q; decide
theorem own_same_34 (c : Int32) (h1 : 33 ≤ c.toInt) : own_fA_0 c = own_fB_0 c := by
  have qa : own_fA_0 c = (0 : Int32) := (own_f (own_eqF (n := 32) rfl (by omega)) (own_f (own_eqF (n := 9) rfl (by omega)) (own_f (own_eqF (n := 13) rfl (by omega)) (own_t (own_neT (n := 10) rfl (by omega)) rfl))))
  have qb : own_fB_0 c = (0 : Int32) := (own_f ((if0 _ _).trans (own_ltF (n := 0) rfl (by omega))) (own_f (own_leF (n := 32) rfl (by omega)) rfl))
  rw [qa, qb]
theorem own_same (c : Int32) : own_fA_0 c = own_fB_0 c := by
  by_cases q0 : c.toInt < 0
  · exact own_same_0 c q0
  by_cases q1 : c.toInt < 1
  · exact own_same_1 c (by omega) q1
  by_cases q2 : c.toInt < 2
  · exact own_same_2 c (by omega) q2
  by_cases q3 : c.toInt < 3
  · exact own_same_3 c (by omega) q3
  by_cases q4 : c.toInt < 4
  · exact own_same_4 c (by omega) q4
  by_cases q5 : c.toInt < 5
  · exact own_same_5 c (by omega) q5
  by_cases q6 : c.toInt < 6
  · exact own_same_6 c (by omega) q6
  by_cases q7 : c.toInt < 7
  · exact own_same_7 c (by omega) q7
  by_cases q8 : c.toInt < 8
  · exact own_same_8 c (by omega) q8
  by_cases q9 : c.toInt < 9
  · exact own_same_9 c (by omega) q9
  by_cases q10 : c.toInt < 10
  · exact own_same_10 c (by omega) q10
  by_cases q11 : c.toInt < 11
  · exact own_same_11 c (by omega) q11
  by_cases q12 : c.toInt < 12
  · exact own_same_12 c (by omega) q12
  by_cases q13 : c.toInt < 13
  · exact own_same_13 c (by omega) q13
  by_cases q14 : c.toInt < 14
  · exact own_same_14 c (by omega) q14
  by_cases q15 : c.toInt < 15
  · exact own_same_15 c (by omega) q15
  by_cases q16 : c.toInt < 16
  · exact own_same_16 c (by omega) q16
  by_cases q17 : c.toInt < 17
  · exact own_same_17 c (by omega) q17
  by_cases q18 : c.toInt < 18
  · exact own_same_18 c (by omega) q18
  by_cases q19 : c.toInt < 19
  · exact own_same_19 c (by omega) q19
  by_cases q20 : c.toInt < 20
  · exact own_same_20 c (by omega) q20
  by_cases q21 : c.toInt < 21
  · exact own_same_21 c (by omega) q21
  by_cases q22 : c.toInt < 22
  · exact own_same_22 c (by omega) q22
  by_cases q23 : c.toInt < 23
  · exact own_same_23 c (by omega) q23
  by_cases q24 : c.toInt < 24
  · exact own_same_24 c (by omega) q24
  by_cases q25 : c.toInt < 25
  · exact own_same_25 c (by omega) q25
  by_cases q26 : c.toInt < 26
  · exact own_same_26 c (by omega) q26
  by_cases q27 : c.toInt < 27
  · exact own_same_27 c (by omega) q27
  by_cases q28 : c.toInt < 28
  · exact own_same_28 c (by omega) q28
  by_cases q29 : c.toInt < 29
  · exact own_same_29 c (by omega) q29
  by_cases q30 : c.toInt < 30
  · exact own_same_30 c (by omega) q30
  by_cases q31 : c.toInt < 31
  · exact own_same_31 c (by omega) q31
  by_cases q32 : c.toInt < 32
  · exact own_same_32 c (by omega) q32
  by_cases q33 : c.toInt < 33
  · exact own_same_33 c (by omega) q33
  exact own_same_34 c (by omega)
theorem own_pn0 : plainName "com/example/quillon/quillon/xdm/XmlCharsIsWhitespacePinLaw" = true := by first | (simp [plainName, overriddenIn]; done) | decide +kernel
theorem own_ef0 (m : MethodId) (x0 : Int32) (x1 : Int32) : entryFrame m #[(.int x0), (.int x1)] maxLocals = mkF m 0 #[.val (.int x0), .val (.int x1), .unset, .unset, .unset, .unset, .unset] [] := by first | (simp [entryFrame, mkF, argsToLocals, Value.category, maxLocals]; done) | rfl
set_option maxRecDepth 65536 in
set_option maxHeartbeats 40000000 in
theorem own_rm0 (l : Launch) (Z : State) (a0 : Array Value) (hw : ∀ d ∈ tables_1, d.before a0 Z = true) (ws : List Jvm.Cond) (p0 : Int32) (p1 : Int32) (h0 : Heap) (n0 : Nat) (Z0 : n0 ≤ h0.size) :
    MetFree l x (head1 (Jvm.Cond.code x code maxLocals ret :: ws) room_1) (fun a U => a = #[(.int p0), (.int p1)] ∧ Z.Warmed39 U.vm ∧ U.heap = h0) (fun _ _ _ _ _ => True) (fun _ U o U' => ∃ v L, o = .returned v ∧ own_Q0 n0 v L ∧ FrameEnd U o U' L room_1.cells room_1.slots) := by
  refine MetFree.of_bodySF (plainFor_of_name own_pn0) hisR ?_
  intro p e s m args below meth c s₁ Bd hml0 hP hK
  obtain ⟨rfl, hZ, hh⟩ := hP
  have hx := Bd.exec
  have hby := Bd.bytes
  have hml : c.maxLocals = 7 := hml0
  have hown : s.vm.findClass "com/example/quillon/quillon/xdm/XmlCharsIsWhitespacePinLaw" = some m.cls := findClass_of_methodNamed Bd.named
  have hnm := (name_of_methodNamed Bd.named Bd.method).1
  have X0 : Stand p l e room_1 s m #[(.int p0), (.int p1)] below meth c s₁ [] 0 0 := Stand.of_body Bd
  have e0 : s₁.heap = h0 := by rw [← hh, Bd.state]; rfl
  have N0 := Fr.nil n0
  have pre0 : ∀ t, Steps p.tables e below (s₁.setTop (mkF m 0 #[.val (.int p0), .val (.int p1), .unset, .unset, .unset, .unset, .unset] [])) t → Steps p.tables e below (s₁.setTop (entryFrame m #[(.int p0), (.int p1)] maxLocals)) t := fun t k => castTop (own_ef0 m p0 p1) k
  obtain ⟨T1, L1, X1, e1, N1, st1⟩ := own_callS X0 hx hZ (y := (⟨"com/example/quillon/quillon/xdm/XmlChars", "isWhitespace", "(I)Z"⟩ : MethodName)) hown (hw _ (List.mem_of_getElem? (i := 1) rfl)) (hw _ (List.mem_of_getElem? (i := 2) rfl)) (hw _ (List.mem_of_getElem? (i := 3) rfl)) (hw _ (List.mem_of_getElem? (i := 4) rfl)) (by decide) (W := 0) (own_rmA l Z a0 hw [] p0 h0 n0) (by decide) (by decide) (g := (mkF m 13 #[.val (.int p0), .val (.int p1), .val (.int (p1 &&& (63 : Int32))), .val (.int ((p1 &&& (63 : Int32)) ||| (p0 &&& (-65536 : Int32)))), .unset, .unset, .unset] [(.int p0)])) rfl (by rw [hml]; rfl) (rest := []) (lenOf own_pdA rfl) rfl (by show 2 * 0 + _ ≤ _; exact Nat.le_of_eq rfl) (hb hby at_13) (by decide) (by decide) e0 N0
  obtain ⟨T2, L2, X2, e2, N2, st2⟩ := own_callS X1 hx hZ (y := (⟨"com/example/quillon/quillon/xdm/XmlCharsIsWhitespacePinLaw", "ref", "(I)Z"⟩ : MethodName)) hown (hw _ (List.mem_of_getElem? (i := 5) rfl)) (hw _ (List.mem_of_getElem? (i := 6) rfl)) (hw _ (List.mem_of_getElem? (i := 7) rfl)) (hw _ (List.mem_of_getElem? (i := 8) rfl)) (by decide) (W := 1) (own_rmB l Z a0 hw [] p0 h0 n0) (by decide) (by decide) (g := (mkF m 17 #[.val (.int p0), .val (.int p1), .val (.int (p1 &&& (63 : Int32))), .val (.int ((p1 &&& (63 : Int32)) ||| (p0 &&& (-65536 : Int32)))), .unset, .unset, .unset] [(.int p0), (.int (nar .boolean (own_fA_0 p0)))])) rfl (by rw [hml]; rfl) (rest := [(.int (nar .boolean (own_fA_0 p0)))]) (lenOf own_pdB rfl) rfl (by show 2 * 0 + _ ≤ _; exact Nat.le_of_eq rfl) (hb hby at_17) (by decide) (by decide) e1 N1
  obtain ⟨T3, L3, X3, e3, N3, st3⟩ := own_callS X2 hx hZ (y := (⟨"com/example/quillon/quillon/xdm/XmlChars", "isWhitespace", "(I)Z"⟩ : MethodName)) hown (hw _ (List.mem_of_getElem? (i := 1) rfl)) (hw _ (List.mem_of_getElem? (i := 2) rfl)) (hw _ (List.mem_of_getElem? (i := 3) rfl)) (hw _ (List.mem_of_getElem? (i := 4) rfl)) (by decide) (W := 0) (own_rmA l Z a0 hw [] (p1 &&& (63 : Int32)) h0 n0) (by decide) (by decide) (g := (mkF m 31 #[.val (.int p0), .val (.int p1), .val (.int (p1 &&& (63 : Int32))), .val (.int ((p1 &&& (63 : Int32)) ||| (p0 &&& (-65536 : Int32)))), .val (.int (1 : Int32)), .unset, .unset] [(.int (p1 &&& (63 : Int32)))])) rfl (by rw [hml]; rfl) (rest := []) (lenOf own_pdA rfl) rfl (by show 2 * 0 + _ ≤ _; exact Nat.le_of_eq rfl) (hb hby at_31) (by decide) (by decide) e2 N2
  obtain ⟨T4, L4, X4, e4, N4, st4⟩ := own_callS X3 hx hZ (y := (⟨"com/example/quillon/quillon/xdm/XmlCharsIsWhitespacePinLaw", "ref", "(I)Z"⟩ : MethodName)) hown (hw _ (List.mem_of_getElem? (i := 5) rfl)) (hw _ (List.mem_of_getElem? (i := 6) rfl)) (hw _ (List.mem_of_getElem? (i := 7) rfl)) (hw _ (List.mem_of_getElem? (i := 8) rfl)) (by decide) (W := 1) (own_rmB l Z a0 hw [] (p1 &&& (63 : Int32)) h0 n0) (by decide) (by decide) (g := (mkF m 35 #[.val (.int p0), .val (.int p1), .val (.int (p1 &&& (63 : Int32))), .val (.int ((p1 &&& (63 : Int32)) ||| (p0 &&& (-65536 : Int32)))), .val (.int (1 : Int32)), .unset, .unset] [(.int (p1 &&& (63 : Int32))), (.int (nar .boolean (own_fA_0 (p1 &&& (63 : Int32)))))])) rfl (by rw [hml]; rfl) (rest := [(.int (nar .boolean (own_fA_0 (p1 &&& (63 : Int32)))))]) (lenOf own_pdB rfl) rfl (by show 2 * 0 + _ ≤ _; exact Nat.le_of_eq rfl) (hb hby at_35) (by decide) (by decide) e3 N3
  obtain ⟨T5, L5, X5, e5, N5, st5⟩ := own_callS X4 hx hZ (y := (⟨"com/example/quillon/quillon/xdm/XmlChars", "isWhitespace", "(I)Z"⟩ : MethodName)) hown (hw _ (List.mem_of_getElem? (i := 1) rfl)) (hw _ (List.mem_of_getElem? (i := 2) rfl)) (hw _ (List.mem_of_getElem? (i := 3) rfl)) (hw _ (List.mem_of_getElem? (i := 4) rfl)) (by decide) (W := 0) (own_rmA l Z a0 hw [] ((p1 &&& (63 : Int32)) ||| (p0 &&& (-65536 : Int32))) h0 n0) (by decide) (by decide) (g := (mkF m 49 #[.val (.int p0), .val (.int p1), .val (.int (p1 &&& (63 : Int32))), .val (.int ((p1 &&& (63 : Int32)) ||| (p0 &&& (-65536 : Int32)))), .val (.int (1 : Int32)), .val (.int (1 : Int32)), .unset] [(.int ((p1 &&& (63 : Int32)) ||| (p0 &&& (-65536 : Int32))))])) rfl (by rw [hml]; rfl) (rest := []) (lenOf own_pdA rfl) rfl (by show 2 * 0 + _ ≤ _; exact Nat.le_of_eq rfl) (hb hby at_49) (by decide) (by decide) e4 N4
  obtain ⟨T6, L6, X6, e6, N6, st6⟩ := own_callS X5 hx hZ (y := (⟨"com/example/quillon/quillon/xdm/XmlCharsIsWhitespacePinLaw", "ref", "(I)Z"⟩ : MethodName)) hown (hw _ (List.mem_of_getElem? (i := 5) rfl)) (hw _ (List.mem_of_getElem? (i := 6) rfl)) (hw _ (List.mem_of_getElem? (i := 7) rfl)) (hw _ (List.mem_of_getElem? (i := 8) rfl)) (by decide) (W := 1) (own_rmB l Z a0 hw [] ((p1 &&& (63 : Int32)) ||| (p0 &&& (-65536 : Int32))) h0 n0) (by decide) (by decide) (g := (mkF m 53 #[.val (.int p0), .val (.int p1), .val (.int (p1 &&& (63 : Int32))), .val (.int ((p1 &&& (63 : Int32)) ||| (p0 &&& (-65536 : Int32)))), .val (.int (1 : Int32)), .val (.int (1 : Int32)), .unset] [(.int ((p1 &&& (63 : Int32)) ||| (p0 &&& (-65536 : Int32)))), (.int (nar .boolean (own_fA_0 ((p1 &&& (63 : Int32)) ||| (p0 &&& (-65536 : Int32))))))])) rfl (by rw [hml]; rfl) (rest := [(.int (nar .boolean (own_fA_0 ((p1 &&& (63 : Int32)) ||| (p0 &&& (-65536 : Int32))))))]) (lenOf own_pdB rfl) rfl (by show 2 * 0 + _ ≤ _; exact Nat.le_of_eq rfl) (hb hby at_53) (by decide) (by decide) e5 N5
  obtain ⟨fs, hr, hrun, hended, hW, hsame⟩ := X6.leave (v := some (.int (1 : Int32))) (fun h => by rw [Bd.returns] at h; cases h)
  refine ⟨_, _, pre0 _ ?_, hrun, hended, _, _, rfl, ?_, ⟨_, rfl⟩, hW, hsame.mono (by decide) (by decide)⟩
  · show Steps p.tables e below (s₁.setTop (mkF m 0 #[.val (.int p0), .val (.int p1), .unset, .unset, .unset, .unset, .unset] [])) _
    refine XS.iloadN X0.here hx rfl (hb hby at_0) rfl ?_
    show Steps p.tables e below (s₁.setTop (mkF m 1 #[.val (.int p0), .val (.int p1), .unset, .unset, .unset, .unset, .unset] [(.int p1)])) _
    refine XS.bipush X0.here hx rfl (hb hby at_1) ?_
    show Steps p.tables e below (s₁.setTop (mkF m 3 #[.val (.int p0), .val (.int p1), .unset, .unset, .unset, .unset, .unset] [(.int (63 : Int32)), (.int p1)])) _
    refine XS.iand X0.here hx rfl (hb hby at_3) rfl ?_
    show Steps p.tables e below (s₁.setTop (mkF m 4 #[.val (.int p0), .val (.int p1), .unset, .unset, .unset, .unset, .unset] [(.int (p1 &&& (63 : Int32)))])) _
    refine XS.istoreN X0.here hx rfl (hb hby at_4) rfl (l' := #[.val (.int p0), .val (.int p1), .val (.int (p1 &&& (63 : Int32))), .unset, .unset, .unset, .unset]) rfl ?_
    show Steps p.tables e below (s₁.setTop (mkF m 5 #[.val (.int p0), .val (.int p1), .val (.int (p1 &&& (63 : Int32))), .unset, .unset, .unset, .unset] [])) _
    refine XS.iloadN X0.here hx rfl (hb hby at_5) rfl ?_
    show Steps p.tables e below (s₁.setTop (mkF m 6 #[.val (.int p0), .val (.int p1), .val (.int (p1 &&& (63 : Int32))), .unset, .unset, .unset, .unset] [(.int (p1 &&& (63 : Int32)))])) _
    refine XS.iloadN X0.here hx rfl (hb hby at_6) rfl ?_
    show Steps p.tables e below (s₁.setTop (mkF m 7 #[.val (.int p0), .val (.int p1), .val (.int (p1 &&& (63 : Int32))), .unset, .unset, .unset, .unset] [(.int p0), (.int (p1 &&& (63 : Int32)))])) _
    refine X0.ldcInt hx hown (mvT hZ (hw _ (List.mem_of_getElem? (i := 0) rfl))) (g := (mkF m 7 #[.val (.int p0), .val (.int p1), .val (.int (p1 &&& (63 : Int32))), .unset, .unset, .unset, .unset] [(.int p0), (.int (p1 &&& (63 : Int32)))])) rfl (hb hby at_7) _ ?_
    show Steps p.tables e below (s₁.setTop (mkF m 9 #[.val (.int p0), .val (.int p1), .val (.int (p1 &&& (63 : Int32))), .unset, .unset, .unset, .unset] [(.int (-65536 : Int32)), (.int p0), (.int (p1 &&& (63 : Int32)))])) _
    refine XS.iand X0.here hx rfl (hb hby at_9) rfl ?_
    show Steps p.tables e below (s₁.setTop (mkF m 10 #[.val (.int p0), .val (.int p1), .val (.int (p1 &&& (63 : Int32))), .unset, .unset, .unset, .unset] [(.int (p0 &&& (-65536 : Int32))), (.int (p1 &&& (63 : Int32)))])) _
    refine XS.ior X0.here hx rfl (hb hby at_10) rfl ?_
    show Steps p.tables e below (s₁.setTop (mkF m 11 #[.val (.int p0), .val (.int p1), .val (.int (p1 &&& (63 : Int32))), .unset, .unset, .unset, .unset] [(.int ((p1 &&& (63 : Int32)) ||| (p0 &&& (-65536 : Int32))))])) _
    refine XS.istoreN X0.here hx rfl (hb hby at_11) rfl (l' := #[.val (.int p0), .val (.int p1), .val (.int (p1 &&& (63 : Int32))), .val (.int ((p1 &&& (63 : Int32)) ||| (p0 &&& (-65536 : Int32)))), .unset, .unset, .unset]) rfl ?_
    show Steps p.tables e below (s₁.setTop (mkF m 12 #[.val (.int p0), .val (.int p1), .val (.int (p1 &&& (63 : Int32))), .val (.int ((p1 &&& (63 : Int32)) ||| (p0 &&& (-65536 : Int32)))), .unset, .unset, .unset] [])) _
    refine XS.iloadN X0.here hx rfl (hb hby at_12) rfl ?_
    show Steps p.tables e below (s₁.setTop (mkF m 13 #[.val (.int p0), .val (.int p1), .val (.int (p1 &&& (63 : Int32))), .val (.int ((p1 &&& (63 : Int32)) ||| (p0 &&& (-65536 : Int32)))), .unset, .unset, .unset] [(.int p0)])) _
    refine st1 _ ?_
    show Steps p.tables e below (T1.setTop (mkF m 16 #[.val (.int p0), .val (.int p1), .val (.int (p1 &&& (63 : Int32))), .val (.int ((p1 &&& (63 : Int32)) ||| (p0 &&& (-65536 : Int32)))), .unset, .unset, .unset] [(.int (nar .boolean (own_fA_0 p0)))])) _
    refine XS.iloadN X1.here hx rfl (hb hby at_16) rfl ?_
    show Steps p.tables e below (T1.setTop (mkF m 17 #[.val (.int p0), .val (.int p1), .val (.int (p1 &&& (63 : Int32))), .val (.int ((p1 &&& (63 : Int32)) ||| (p0 &&& (-65536 : Int32)))), .unset, .unset, .unset] [(.int p0), (.int (nar .boolean (own_fA_0 p0)))])) _
    refine st2 _ ?_
    show Steps p.tables e below (T2.setTop (mkF m 20 #[.val (.int p0), .val (.int p1), .val (.int (p1 &&& (63 : Int32))), .val (.int ((p1 &&& (63 : Int32)) ||| (p0 &&& (-65536 : Int32)))), .unset, .unset, .unset] [(.int (nar .boolean (own_fB_0 p0))), (.int (nar .boolean (own_fA_0 p0)))])) _
    refine XS.icmpNo X2.here hx rfl (hb hby at_20) rfl (teq (congrArg (nar .boolean) (own_same p0))).2 ?_
    show Steps p.tables e below (T2.setTop (mkF m 23 #[.val (.int p0), .val (.int p1), .val (.int (p1 &&& (63 : Int32))), .val (.int ((p1 &&& (63 : Int32)) ||| (p0 &&& (-65536 : Int32)))), .unset, .unset, .unset] [])) _
    refine XS.iconst X2.here hx rfl (hb hby at_23) ?_
    show Steps p.tables e below (T2.setTop (mkF m 24 #[.val (.int p0), .val (.int p1), .val (.int (p1 &&& (63 : Int32))), .val (.int ((p1 &&& (63 : Int32)) ||| (p0 &&& (-65536 : Int32)))), .unset, .unset, .unset] [(.int (1 : Int32))])) _
    refine XS.goto X2.here hx rfl (pc0 := 24) (pc' := 28) rfl (hb hby at_24) (by decide) (by decide) ?_
    show Steps p.tables e below (T2.setTop (mkF m 28 #[.val (.int p0), .val (.int p1), .val (.int (p1 &&& (63 : Int32))), .val (.int ((p1 &&& (63 : Int32)) ||| (p0 &&& (-65536 : Int32)))), .unset, .unset, .unset] [(.int (1 : Int32))])) _
    refine XS.istore X2.here hx rfl (hb hby at_28) rfl (l' := #[.val (.int p0), .val (.int p1), .val (.int (p1 &&& (63 : Int32))), .val (.int ((p1 &&& (63 : Int32)) ||| (p0 &&& (-65536 : Int32)))), .val (.int (1 : Int32)), .unset, .unset]) rfl ?_
    show Steps p.tables e below (T2.setTop (mkF m 30 #[.val (.int p0), .val (.int p1), .val (.int (p1 &&& (63 : Int32))), .val (.int ((p1 &&& (63 : Int32)) ||| (p0 &&& (-65536 : Int32)))), .val (.int (1 : Int32)), .unset, .unset] [])) _
    refine XS.iloadN X2.here hx rfl (hb hby at_30) rfl ?_
    show Steps p.tables e below (T2.setTop (mkF m 31 #[.val (.int p0), .val (.int p1), .val (.int (p1 &&& (63 : Int32))), .val (.int ((p1 &&& (63 : Int32)) ||| (p0 &&& (-65536 : Int32)))), .val (.int (1 : Int32)), .unset, .unset] [(.int (p1 &&& (63 : Int32)))])) _
    refine st3 _ ?_
    show Steps p.tables e below (T3.setTop (mkF m 34 #[.val (.int p0), .val (.int p1), .val (.int (p1 &&& (63 : Int32))), .val (.int ((p1 &&& (63 : Int32)) ||| (p0 &&& (-65536 : Int32)))), .val (.int (1 : Int32)), .unset, .unset] [(.int (nar .boolean (own_fA_0 (p1 &&& (63 : Int32)))))])) _
    refine XS.iloadN X3.here hx rfl (hb hby at_34) rfl ?_
    show Steps p.tables e below (T3.setTop (mkF m 35 #[.val (.int p0), .val (.int p1), .val (.int (p1 &&& (63 : Int32))), .val (.int ((p1 &&& (63 : Int32)) ||| (p0 &&& (-65536 : Int32)))), .val (.int (1 : Int32)), .unset, .unset] [(.int (p1 &&& (63 : Int32))), (.int (nar .boolean (own_fA_0 (p1 &&& (63 : Int32)))))])) _
    refine st4 _ ?_
    show Steps p.tables e below (T4.setTop (mkF m 38 #[.val (.int p0), .val (.int p1), .val (.int (p1 &&& (63 : Int32))), .val (.int ((p1 &&& (63 : Int32)) ||| (p0 &&& (-65536 : Int32)))), .val (.int (1 : Int32)), .unset, .unset] [(.int (nar .boolean (own_fB_0 (p1 &&& (63 : Int32))))), (.int (nar .boolean (own_fA_0 (p1 &&& (63 : Int32)))))])) _
    refine XS.icmpNo X4.here hx rfl (hb hby at_38) rfl (teq (congrArg (nar .boolean) (own_same (p1 &&& (63 : Int32))))).2 ?_
    show Steps p.tables e below (T4.setTop (mkF m 41 #[.val (.int p0), .val (.int p1), .val (.int (p1 &&& (63 : Int32))), .val (.int ((p1 &&& (63 : Int32)) ||| (p0 &&& (-65536 : Int32)))), .val (.int (1 : Int32)), .unset, .unset] [])) _
    refine XS.iconst X4.here hx rfl (hb hby at_41) ?_
    show Steps p.tables e below (T4.setTop (mkF m 42 #[.val (.int p0), .val (.int p1), .val (.int (p1 &&& (63 : Int32))), .val (.int ((p1 &&& (63 : Int32)) ||| (p0 &&& (-65536 : Int32)))), .val (.int (1 : Int32)), .unset, .unset] [(.int (1 : Int32))])) _
    refine XS.goto X4.here hx rfl (pc0 := 42) (pc' := 46) rfl (hb hby at_42) (by decide) (by decide) ?_
    show Steps p.tables e below (T4.setTop (mkF m 46 #[.val (.int p0), .val (.int p1), .val (.int (p1 &&& (63 : Int32))), .val (.int ((p1 &&& (63 : Int32)) ||| (p0 &&& (-65536 : Int32)))), .val (.int (1 : Int32)), .unset, .unset] [(.int (1 : Int32))])) _
    refine XS.istore X4.here hx rfl (hb hby at_46) rfl (l' := #[.val (.int p0), .val (.int p1), .val (.int (p1 &&& (63 : Int32))), .val (.int ((p1 &&& (63 : Int32)) ||| (p0 &&& (-65536 : Int32)))), .val (.int (1 : Int32)), .val (.int (1 : Int32)), .unset]) rfl ?_
    show Steps p.tables e below (T4.setTop (mkF m 48 #[.val (.int p0), .val (.int p1), .val (.int (p1 &&& (63 : Int32))), .val (.int ((p1 &&& (63 : Int32)) ||| (p0 &&& (-65536 : Int32)))), .val (.int (1 : Int32)), .val (.int (1 : Int32)), .unset] [])) _
    refine XS.iloadN X4.here hx rfl (hb hby at_48) rfl ?_
    show Steps p.tables e below (T4.setTop (mkF m 49 #[.val (.int p0), .val (.int p1), .val (.int (p1 &&& (63 : Int32))), .val (.int ((p1 &&& (63 : Int32)) ||| (p0 &&& (-65536 : Int32)))), .val (.int (1 : Int32)), .val (.int (1 : Int32)), .unset] [(.int ((p1 &&& (63 : Int32)) ||| (p0 &&& (-65536 : Int32))))])) _
    refine st5 _ ?_
    show Steps p.tables e below (T5.setTop (mkF m 52 #[.val (.int p0), .val (.int p1), .val (.int (p1 &&& (63 : Int32))), .val (.int ((p1 &&& (63 : Int32)) ||| (p0 &&& (-65536 : Int32)))), .val (.int (1 : Int32)), .val (.int (1 : Int32)), .unset] [(.int (nar .boolean (own_fA_0 ((p1 &&& (63 : Int32)) ||| (p0 &&& (-65536 : Int32))))))])) _
    refine XS.iloadN X5.here hx rfl (hb hby at_52) rfl ?_
    show Steps p.tables e below (T5.setTop (mkF m 53 #[.val (.int p0), .val (.int p1), .val (.int (p1 &&& (63 : Int32))), .val (.int ((p1 &&& (63 : Int32)) ||| (p0 &&& (-65536 : Int32)))), .val (.int (1 : Int32)), .val (.int (1 : Int32)), .unset] [(.int ((p1 &&& (63 : Int32)) ||| (p0 &&& (-65536 : Int32)))), (.int (nar .boolean (own_fA_0 ((p1 &&& (63 : Int32)) ||| (p0 &&& (-65536 : Int32))))))])) _
    refine st6 _ ?_
    show Steps p.tables e below (T6.setTop (mkF m 56 #[.val (.int p0), .val (.int p1), .val (.int (p1 &&& (63 : Int32))), .val (.int ((p1 &&& (63 : Int32)) ||| (p0 &&& (-65536 : Int32)))), .val (.int (1 : Int32)), .val (.int (1 : Int32)), .unset] [(.int (nar .boolean (own_fB_0 ((p1 &&& (63 : Int32)) ||| (p0 &&& (-65536 : Int32)))))), (.int (nar .boolean (own_fA_0 ((p1 &&& (63 : Int32)) ||| (p0 &&& (-65536 : Int32))))))])) _
    refine XS.icmpNo X6.here hx rfl (hb hby at_56) rfl (teq (congrArg (nar .boolean) (own_same ((p1 &&& (63 : Int32)) ||| (p0 &&& (-65536 : Int32)))))).2 ?_
    show Steps p.tables e below (T6.setTop (mkF m 59 #[.val (.int p0), .val (.int p1), .val (.int (p1 &&& (63 : Int32))), .val (.int ((p1 &&& (63 : Int32)) ||| (p0 &&& (-65536 : Int32)))), .val (.int (1 : Int32)), .val (.int (1 : Int32)), .unset] [])) _
    refine XS.iconst X6.here hx rfl (hb hby at_59) ?_
    show Steps p.tables e below (T6.setTop (mkF m 60 #[.val (.int p0), .val (.int p1), .val (.int (p1 &&& (63 : Int32))), .val (.int ((p1 &&& (63 : Int32)) ||| (p0 &&& (-65536 : Int32)))), .val (.int (1 : Int32)), .val (.int (1 : Int32)), .unset] [(.int (1 : Int32))])) _
    refine XS.goto X6.here hx rfl (pc0 := 60) (pc' := 64) rfl (hb hby at_60) (by decide) (by decide) ?_
    show Steps p.tables e below (T6.setTop (mkF m 64 #[.val (.int p0), .val (.int p1), .val (.int (p1 &&& (63 : Int32))), .val (.int ((p1 &&& (63 : Int32)) ||| (p0 &&& (-65536 : Int32)))), .val (.int (1 : Int32)), .val (.int (1 : Int32)), .unset] [(.int (1 : Int32))])) _
    refine XS.istore X6.here hx rfl (hb hby at_64) rfl (l' := #[.val (.int p0), .val (.int p1), .val (.int (p1 &&& (63 : Int32))), .val (.int ((p1 &&& (63 : Int32)) ||| (p0 &&& (-65536 : Int32)))), .val (.int (1 : Int32)), .val (.int (1 : Int32)), .val (.int (1 : Int32))]) rfl ?_
    show Steps p.tables e below (T6.setTop (mkF m 66 #[.val (.int p0), .val (.int p1), .val (.int (p1 &&& (63 : Int32))), .val (.int ((p1 &&& (63 : Int32)) ||| (p0 &&& (-65536 : Int32)))), .val (.int (1 : Int32)), .val (.int (1 : Int32)), .val (.int (1 : Int32))] [])) _
    refine XS.iload X6.here hx rfl (hb hby at_66) rfl ?_
    show Steps p.tables e below (T6.setTop (mkF m 68 #[.val (.int p0), .val (.int p1), .val (.int (p1 &&& (63 : Int32))), .val (.int ((p1 &&& (63 : Int32)) ||| (p0 &&& (-65536 : Int32)))), .val (.int (1 : Int32)), .val (.int (1 : Int32)), .val (.int (1 : Int32))] [(.int (1 : Int32))])) _
    refine XS.ifNo X6.here hx rfl (hb hby at_68) rfl (by decide) ?_
    show Steps p.tables e below (T6.setTop (mkF m 71 #[.val (.int p0), .val (.int p1), .val (.int (p1 &&& (63 : Int32))), .val (.int ((p1 &&& (63 : Int32)) ||| (p0 &&& (-65536 : Int32)))), .val (.int (1 : Int32)), .val (.int (1 : Int32)), .val (.int (1 : Int32))] [])) _
    refine XS.iload X6.here hx rfl (hb hby at_71) rfl ?_
    show Steps p.tables e below (T6.setTop (mkF m 73 #[.val (.int p0), .val (.int p1), .val (.int (p1 &&& (63 : Int32))), .val (.int ((p1 &&& (63 : Int32)) ||| (p0 &&& (-65536 : Int32)))), .val (.int (1 : Int32)), .val (.int (1 : Int32)), .val (.int (1 : Int32))] [(.int (1 : Int32))])) _
    refine XS.ifNo X6.here hx rfl (hb hby at_73) rfl (by decide) ?_
    show Steps p.tables e below (T6.setTop (mkF m 76 #[.val (.int p0), .val (.int p1), .val (.int (p1 &&& (63 : Int32))), .val (.int ((p1 &&& (63 : Int32)) ||| (p0 &&& (-65536 : Int32)))), .val (.int (1 : Int32)), .val (.int (1 : Int32)), .val (.int (1 : Int32))] [])) _
    refine XS.iload X6.here hx rfl (hb hby at_76) rfl ?_
    show Steps p.tables e below (T6.setTop (mkF m 78 #[.val (.int p0), .val (.int p1), .val (.int (p1 &&& (63 : Int32))), .val (.int ((p1 &&& (63 : Int32)) ||| (p0 &&& (-65536 : Int32)))), .val (.int (1 : Int32)), .val (.int (1 : Int32)), .val (.int (1 : Int32))] [(.int (1 : Int32))])) _
    refine XS.ifNo X6.here hx rfl (hb hby at_78) rfl (by decide) ?_
    show Steps p.tables e below (T6.setTop (mkF m 81 #[.val (.int p0), .val (.int p1), .val (.int (p1 &&& (63 : Int32))), .val (.int ((p1 &&& (63 : Int32)) ||| (p0 &&& (-65536 : Int32)))), .val (.int (1 : Int32)), .val (.int (1 : Int32)), .val (.int (1 : Int32))] [])) _
    refine XS.iconst X6.here hx rfl (hb hby at_81) ?_
    show Steps p.tables e below (T6.setTop (mkF m 82 #[.val (.int p0), .val (.int p1), .val (.int (p1 &&& (63 : Int32))), .val (.int ((p1 &&& (63 : Int32)) ||| (p0 &&& (-65536 : Int32)))), .val (.int (1 : Int32)), .val (.int (1 : Int32)), .val (.int (1 : Int32))] [(.int (1 : Int32))])) _
    refine XS.goto X6.here hx rfl (pc0 := 82) (pc' := 86) rfl (hb hby at_82) (by decide) (by decide) ?_
    show Steps p.tables e below (T6.setTop (mkF m 86 #[.val (.int p0), .val (.int p1), .val (.int (p1 &&& (63 : Int32))), .val (.int ((p1 &&& (63 : Int32)) ||| (p0 &&& (-65536 : Int32)))), .val (.int (1 : Int32)), .val (.int (1 : Int32)), .val (.int (1 : Int32))] [(.int (1 : Int32))])) _
    exact retN X6 hx (t := .boolean) Bd.returns (by simp) (hb hby at_86) hr
  · exact ⟨rfl, N6⟩
set_option maxRecDepth 65536 in
set_option maxHeartbeats 40000000 in
theorem own_comes {Post : Tables → Env → Array Value → State → Outcome → State → Prop} (hpost : ∀ tb e args s v u, (limb_1_1.after args s (.returned v) u = true ∧ limb_1_2.after args s (.returned v) u = true ∧ True) → FrameEnd s (.returned v) u (Jvm.fieldLocs frame_1_writes args s ++ Jvm.arrayLocs frame_1_arrays args s ++ Jvm.staticLocs frame_1_statics s) 0 0 → Post tb e args s (.returned v) u) :
    ArmFor flags0 classFile x code maxLocals ret World_1 tables_1 room_1 Calls_1 rest_1 Pre_1 Post := by
  intro l hfl _ _ p e ha hc hk s m args below hf hA hF happ hP
  obtain ⟨hcalls, hrest, hpre⟩ := hP
  obtain ⟨-, -, -, hnamed, -, -, -, hat⟩ := (Spec.applies_iff hf).mp happ
  obtain ⟨hg, hn⟩ := and_e (Cond.before_iff.mp (show (Jvm.Cond.and given_1 narrow_1).before args s = true from hpre))
  obtain ⟨g0, k0⟩ := and_e hg
  obtain ⟨q0, k1⟩ := and_e k0
  obtain ⟨w0, w1, rfl⟩ : ∃ w0 w1 : Value, args = #[w0, w1] := by
    have hs : args.size = 2 := by simpa [Cond.value, given_1] using g0
    obtain ⟨L⟩ := args
    match L, hs with
    | [w0, w1], _ => exact ⟨w0, w1, rfl⟩
  have hw := fun d (hd : d ∈ tables_1) => atoms_spec (ws := Jvm.Cond.code x code maxLocals ret :: tables_1) hat d (List.mem_cons_of_mem _ hd)
  obtain ⟨i0, ei0⟩ := is_v q0
  obtain rfl : w0 = (.int i0) := Option.some.inj ei0
  obtain ⟨i1, ei1⟩ := is_v k1
  obtain rfl : w1 = (.int i1) := Option.some.inj ei1
  obtain ⟨n, o, h1, h2, h3, _, L, rfl, ⟨rfl, N⟩, hq⟩ := own_rm0 l s _ hw tables_1 i0 i1 s.heap s.heap.size (Nat.le_refl _) p e ha hc hk s m _ below hf ((Spec.applies_iff_loose hf).mp happ).1 ⟨rfl, State.Warmed39.refl s, rfl⟩ trivial
  refine ⟨n, _, h1, h2, h3, hpost _ _ _ _ _ _ ⟨Cond.after_iff.mpr rfl, Cond.after_iff.mpr (eq_i res_at (Term.int_eval (1)) rfl), trivial⟩ ⟨hq.1, hq.2.1, (hq.2.2.sift fun y hy => Or.inr (N y hy)).mono (by decide) (by decide)⟩⟩
theorem main_1_1 : Claimed_1_1 := own_comes fun _ _ _ _ _ _ h hF => ⟨h.1, hF⟩
theorem main_1_2 : Claimed_1_2 := own_comes fun _ _ _ _ _ _ h hF => ⟨h.2.1, hF⟩
end Jvm.Pilot.@@N@@
namespace Jvm.Pilot.@@N@@
open Jvm Jvm.ClassFile Sem Op Lib Jvm.Free Jvm.Stand Jvm.Pilot.@@N@@.Jvm.D
/-! MADE BY PROGRAM (witnessworld.py) out of the Statement's table words and the real class files: 7 classes; the members and pool entries that the words name. The judged class is class 1, her method 2. -/
namespace start1
open Jvm.ClassFile
def u (s : String) : CpInfo := .utf8 (stringToUtf16 s)
/-- a pool by its gaps: so many unusable entries, then the entry; so many at the end -/
def gap : Nat → List CpInfo → List CpInfo
  | 0, r => r
  | n + 1, r => .unusable :: gap n r
def poolList (es : List (Nat × CpInfo)) (last : Nat) : List CpInfo := es.foldr (fun e r => gap e.1 (e.2 :: r)) (gap last [])
def pool (es : List (Nat × CpInfo)) (last : Nat) : Array CpInfo := ⟨poolList es last⟩
def fileOf (pool : Array CpInfo) (this : Nat) (attrs : Array Attribute := #[]) (ms : Array MethodInfo := #[]) (fl : Nat := 33) (sup : Nat := 0) (ifs : Array Nat := #[]) (fds : Array FieldInfo := #[]) : ClassFile where
  minorVersion := 0
  majorVersion := 65
  constantPool := pool
  accessFlags := fl
  thisClass := this
  superClass := sup
  interfaces := ifs
  fields := fds
  methods := ms
  attributes := attrs
def plain (name : String) (sup : Option ClassId) : Class where
  name := name
  kind := .ordinary
  loader := none
  accessFlags := 33
  super := sup
  interfaces := #[]
  cf := none
  fields := #[]
  methods := #[]
  instanceTypes := #[]
  staticTypes := #[]
  resolved := #[]
  callSites := []
  init := .initialized
  statics := none
  mirror := none

def pool0 : Array CpInfo := pool [(5, u "<init>"), (0, u "()V"), (1, .class_ 10), (1, u "java/lang/Object")] 113

def k0m0 : Method := { name := "<init>", desc := "()V", sig := { parameters := [], returnType := none }, accessFlags := 1, code := none }
/-- java/lang/Object -/
def k0 : Class := { plain "java/lang/Object" none with
  accessFlags := 33
  interfaces := #[]
  cf := some (fileOf pool0 8 #[] #[{ accessFlags := 1, nameIndex := 5, descriptorIndex := 6, attributes := #[] }] 33 0 #[] #[])
  fields := #[]
  methods := #[k0m0]
  instanceTypes := #[]
  staticTypes := #[]
  resolved := Array.replicate 124 none
  statics := none }

def pool1 : Array CpInfo := pool [(2, .class_ 4), (1, u "java/lang/Object"), (0, u "<init>"), (0, u "()V"), (0, .long 4294977024), (1, .integer 4294901760), (0, .methodref 11 12), (0, .class_ 13), (0, .nameAndType 14 15), (0, u "com/example/quillon/quillon/xdm/XmlChars"), (0, u "isWhitespace"), (0, u "(I)Z"), (0, .methodref 17 18), (0, .class_ 19), (0, .nameAndType 20 15), (0, u "com/example/quillon/quillon/xdm/XmlCharsIsWhitespacePinLaw"), (0, u "ref"), (3, u "law"), (0, u "(II)Z")] 2

def k1m0 : Method := { name := "<init>", desc := "()V", sig := { parameters := [], returnType := none }, accessFlags := 2, code := none }
def k1c1 : Code := { maxStack := 4, maxLocals := 3, code := method_2_code, exceptionTable := #[], attributes := #[] }
def k1m1 : Method := { name := "ref", desc := "(I)Z", sig := { parameters := [.int], returnType := some .boolean }, accessFlags := 10, code := some k1c1 }
def k1c2 : Code := { maxStack := 3, maxLocals := 7, code := code, exceptionTable := #[], attributes := #[] }
def k1m2 : Method := { name := "law", desc := "(II)Z", sig := { parameters := [.int, .int], returnType := some .boolean }, accessFlags := 9, code := some k1c2 }
/-- com/example/quillon/quillon/xdm/XmlCharsIsWhitespacePinLaw -/
def k1 : Class := { plain "com/example/quillon/quillon/xdm/XmlCharsIsWhitespacePinLaw" (some 0) with
  accessFlags := 49
  interfaces := #[]
  cf := some (fileOf pool1 17 #[] #[{ accessFlags := 2, nameIndex := 5, descriptorIndex := 6, attributes := #[] }, { accessFlags := 10, nameIndex := 20, descriptorIndex := 15, attributes := #[] }, { accessFlags := 9, nameIndex := 24, descriptorIndex := 25, attributes := #[] }] 49 2 #[] #[])
  fields := #[]
  methods := #[k1m0, k1m1, k1m2]
  instanceTypes := #[]
  staticTypes := #[]
  resolved := Array.replicate 28 none
  statics := none }

def pool2 : Array CpInfo := pool [(2, .class_ 4), (1, u "java/lang/Object"), (0, u "<init>"), (0, u "()V"), (8, .class_ 16), (0, u "com/example/quillon/quillon/xdm/XmlChars"), (29, u "isWhitespace"), (0, u "(I)Z"), (47, u "XML_NAMESPACE"), (0, u "Ljava/lang/String;"), (1, u "XMLNS_NAMESPACE")] 12

def k2m0 : Method := { name := "<init>", desc := "()V", sig := { parameters := [], returnType := none }, accessFlags := 2, code := none }
def k2c1 : Code := { maxStack := 2, maxLocals := 1, code := prog_251_method_5_code, exceptionTable := #[], attributes := #[] }
def k2m1 : Method := { name := "isWhitespace", desc := "(I)Z", sig := { parameters := [.int], returnType := some .boolean }, accessFlags := 9, code := some k2c1 }
/-- com/example/quillon/quillon/xdm/XmlChars -/
def k2 : Class := { plain "com/example/quillon/quillon/xdm/XmlChars" (some 0) with
  accessFlags := 49
  interfaces := #[]
  cf := some (fileOf pool2 15 #[] #[{ accessFlags := 2, nameIndex := 5, descriptorIndex := 6, attributes := #[] }, { accessFlags := 9, nameIndex := 46, descriptorIndex := 47, attributes := #[] }] 49 2 #[] #[{ accessFlags := 25, nameIndex := 95, descriptorIndex := 96, attributes := #[] }, { accessFlags := 25, nameIndex := 98, descriptorIndex := 96, attributes := #[] }])
  fields := #[{ name := "XML_NAMESPACE", type := (.object "java/lang/String"), accessFlags := 25, slot := 0, constantValue := 0 }, { name := "XMLNS_NAMESPACE", type := (.object "java/lang/String"), accessFlags := 25, slot := 1, constantValue := 0 }]
  methods := #[k2m0, k2m1]
  instanceTypes := #[]
  staticTypes := #[(.object "java/lang/String"), (.object "java/lang/String")]
  resolved := Array.replicate 111 none
  statics := none }

def pool3 : Array CpInfo := pool [(1, u "java/lang/Cloneable"), (0, .class_ 1), (0, u "java/lang/Object"), (0, .class_ 3)] 3

/-- java/lang/Cloneable -/
def k3 : Class := { plain "java/lang/Cloneable" (some 0) with
  accessFlags := 1537
  interfaces := #[]
  cf := some (fileOf pool3 2 #[] #[] 1537 4 #[] #[])
  fields := #[]
  methods := #[]
  instanceTypes := #[]
  staticTypes := #[]
  resolved := Array.replicate 8 none
  statics := none }

def pool4 : Array CpInfo := pool [(1, u "java/io/Serializable"), (0, .class_ 1), (0, u "java/lang/Object"), (0, .class_ 3)] 3

/-- java/io/Serializable -/
def k4 : Class := { plain "java/io/Serializable" (some 0) with
  accessFlags := 1537
  interfaces := #[]
  cf := some (fileOf pool4 2 #[] #[] 1537 4 #[] #[])
  fields := #[]
  methods := #[]
  instanceTypes := #[]
  staticTypes := #[]
  resolved := Array.replicate 8 none
  statics := none }

/-- the primitive byte -/
def k5 : Class := { plain "byte" none with kind := .primitive 'B', accessFlags := 0x411 }
/-- [B -/
def k6 : Class := { plain "[B" (some 0) with kind := .array 5 .byte, interfaces := #[3, 4], accessFlags := 1041 }

def heap : Heap := #[]
def classes : Array Class := #[k0, k1, k2, k3, k4, k5, k6]
def interned : List (Array UInt16 × Addr) := []
def slotsUsed : Nat := 0
def theMethod : MethodId := ⟨1, 2⟩
def args0 : Array Value := #[.int 5, .int 7]
def aboutOver (below : List Frame) : State where
  vm := { classes := classes, interned := interned.toArray }
  heap := heap
  slotsUsed := slotsUsed
  threads := #[{ frames := .invoking theMethod args0 :: below }]
def below0 : List Frame := [.native { method := ⟨0, 0⟩, args := #[] }]
def about1 : State := aboutOver below0
def p0 : Program := .bare "" "" ""
def e0 : Env := launch0.env 0 0 0
theorem w_frames : about1.frames = Frame.invoking theMethod args0 :: below0 := rfl
set_option maxRecDepth 65536 in
theorem w_args : argsFit about1.vm theMethod args0 = true := by decide +kernel
set_option maxRecDepth 65536 in
theorem w_heap : heapFits about1 = true := by decide +kernel
set_option maxRecDepth 65536 in
theorem w_runnable : about1.curStatus? = some .runnable := by decide +kernel
set_option maxRecDepth 65536 in
theorem w_alone : about1.alone = true := by decide +kernel
set_option maxRecDepth 65536 in
theorem w_named : about1.methodNamed? x = some theMethod := by decide +kernel
set_option maxRecDepth 65536 in
theorem w_hears : about1.hears theMethod below0 = true := by decide +kernel
set_option maxRecDepth 65536 in
theorem w_ripe : about1.ripe theMethod args0 below0 = true := by decide +kernel
theorem w_running : about1.status = .running := rfl
set_option maxRecDepth 65536 in
theorem w_room : about1.hasRoom e0.platform room_1 = true :=
  launch0.hasRoom_least _ room_1 (by decide +kernel) (by decide +kernel) (by decide +kernel) (by decide +kernel) (by decide +kernel) (by decide +kernel)
theorem allAtoms_all (ts : List Jvm.Cond) (a : Array Jvm.Value) (st : Jvm.State) : (allAtoms ts).before a st = ts.all (fun c => c.before a st) := by
  induction ts with
  | nil => rfl
  | cons c t ih =>
    show (Jvm.Cond.and c (allAtoms t)).before a st = _
    rw [Jvm.Cond.before_and, ih, List.all_cons]
def words1 : List Jvm.Cond := Jvm.Cond.code x code maxLocals ret :: tables_1
/-- a 'code' word, met by the world's own term for the bytes: nothing is compared byte by byte -/
theorem code_word {y : MethodName} {bytes : ByteArray} {mx : Nat} {rt : Option FieldType} {a : Array Value} {s : State} {m : MethodId} {meth : Method} {c : Code} (h1 : s.methodNamed? y = some m) (h2 : s.vm.method? m = some meth) (h3 : meth.code = some c) (h4 : c.code = bytes)
    (h5 : (c.maxLocals == mx && c.exceptionTable.isEmpty && decide (c.maxStack ≤ mostOperands) && decide (meth.sig.returnType = rt) && !meth.locks && decide (parseMethodDescriptor y.desc = some meth.sig)) = true) : (Jvm.Cond.code y bytes mx rt).before a s = true := by
  simp only [Bool.and_eq_true, beq_iff_eq, Bool.not_eq_true', decide_eq_true_eq] at h5
  obtain ⟨⟨⟨⟨⟨g1, g2⟩, g3⟩, g4⟩, g5⟩, g6⟩ := h5
  simp [Cond.before, Cond.holds, Cond.value, h1, h2, h3, h4, g1, g2, g3, g4, g5, g6]
def isCode : Jvm.Cond → Bool
  | .code _ _ _ _ => true
  | _ => false
theorem all_split {L : List Jvm.Cond} {P : Jvm.Cond → Bool} (h1 : L.all (fun c => isCode c || P c) = true) (h2 : ∀ c ∈ L.filter isCode, P c = true) : L.all P = true := by
  refine List.all_eq_true.mpr fun c hc => ?_
  have h := List.all_eq_true.mp h1 c hc
  rcases Bool.eq_false_or_eq_true (isCode c) with hi | hi
  · exact h2 c (List.mem_filter.mpr ⟨hc, hi⟩)
  · simpa [hi] using h
set_option maxRecDepth 65536 in
theorem w_c0 : (Jvm.Cond.code x code maxLocals ret).before args0 about1 = true := code_word (m := ⟨1, 2⟩) (meth := k1m2) (c := k1c2) (by decide +kernel) rfl rfl rfl (by decide +kernel)
set_option maxRecDepth 65536 in
theorem w_c1 : (Jvm.Cond.code ({ cls := "com/example/quillon/quillon/xdm/XmlChars", name := "isWhitespace", desc := "(I)Z" } : Jvm.MethodName) prog_251_method_5_code (1 : Nat) (Option.some Jvm.ClassFile.FieldType.boolean)).before args0 about1 = true := code_word (m := ⟨2, 1⟩) (meth := k2m1) (c := k2c1) (by decide +kernel) rfl rfl rfl (by decide +kernel)
set_option maxRecDepth 65536 in
theorem w_c2 : (Jvm.Cond.code ({ cls := "com/example/quillon/quillon/xdm/XmlCharsIsWhitespacePinLaw", name := "ref", desc := "(I)Z" } : Jvm.MethodName) method_2_code (3 : Nat) (Option.some Jvm.ClassFile.FieldType.boolean)).before args0 about1 = true := code_word (m := ⟨1, 1⟩) (meth := k1m1) (c := k1c1) (by decide +kernel) rfl rfl rfl (by decide +kernel)
def codes1 : List Jvm.Cond := [Jvm.Cond.code x code maxLocals ret, Jvm.Cond.code ({ cls := "com/example/quillon/quillon/xdm/XmlChars", name := "isWhitespace", desc := "(I)Z" } : Jvm.MethodName) prog_251_method_5_code (1 : Nat) (Option.some Jvm.ClassFile.FieldType.boolean), Jvm.Cond.code ({ cls := "com/example/quillon/quillon/xdm/XmlCharsIsWhitespacePinLaw", name := "ref", desc := "(I)Z" } : Jvm.MethodName) method_2_code (3 : Nat) (Option.some Jvm.ClassFile.FieldType.boolean)]
set_option maxRecDepth 65536 in
theorem codes_eq : words1.filter isCode = codes1 := rfl
theorem w_codes : ∀ c ∈ words1.filter isCode, c.before args0 about1 = true := by
  rw [codes_eq]
  intro c hc
  simp only [codes1, List.mem_cons, List.not_mem_nil, or_false] at hc
  rcases hc with rfl | rfl | rfl
  · exact w_c0
  · exact w_c1
  · exact w_c2
set_option maxRecDepth 65536 in
theorem w_t1 : words1.all (fun c => isCode c || c.before args0 about1) = true := by decide +kernel
theorem w_tables : (allAtoms (Jvm.Cond.code x code maxLocals ret :: tables_1)).before args0 about1 = true := by
  rw [allAtoms_all]
  show words1.all (fun c => c.before args0 about1) = true
  refine all_split ?_ w_codes
  rw [w_t1]
set_option maxRecDepth 65536 in
theorem w_case : (Jvm.Cond.and given_1 narrow_1).before args0 about1 = true := by decide +kernel
theorem w_applies : (headSpec (Jvm.Cond.code x code maxLocals ret :: tables_1) room_1).applies x e0.platform about1 = true :=
  (Spec.applies_iff w_frames).mpr ⟨w_running, w_runnable, w_alone, w_named, w_hears, w_ripe, w_room, w_tables⟩
theorem atStart : AtStart classFile x code maxLocals ret World_1 tables_1 room_1 Calls_1 rest_1 Pre_1 launch0 p0 e0 about1 theMethod args0 below0 :=
  ⟨lists_1, trivial, launch0.admits_env _ _ _, launch0.least_env, fairChoices_fair.cas, fairChoices_fair.clock, w_frames, w_args, w_heap, w_applies, trivial, trivial, w_case⟩
end start1
theorem witness_1 : WitnessClaimed_1 := ⟨start1.p0, start1.e0, start1.about1, start1.theMethod, start1.args0, start1.below0, start1.atStart⟩
end Jvm.Pilot.@@N@@
