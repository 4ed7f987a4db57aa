import JvmDerived
import JvmDerived.Pilot.@@N@@Statement
import JvmDerived.Pilot.@@N@@Code
set_option linter.unusedVariables false
set_option linter.unusedSimpArgs false
namespace Jvm.Pilot.@@N@@.OwnKit
open Jvm Sem ClassFile Op Lib Jvm.Stand Jvm.Free Jvm.LawKit Jvm.RoadKit
section New
variable {p : Program} {l : Launch} {e : Env} {R : Room} {s : State} {m : MethodId} {args : Array Value} {below : List Frame} {meth : Method} {c : Code} {T : State} {locs : List Loc} {cells slots : Nat}
theorem retI (X : Stand p l e R s m args below meth c T locs cells slots) (hx : p.tables.exec = Jvm.exec) {pc : Nat} {Ls : Array Slot} {z : Int32} {rest : List Value} (hret : meth.sig.returnType = some .int) (hd : decode c.code pc = .ok (.ireturn, 1)) {fs : List Frame}
    (hl : ∀ (f : JFrame) (acts : List Action), f.method = m → f.locked = none → f.entered = [] → (doReturn e (T.setTop f) acts (some (.int z))).1 = T.setFrames fs) : Steps p.tables e below (T.setTop (mkF m pc Ls (.int z :: rest))) (T.setFrames fs) :=
  retOut X hx hret rfl (Or.inl ⟨rfl, Or.inl rfl, _, rfl⟩) hd hl
theorem lremM {g : JFrame} {target : State} (X : Stand p l e R s m args below meth c T locs cells slots) (hx : p.tables.exec = Jvm.exec) (hg : g.method = m) {x y : Int64} {rest : List Value} (hd : decode c.code g.pc = .ok (.lrem, 1)) (hs : g.stack = .long y :: .long x :: rest) (hy : y ≠ 0)
    (hr : Steps p.tables e below (T.setTop { g with pc := g.pc + 1, stack := .long (x % y) :: rest }) target) : Steps p.tables e below (T.setTop g) target := by
  have q : x - x / y * y = x % y := by
    have g1 := rng64 (x % y)
    have g2 : (x % y).toInt = x.toInt.tmod y.toInt := Int64.toInt_mod x y
    have g3 := Int.tmod_def x.toInt y.toInt
    have g4 : (x / y).toInt = (x.toInt.tdiv y.toInt).bmod (2 ^ 64) := Int64.toInt_div x y
    apply Int64.toInt_inj.mp
    rw [Int64.toInt_sub, Int64.toInt_mul, g4, Int.bmod_mul_bmod, Int.sub_bmod_bmod, Int.mul_comm (x.toInt.tdiv y.toInt), ← g3, ← g2]
    exact Int.bmod_eq_of_le_mul_two (by omega) (by omega)
  exact XS.lrem X.here hx hg hd hs hy (by rw [q]; exact hr)
end New
/-- from here the run ends, and as G says -/
def Goes (tb : Tables) (e : Env) (below : List Frame) (t : State) (G : State → Outcome → Prop) : Prop := ∃ s₂ o, Steps tb e below t s₂ ∧ s₂.status = .running ∧ Ended s₂ below o ∧ G s₂ o
variable {tb : Tables} {e : Env} {below : List Frame} {t t' : State} {G : State → Outcome → Prop}
theorem Goes.by (k : ∀ u, Steps tb e below t' u → Steps tb e below t u) (h : Goes tb e below t' G) : Goes tb e below t G := by
  obtain ⟨s₂, o, h1, h2⟩ := h; exact ⟨s₂, o, k _ h1, h2⟩
theorem Goes.via (k : Steps tb e below t t') (h : Goes tb e below t' G) : Goes tb e below t G := by
  obtain ⟨s₂, o, h1, h2⟩ := h; exact ⟨s₂, o, k.trans h1, h2⟩
theorem jl_t {x y : Int64} (h : x < y) : ifCond.holds .lt (lcmpW x y) = true ∧ ifCond.holds .ge (lcmpW x y) = false := ⟨(if0 _ _).trans (tlt ((lw_lt x y).mpr h)).1, (if0 _ _).trans (tlt ((lw_lt x y).mpr h)).2.1⟩
theorem jl_f {x y : Int64} (h : ¬ x < y) : ifCond.holds .lt (lcmpW x y) = false ∧ ifCond.holds .ge (lcmpW x y) = true := ⟨(if0 _ _).trans (flt (fun q => h ((lw_lt x y).mp q))).1, (if0 _ _).trans (flt (fun q => h ((lw_lt x y).mp q))).2.1⟩
theorem jg_t {x y : Int64} (h : y < x) : ifCond.holds .gt (lcmpW x y) = true ∧ ifCond.holds .le (lcmpW x y) = false := ⟨(if0 _ _).trans (tlt ((lw_gt x y).mpr h)).2.2.1, (if0 _ _).trans (tlt ((lw_gt x y).mpr h)).2.2.2⟩
theorem jg_f {x y : Int64} (h : ¬ y < x) : ifCond.holds .gt (lcmpW x y) = false ∧ ifCond.holds .le (lcmpW x y) = true := ⟨(if0 _ _).trans (flt (fun q => h ((lw_gt x y).mp q))).2.2.1, (if0 _ _).trans (flt (fun q => h ((lw_gt x y).mp q))).2.2.2⟩
theorem je_t {x y : Int64} (h : x = y) : ifCond.holds .eq (lcmpW x y) = true ∧ ifCond.holds .ne (lcmpW x y) = false := ⟨(if0 _ _).trans (teq ((lw_eq x y).mpr h)).1, (if0 _ _).trans (teq ((lw_eq x y).mpr h)).2⟩
theorem je_f {x y : Int64} (h : ¬ x = y) : ifCond.holds .eq (lcmpW x y) = false ∧ ifCond.holds .ne (lcmpW x y) = true := ⟨(if0 _ _).trans (feq (fun q => h ((lw_eq x y).mp q))).1, (if0 _ _).trans (feq (fun q => h ((lw_eq x y).mp q))).2⟩
theorem selP {Z s : State} {a0 args : Array Value} {y : MethodName} {n : Nat} (hZ : Z.Warmed39 s.vm) (wi : (Cond.instantiable y.cls n).before a0 Z = true) (wp : (Cond.privateMethod y).before a0 Z = true) (win : (Cond.instanceMethod y).before a0 Z = true) (hy : y.cls ≠ "java/lang/invoke/MethodHandle" ∧ y.cls ≠ "java/lang/invoke/VarHandle") : (Cond.selects y.cls y y).before args s = true := by
  have w1 : (Cond.instantiable y.cls n).before args s = true := mv hZ wi
  obtain ⟨c, k, h1, h2, -, h4, -⟩ := Cond.instantiable_spec w1
  rw [Bool.or_eq_false_iff] at h4
  exact selects_self_of_private h1 h2 h4.1 (Cond.privateMethod_at (mvP hZ wp (args := args))) (mv hZ win) hy
theorem narR {t : FieldType} {w : Value} (h : t.isReference = true) : narrow t w = w := by cases t <;> first | (cases h; done) | (cases w <;> rfl)
end Jvm.Pilot.@@N@@.OwnKit
namespace Jvm.Pilot.@@N@@
open Jvm Jvm.ClassFile Sem Op Lib Jvm.Free Jvm.Stand Jvm.LawKit Jvm.RoadKit Bundle Jvm.Pilot.@@N@@.Jvm.D Jvm.Pilot.@@N@@.OwnKit
theorem d3_0 : decode jdk_30_method_1_code 0 = .ok (.aload_n 0, 1) := by decide +kernel
theorem d3_1 : decode jdk_30_method_1_code 1 = .ok (.invokespecial 1, 3) := by decide +kernel
theorem d3_4 : decode jdk_30_method_1_code 4 = .ok (.return_, 1) := by decide +kernel
theorem pn_0 : plainName "java/lang/Record" = true := by first | (simp [plainName, overriddenIn]; done) | decide +kernel
theorem ef3 (m : MethodId) (oa : Addr) : entryFrame m #[(.ref oa)] 1 = mkF m 0 #[.val (.ref oa)] [] := by first | (simp [entryFrame, mkF, argsToLocals, Value.category]; done) | rfl
def Q3 (Z : State) (oa : Addr) (h0 : Heap) (n0 : Nat) (v : Option Value) (h : Heap) (L : List Loc) : Prop := v = none ∧ Fr n0 L ∧ h = h0
set_option maxRecDepth 65536 in
set_option maxHeartbeats 40000000 in
theorem rm3 (l : Launch) (Z : State) (a0 : Array Value) (hw : ∀ d ∈ tables_1, d.before a0 Z = true) (ws : List Jvm.Cond) (oa : Addr) (h0 : Heap) (n0 : Nat) (Z0 : n0 ≤ h0.size) :
    MetFree l (⟨"java/lang/Record", "<init>", "()V"⟩ : MethodName) (head1 (Jvm.Cond.code (⟨"java/lang/Record", "<init>", "()V"⟩ : MethodName) jdk_30_method_1_code 1 none :: ws) ({ frames := 1, cells := 0, slots := 0, locals := 12 } : Room)) (fun a U => a = #[(.ref oa)] ∧ Z.Warmed39 U.vm ∧ U.heap = h0) (fun _ _ _ _ _ => True) (fun _ U o U' => ∃ v L, o = .returned v ∧ Q3 Z oa h0 n0 v U'.heap L ∧ FrameEnd U o U' L ({ frames := 1, cells := 0, slots := 0, locals := 12 } : Room).cells ({ frames := 1, cells := 0, slots := 0, locals := 12 } : Room).slots) := by
  refine MetFree.of_bodySF (plainFor_of_name pn_0) hisR ?_
  intro p e s m args below meth c s₁ Bd hml0 hP hK
  obtain ⟨rfl, hZ, hh⟩ := hP
  have hx := Bd.exec
  have hby := Bd.bytes
  have hml : c.maxLocals = 1 := hml0
  have hown : s.vm.findClass "java/lang/Record" = some m.cls := findClass_of_methodNamed Bd.named
  have hnm := (name_of_methodNamed Bd.named Bd.method).1
  have X0 : Stand p l e ({ frames := 1, cells := 0, slots := 0, locals := 12 } : Room) s m #[(.ref oa)] below meth c s₁ [] 0 0 := Stand.of_body Bd
  have e0 : s₁.heap = h0 := by rw [← hh, Bd.state]; rfl
  have N0 := Fr.nil n0
  refine Goes.by (fun _ k => castTop (ef3 m oa) k) ?_
  show Goes p.tables e below (s₁.setTop (mkF m 0 #[.val (.ref oa)] [])) _
  refine Goes.by (fun _ k => XS.aloadN X0.here hx rfl (hb hby d3_0) rfl rfl k) ?_
  show Goes p.tables e below (s₁.setTop (mkF m 1 #[.val (.ref oa)] [(.ref oa)])) _
  obtain ⟨T1, X1, e1, st1⟩ := initO X0 hx hZ hown (hw _ (List.mem_of_getElem? (i := 18) rfl)) (hw _ (List.mem_of_getElem? (i := 19) rfl)) (hw _ (List.mem_of_getElem? (i := 20) rfl)) e0 (g := (mkF m 1 #[.val (.ref oa)] [(.ref oa)])) rfl (by rw [hml]; rfl) rfl (hb hby d3_1) (by decide) (W := 0) (by show 2 * 0 + _ ≤ _; exact Nat.le_of_eq rfl) (by decide)
  refine Goes.by st1 ?_
  show Goes p.tables e below (T1.setTop (mkF m 4 #[.val (.ref oa)] [])) _
  obtain ⟨fs, hr, hrun, hended, hW, hsame⟩ := X1.leave (v := none) (fun _ => rfl)
  refine ⟨_, _, X1.returnOut hx Bd.returns (hb hby d3_4) hr, hrun, hended, _, _, rfl, ?_, ⟨_, rfl⟩, hW, hsame.mono (by decide) (by decide)⟩
  show Q3 Z oa h0 n0 _ T1.heap _
  rw [e1]
  exact ⟨rfl, N0, rfl⟩
theorem d1_0 : decode method_2_code 0 = .ok (.iload_n 1, 1) := by decide +kernel
theorem d1_1 : decode method_2_code 1 = .ok (.bipush 16, 2) := by decide +kernel
theorem d1_3 : decode method_2_code 3 = .ok (.ishl, 1) := by decide +kernel
theorem d1_4 : decode method_2_code 4 = .ok (.iload_n 2, 1) := by decide +kernel
theorem d1_5 : decode method_2_code 5 = .ok (.ior, 1) := by decide +kernel
theorem d1_6 : decode method_2_code 6 = .ok (.iload_n 0, 1) := by decide +kernel
theorem d1_7 : decode method_2_code 7 = .ok (.ldc 7, 2) := by decide +kernel
theorem d1_9 : decode method_2_code 9 = .ok (.imul, 1) := by decide +kernel
theorem d1_10 : decode method_2_code 10 = .ok (.ixor, 1) := by decide +kernel
theorem d1_11 : decode method_2_code 11 = .ok (.ireturn, 1) := by decide +kernel
def fn1 (pd : Int32) (pg : Int32) (pn : Int32) : Int32 := (((pg <<< ((16 : Int32) &&& 31)) ||| pn) ^^^ (pd * (-1640531527 : Int32)))
theorem pn_1 : plainName "castkey/card/KeyIdHashCodePinLaw" = true := by first | (simp [plainName, overriddenIn]; done) | decide +kernel
theorem ef1 (m : MethodId) (pd : Int32) (pg : Int32) (pn : Int32) : entryFrame m #[(.int pd), (.int pg), (.int pn)] 3 = mkF m 0 #[.val (.int pd), .val (.int pg), .val (.int pn)] [] := by first | (simp [entryFrame, mkF, argsToLocals, Value.category]; done) | rfl
def Q1 (Z : State) (pd : Int32) (pg : Int32) (pn : Int32) (h0 : Heap) (n0 : Nat) (v : Option Value) (h : Heap) (L : List Loc) : Prop := v = some (.int (fn1 pd pg pn)) ∧ Fr n0 L ∧ h = h0
set_option maxRecDepth 65536 in
set_option maxHeartbeats 40000000 in
theorem rm1 (l : Launch) (Z : State) (a0 : Array Value) (hw : ∀ d ∈ tables_1, d.before a0 Z = true) (ws : List Jvm.Cond) (pd : Int32) (pg : Int32) (pn : Int32) (h0 : Heap) (n0 : Nat) (Z0 : n0 ≤ h0.size) :
    MetFree l (⟨"castkey/card/KeyIdHashCodePinLaw", "pre", "(III)I"⟩ : MethodName) (head1 (Jvm.Cond.code (⟨"castkey/card/KeyIdHashCodePinLaw", "pre", "(III)I"⟩ : MethodName) method_2_code 3 (some .int) :: ws) ({ frames := 0, cells := 0, slots := 0, locals := 0 } : Room)) (fun a U => a = #[(.int pd), (.int pg), (.int pn)] ∧ Z.Warmed39 U.vm ∧ U.heap = h0) (fun _ _ _ _ _ => True) (fun _ U o U' => ∃ v L, o = .returned v ∧ Q1 Z pd pg pn h0 n0 v U'.heap L ∧ FrameEnd U o U' L ({ frames := 0, cells := 0, slots := 0, locals := 0 } : Room).cells ({ frames := 0, cells := 0, slots := 0, locals := 0 } : Room).slots) := by
  refine MetFree.of_bodySF (plainFor_of_name pn_1) hisR ?_
  intro p e s m args below meth c s₁ Bd hml0 hP hK
  obtain ⟨rfl, hZ, hh⟩ := hP
  have hx := Bd.exec
  have hby := Bd.bytes
  have hml : c.maxLocals = 3 := hml0
  have hown : s.vm.findClass "castkey/card/KeyIdHashCodePinLaw" = some m.cls := findClass_of_methodNamed Bd.named
  have hnm := (name_of_methodNamed Bd.named Bd.method).1
  have X0 : Stand p l e ({ frames := 0, cells := 0, slots := 0, locals := 0 } : Room) s m #[(.int pd), (.int pg), (.int pn)] below meth c s₁ [] 0 0 := Stand.of_body Bd
  have e0 : s₁.heap = h0 := by rw [← hh, Bd.state]; rfl
  have N0 := Fr.nil n0
  refine Goes.by (fun _ k => castTop (ef1 m pd pg pn) k) ?_
  show Goes p.tables e below (s₁.setTop (mkF m 0 #[.val (.int pd), .val (.int pg), .val (.int pn)] [])) _
  refine Goes.by (fun _ k => XS.iloadN X0.here hx rfl (hb hby d1_0) rfl k) ?_
  show Goes p.tables e below (s₁.setTop (mkF m 1 #[.val (.int pd), .val (.int pg), .val (.int pn)] [(.int pg)])) _
  refine Goes.by (fun _ k => XS.bipush X0.here hx rfl (hb hby d1_1) k) ?_
  show Goes p.tables e below (s₁.setTop (mkF m 3 #[.val (.int pd), .val (.int pg), .val (.int pn)] [(.int (16 : Int32)), (.int pg)])) _
  refine Goes.by (fun _ k => XS.ishl X0.here hx rfl (hb hby d1_3) rfl k) ?_
  show Goes p.tables e below (s₁.setTop (mkF m 4 #[.val (.int pd), .val (.int pg), .val (.int pn)] [(.int (pg <<< ((16 : Int32) &&& 31)))])) _
  refine Goes.by (fun _ k => XS.iloadN X0.here hx rfl (hb hby d1_4) rfl k) ?_
  show Goes p.tables e below (s₁.setTop (mkF m 5 #[.val (.int pd), .val (.int pg), .val (.int pn)] [(.int pn), (.int (pg <<< ((16 : Int32) &&& 31)))])) _
  refine Goes.by (fun _ k => XS.ior X0.here hx rfl (hb hby d1_5) rfl k) ?_
  show Goes p.tables e below (s₁.setTop (mkF m 6 #[.val (.int pd), .val (.int pg), .val (.int pn)] [(.int ((pg <<< ((16 : Int32) &&& 31)) ||| pn))])) _
  refine Goes.by (fun _ k => XS.iloadN X0.here hx rfl (hb hby d1_6) rfl k) ?_
  show Goes p.tables e below (s₁.setTop (mkF m 7 #[.val (.int pd), .val (.int pg), .val (.int pn)] [(.int pd), (.int ((pg <<< ((16 : Int32) &&& 31)) ||| pn))])) _
  refine Goes.by (fun _ k => X0.ldcI hx hown (mvT hZ (hw _ (List.mem_of_getElem? (i := 6) rfl))) (g := (mkF m 7 #[.val (.int pd), .val (.int pg), .val (.int pn)] [(.int pd), (.int ((pg <<< ((16 : Int32) &&& 31)) ||| pn))])) rfl (hb hby d1_7) k) ?_
  show Goes p.tables e below (s₁.setTop (mkF m 9 #[.val (.int pd), .val (.int pg), .val (.int pn)] [(.int (-1640531527 : Int32)), (.int pd), (.int ((pg <<< ((16 : Int32) &&& 31)) ||| pn))])) _
  refine Goes.by (fun _ k => XS.imul X0.here hx rfl (hb hby d1_9) rfl k) ?_
  show Goes p.tables e below (s₁.setTop (mkF m 10 #[.val (.int pd), .val (.int pg), .val (.int pn)] [(.int (pd * (-1640531527 : Int32))), (.int ((pg <<< ((16 : Int32) &&& 31)) ||| pn))])) _
  refine Goes.by (fun _ k => XS.ixor X0.here hx rfl (hb hby d1_10) rfl k) ?_
  show Goes p.tables e below (s₁.setTop (mkF m 11 #[.val (.int pd), .val (.int pg), .val (.int pn)] [(.int (((pg <<< ((16 : Int32) &&& 31)) ||| pn) ^^^ (pd * (-1640531527 : Int32))))])) _
  obtain ⟨fs, hr, hrun, hended, hW, hsame⟩ := X0.leave (v := some (.int (((pg <<< ((16 : Int32) &&& 31)) ||| pn) ^^^ (pd * (-1640531527 : Int32))))) (fun h => by rw [Bd.returns] at h; cases h)
  refine ⟨_, _, retI X0 hx Bd.returns (hb hby d1_11) hr, hrun, hended, _, _, rfl, ?_, ⟨_, rfl⟩, hW, hsame.mono (by decide) (by decide)⟩
  show Q1 Z pd pg pn h0 n0 _ s₁.heap _
  rw [e0]
  exact ⟨rfl, N0, rfl⟩
theorem d2_0 : decode prog_9_method_1_code 0 = .ok (.aload_n 0, 1) := by decide +kernel
theorem d2_1 : decode prog_9_method_1_code 1 = .ok (.invokespecial 1, 3) := by decide +kernel
theorem pd_0 : parseMethodDescriptor "()V" = some ⟨[], none⟩ := by decide +kernel
theorem d2_4 : decode prog_9_method_1_code 4 = .ok (.iload_n 1, 1) := by decide +kernel
theorem d2_5 : decode prog_9_method_1_code 5 = .ok (.ifCond .lt 29, 3) := by decide +kernel
theorem d2_8 : decode prog_9_method_1_code 8 = .ok (.iload_n 1, 1) := by decide +kernel
theorem d2_9 : decode prog_9_method_1_code 9 = .ok (.ldc 7, 2) := by decide +kernel
theorem d2_11 : decode prog_9_method_1_code 11 = .ok (.if_icmp .gt 23, 3) := by decide +kernel
theorem d2_14 : decode prog_9_method_1_code 14 = .ok (.iload_n 2, 1) := by decide +kernel
theorem d2_15 : decode prog_9_method_1_code 15 = .ok (.ifCond .lt 19, 3) := by decide +kernel
theorem d2_18 : decode prog_9_method_1_code 18 = .ok (.iload_n 2, 1) := by decide +kernel
theorem d2_19 : decode prog_9_method_1_code 19 = .ok (.ldc 8, 2) := by decide +kernel
theorem d2_21 : decode prog_9_method_1_code 21 = .ok (.if_icmp .gt 13, 3) := by decide +kernel
theorem d2_24 : decode prog_9_method_1_code 24 = .ok (.iload_n 3, 1) := by decide +kernel
theorem d2_25 : decode prog_9_method_1_code 25 = .ok (.ifCond .lt 9, 3) := by decide +kernel
theorem d2_28 : decode prog_9_method_1_code 28 = .ok (.iload_n 3, 1) := by decide +kernel
theorem d2_29 : decode prog_9_method_1_code 29 = .ok (.ldc 8, 2) := by decide +kernel
theorem d2_31 : decode prog_9_method_1_code 31 = .ok (.if_icmp .le 13, 3) := by decide +kernel
theorem d2_44 : decode prog_9_method_1_code 44 = .ok (.aload_n 0, 1) := by decide +kernel
theorem d2_45 : decode prog_9_method_1_code 45 = .ok (.iload_n 1, 1) := by decide +kernel
theorem d2_46 : decode prog_9_method_1_code 46 = .ok (.putfield 16, 3) := by decide +kernel
theorem d2_49 : decode prog_9_method_1_code 49 = .ok (.aload_n 0, 1) := by decide +kernel
theorem d2_50 : decode prog_9_method_1_code 50 = .ok (.iload_n 2, 1) := by decide +kernel
theorem d2_51 : decode prog_9_method_1_code 51 = .ok (.putfield 22, 3) := by decide +kernel
theorem d2_54 : decode prog_9_method_1_code 54 = .ok (.aload_n 0, 1) := by decide +kernel
theorem d2_55 : decode prog_9_method_1_code 55 = .ok (.iload_n 3, 1) := by decide +kernel
theorem d2_56 : decode prog_9_method_1_code 56 = .ok (.putfield 25, 3) := by decide +kernel
theorem d2_59 : decode prog_9_method_1_code 59 = .ok (.return_, 1) := by decide +kernel
theorem pn_2 : plainName "castkey/card/KeyId" = true := by first | (simp [plainName, overriddenIn]; done) | decide +kernel
theorem ef2 (m : MethodId) (oa : Addr) (pd : Int32) (pg : Int32) (pn : Int32) : entryFrame m #[(.ref oa), (.int pd), (.int pg), (.int pn)] 4 = mkF m 0 #[.val (.ref oa), .val (.int pd), .val (.int pg), .val (.int pn)] [] := by first | (simp [entryFrame, mkF, argsToLocals, Value.category]; done) | rfl
def Q2 (Z : State) (oa : Addr) (pd : Int32) (pg : Int32) (pn : Int32) (h0 : Heap) (n0 : Nat) (v : Option Value) (h : Heap) (L : List Loc) : Prop := v = none ∧ Fr n0 L ∧ Keep h0 h [oa] ∧ Exa Z h oa "castkey/card/KeyId" ∧ Fld Z h oa "castkey/card/KeyId" "keyDomainId" "I" (.int pd) ∧ Fld Z h oa "castkey/card/KeyId" "keyGroup" "I" (.int pg) ∧ Fld Z h oa "castkey/card/KeyId" "keyNumber" "I" (.int pn)
set_option maxRecDepth 65536 in
set_option maxHeartbeats 40000000 in
theorem rm2 (l : Launch) (Z : State) (a0 : Array Value) (hw : ∀ d ∈ tables_1, d.before a0 Z = true) (ws : List Jvm.Cond) (oa : Addr) (pd : Int32) (pg : Int32) (pn : Int32) (h0 : Heap) (n0 : Nat) (Z0 : n0 ≤ h0.size) (E_oa : Exa Z h0 oa "castkey/card/KeyId") (F_oa_keyDomainId : Fld Z h0 oa "castkey/card/KeyId" "keyDomainId" "I" (.int (0 : Int32))) (F_oa_keyGroup : Fld Z h0 oa "castkey/card/KeyId" "keyGroup" "I" (.int (0 : Int32))) (F_oa_keyNumber : Fld Z h0 oa "castkey/card/KeyId" "keyNumber" "I" (.int (0 : Int32))) (g_oa : n0 ≤ oa) (hd0 : ¬ (pd < (0 : Int32))) (hd1 : ¬ ((16777215 : Int32) < pd)) (hg0 : ¬ (pg < (0 : Int32))) (hg1 : ¬ ((65535 : Int32) < pg)) (hn0 : ¬ (pn < (0 : Int32))) (hn1 : ¬ ((65535 : Int32) < pn)) :
    MetFree l (⟨"castkey/card/KeyId", "<init>", "(III)V"⟩ : MethodName) (head1 (Jvm.Cond.code (⟨"castkey/card/KeyId", "<init>", "(III)V"⟩ : MethodName) prog_9_method_1_code 4 none :: ws) ({ frames := 2, cells := 0, slots := 0, locals := 24 } : Room)) (fun a U => a = #[(.ref oa), (.int pd), (.int pg), (.int pn)] ∧ Z.Warmed39 U.vm ∧ U.heap = h0) (fun _ _ _ _ _ => True) (fun _ U o U' => ∃ v L, o = .returned v ∧ Q2 Z oa pd pg pn h0 n0 v U'.heap L ∧ FrameEnd U o U' L ({ frames := 2, cells := 0, slots := 0, locals := 24 } : Room).cells ({ frames := 2, cells := 0, slots := 0, locals := 24 } : Room).slots) := by
  refine MetFree.of_bodySF (plainFor_of_name pn_2) hisR ?_
  intro p e s m args below meth c s₁ Bd hml0 hP hK
  obtain ⟨rfl, hZ, hh⟩ := hP
  have hx := Bd.exec
  have hby := Bd.bytes
  have hml : c.maxLocals = 4 := hml0
  have hown : s.vm.findClass "castkey/card/KeyId" = some m.cls := findClass_of_methodNamed Bd.named
  have hnm := (name_of_methodNamed Bd.named Bd.method).1
  have X0 : Stand p l e ({ frames := 2, cells := 0, slots := 0, locals := 24 } : Room) s m #[(.ref oa), (.int pd), (.int pg), (.int pn)] below meth c s₁ [] 0 0 := Stand.of_body Bd
  have e0 : s₁.heap = h0 := by rw [← hh, Bd.state]; rfl
  have N0 := Fr.nil n0
  refine Goes.by (fun _ k => castTop (ef2 m oa pd pg pn) k) ?_
  show Goes p.tables e below (s₁.setTop (mkF m 0 #[.val (.ref oa), .val (.int pd), .val (.int pg), .val (.int pn)] [])) _
  refine Goes.by (fun _ k => XS.aloadN X0.here hx rfl (hb hby d2_0) rfl rfl k) ?_
  show Goes p.tables e below (s₁.setTop (mkF m 1 #[.val (.ref oa), .val (.int pd), .val (.int pg), .val (.int pn)] [(.ref oa)])) _
  obtain ⟨_, _, ⟨T1, L1, k1, n1⟩, -, X1, ⟨Lc1, hQ1, l1, y1, z1⟩, st1⟩ := X0.specialBack hx (y := (⟨"java/lang/Record", "<init>", "()V"⟩ : MethodName)) rfl hown (mvT hZ (hw _ (List.mem_of_getElem? (i := 13) rfl))) (mvT hZ (hw _ (List.mem_of_getElem? (i := 14) rfl))) (mvT hZ (hw _ (List.mem_of_getElem? (i := 17) rfl))) (by decide) (backOf (W := 0) (rm3 l Z a0 hw [] oa h0 n0 Z0) hZ (hw _ (List.mem_of_getElem? (i := 17) rfl)) (hw _ (List.mem_of_getElem? (i := 16) rfl)) (by decide) (by decide)) (g := (mkF m 1 #[.val (.ref oa), .val (.int pd), .val (.int pg), .val (.int pn)] [(.ref oa)])) rfl (by rw [hml]; rfl) (Steps.refl _) (a := oa) (argsL := []) (rest := []) (lenOf pd_0 rfl) rfl (by show 2 * 0 + _ ≤ _; exact Nat.le_of_eq rfl) (hb hby d2_1) (fun _ _ => ⟨rfl, e0, (by decide : 0 + 0 ≤ _), (by decide : 0 + 0 ≤ _)⟩)
  dsimp only [Pt.U, Pt.locs, Pt.cells, Pt.slots] at X1 l1 y1 z1 st1 hQ1
  subst l1 y1 z1
  obtain ⟨rfl, N1q, e1⟩ := hQ1
  have N1 := Fr.app N0 N1q
  refine Goes.via st1 ?_
  show Goes p.tables e below (T1.setTop (mkF m 4 #[.val (.ref oa), .val (.int pd), .val (.int pg), .val (.int pn)] [])) _
  refine Goes.by (fun _ k => XS.iloadN X1.here hx rfl (hb hby d2_4) rfl k) ?_
  show Goes p.tables e below (T1.setTop (mkF m 5 #[.val (.ref oa), .val (.int pd), .val (.int pg), .val (.int pn)] [(.int pd)])) _
  refine Goes.by (fun _ k => XS.ifNo X1.here hx rfl (hb hby d2_5) rfl ((if0 _ _).trans (flt (hd0 : ¬ (pd < (0 : Int32)))).1) k) ?_
  show Goes p.tables e below (T1.setTop (mkF m 8 #[.val (.ref oa), .val (.int pd), .val (.int pg), .val (.int pn)] [])) _
  refine Goes.by (fun _ k => XS.iloadN X1.here hx rfl (hb hby d2_8) rfl k) ?_
  show Goes p.tables e below (T1.setTop (mkF m 9 #[.val (.ref oa), .val (.int pd), .val (.int pg), .val (.int pn)] [(.int pd)])) _
  refine Goes.by (fun _ k => X1.ldcI hx hown (mvT hZ (hw _ (List.mem_of_getElem? (i := 21) rfl))) (g := (mkF m 9 #[.val (.ref oa), .val (.int pd), .val (.int pg), .val (.int pn)] [(.int pd)])) rfl (hb hby d2_9) k) ?_
  show Goes p.tables e below (T1.setTop (mkF m 11 #[.val (.ref oa), .val (.int pd), .val (.int pg), .val (.int pn)] [(.int (16777215 : Int32)), (.int pd)])) _
  refine Goes.by (fun _ k => XS.icmpNo X1.here hx rfl (hb hby d2_11) rfl (flt (hd1 : ¬ ((16777215 : Int32) < pd))).2.2.1 k) ?_
  show Goes p.tables e below (T1.setTop (mkF m 14 #[.val (.ref oa), .val (.int pd), .val (.int pg), .val (.int pn)] [])) _
  refine Goes.by (fun _ k => XS.iloadN X1.here hx rfl (hb hby d2_14) rfl k) ?_
  show Goes p.tables e below (T1.setTop (mkF m 15 #[.val (.ref oa), .val (.int pd), .val (.int pg), .val (.int pn)] [(.int pg)])) _
  refine Goes.by (fun _ k => XS.ifNo X1.here hx rfl (hb hby d2_15) rfl ((if0 _ _).trans (flt (hg0 : ¬ (pg < (0 : Int32)))).1) k) ?_
  show Goes p.tables e below (T1.setTop (mkF m 18 #[.val (.ref oa), .val (.int pd), .val (.int pg), .val (.int pn)] [])) _
  refine Goes.by (fun _ k => XS.iloadN X1.here hx rfl (hb hby d2_18) rfl k) ?_
  show Goes p.tables e below (T1.setTop (mkF m 19 #[.val (.ref oa), .val (.int pd), .val (.int pg), .val (.int pn)] [(.int pg)])) _
  refine Goes.by (fun _ k => X1.ldcI hx hown (mvT hZ (hw _ (List.mem_of_getElem? (i := 22) rfl))) (g := (mkF m 19 #[.val (.ref oa), .val (.int pd), .val (.int pg), .val (.int pn)] [(.int pg)])) rfl (hb hby d2_19) k) ?_
  show Goes p.tables e below (T1.setTop (mkF m 21 #[.val (.ref oa), .val (.int pd), .val (.int pg), .val (.int pn)] [(.int (65535 : Int32)), (.int pg)])) _
  refine Goes.by (fun _ k => XS.icmpNo X1.here hx rfl (hb hby d2_21) rfl (flt (hg1 : ¬ ((65535 : Int32) < pg))).2.2.1 k) ?_
  show Goes p.tables e below (T1.setTop (mkF m 24 #[.val (.ref oa), .val (.int pd), .val (.int pg), .val (.int pn)] [])) _
  refine Goes.by (fun _ k => XS.iloadN X1.here hx rfl (hb hby d2_24) rfl k) ?_
  show Goes p.tables e below (T1.setTop (mkF m 25 #[.val (.ref oa), .val (.int pd), .val (.int pg), .val (.int pn)] [(.int pn)])) _
  refine Goes.by (fun _ k => XS.ifNo X1.here hx rfl (hb hby d2_25) rfl ((if0 _ _).trans (flt (hn0 : ¬ (pn < (0 : Int32)))).1) k) ?_
  show Goes p.tables e below (T1.setTop (mkF m 28 #[.val (.ref oa), .val (.int pd), .val (.int pg), .val (.int pn)] [])) _
  refine Goes.by (fun _ k => XS.iloadN X1.here hx rfl (hb hby d2_28) rfl k) ?_
  show Goes p.tables e below (T1.setTop (mkF m 29 #[.val (.ref oa), .val (.int pd), .val (.int pg), .val (.int pn)] [(.int pn)])) _
  refine Goes.by (fun _ k => X1.ldcI hx hown (mvT hZ (hw _ (List.mem_of_getElem? (i := 22) rfl))) (g := (mkF m 29 #[.val (.ref oa), .val (.int pd), .val (.int pg), .val (.int pn)] [(.int pn)])) rfl (hb hby d2_29) k) ?_
  show Goes p.tables e below (T1.setTop (mkF m 31 #[.val (.ref oa), .val (.int pd), .val (.int pg), .val (.int pn)] [(.int (65535 : Int32)), (.int pn)])) _
  refine Goes.by (fun _ k => XS.icmpYes X1.here hx rfl (pc0 := 31) (pc' := 44) rfl (hb hby d2_31) rfl (flt (hn1 : ¬ ((65535 : Int32) < pn))).2.2.2 (by decide) (by decide) k) ?_
  show Goes p.tables e below (T1.setTop (mkF m 44 #[.val (.ref oa), .val (.int pd), .val (.int pg), .val (.int pn)] [])) _
  refine Goes.by (fun _ k => XS.aloadN X1.here hx rfl (hb hby d2_44) rfl rfl k) ?_
  show Goes p.tables e below (T1.setTop (mkF m 45 #[.val (.ref oa), .val (.int pd), .val (.int pg), .val (.int pn)] [(.ref oa)])) _
  refine Goes.by (fun _ k => XS.iloadN X1.here hx rfl (hb hby d2_45) rfl k) ?_
  show Goes p.tables e below (T1.setTop (mkF m 46 #[.val (.ref oa), .val (.int pd), .val (.int pg), .val (.int pn)] [(.int pd), (.ref oa)])) _
  obtain ⟨T2, h2, X2, e2, W2, st2⟩ := putF X1 hx hZ hown (host := "") (Or.inl (hw _ (List.mem_of_getElem? (i := 23) rfl))) Via.refl e1 F_oa_keyDomainId E_oa (Or.inr ⟨(hw _ (List.mem_of_getElem? (i := 24) rfl)), rfl, hnm⟩) (hw _ (List.mem_of_getElem? (i := 8) rfl)) (ty := .int) (by decide) rfl rfl (g := (mkF m 46 #[.val (.ref oa), .val (.int pd), .val (.int pg), .val (.int pn)] [(.int pd), (.ref oa)])) rfl rfl (hb hby d2_46)
  refine Goes.by st2 ?_
  have F_oa_keyDomainId : Fld Z h2 oa "castkey/card/KeyId" "keyDomainId" "I" (.int pd) := F_oa_keyDomainId.same W2
  have N2 := Fr.snoc X2 N1 g_oa
  have Zs2 : n0 ≤ h2.size := Nat.le_trans Z0 (Keep.of_wr W2).1
  have K2 : Keep h0 h2 [oa] := (Keep.refl h0 [oa]).wr W2 (Or.inl (List.mem_of_getElem? (i := 0) rfl))
  have E_oa : Exa Z h2 oa "castkey/card/KeyId" := E_oa.wr W2
  have F_oa_keyGroup : Fld Z h2 oa "castkey/card/KeyId" "keyGroup" "I" (.int (0 : Int32)) := F_oa_keyGroup.other W2 (Or.inr (slot_ne (Or.inr (hw _ (List.mem_of_getElem? (i := 26) rfl))) (Or.inr (hw _ (List.mem_of_getElem? (i := 24) rfl))) (by decide) (t := .int) (t' := .int) (by decide) (by decide)))
  have F_oa_keyNumber : Fld Z h2 oa "castkey/card/KeyId" "keyNumber" "I" (.int (0 : Int32)) := F_oa_keyNumber.other W2 (Or.inr (slot_ne (Or.inr (hw _ (List.mem_of_getElem? (i := 28) rfl))) (Or.inr (hw _ (List.mem_of_getElem? (i := 24) rfl))) (by decide) (t := .int) (t' := .int) (by decide) (by decide)))
  show Goes p.tables e below (T2.setTop (mkF m 49 #[.val (.ref oa), .val (.int pd), .val (.int pg), .val (.int pn)] [])) _
  refine Goes.by (fun _ k => XS.aloadN X2.here hx rfl (hb hby d2_49) rfl rfl k) ?_
  show Goes p.tables e below (T2.setTop (mkF m 50 #[.val (.ref oa), .val (.int pd), .val (.int pg), .val (.int pn)] [(.ref oa)])) _
  refine Goes.by (fun _ k => XS.iloadN X2.here hx rfl (hb hby d2_50) rfl k) ?_
  show Goes p.tables e below (T2.setTop (mkF m 51 #[.val (.ref oa), .val (.int pd), .val (.int pg), .val (.int pn)] [(.int pg), (.ref oa)])) _
  obtain ⟨T3, h3, X3, e3, W3, st3⟩ := putF X2 hx hZ hown (host := "") (Or.inl (hw _ (List.mem_of_getElem? (i := 25) rfl))) Via.refl e2 F_oa_keyGroup E_oa (Or.inr ⟨(hw _ (List.mem_of_getElem? (i := 26) rfl)), rfl, hnm⟩) (hw _ (List.mem_of_getElem? (i := 8) rfl)) (ty := .int) (by decide) rfl rfl (g := (mkF m 51 #[.val (.ref oa), .val (.int pd), .val (.int pg), .val (.int pn)] [(.int pg), (.ref oa)])) rfl rfl (hb hby d2_51)
  refine Goes.by st3 ?_
  have F_oa_keyGroup : Fld Z h3 oa "castkey/card/KeyId" "keyGroup" "I" (.int pg) := F_oa_keyGroup.same W3
  have N3 := Fr.snoc X3 N2 g_oa
  have Zs3 : n0 ≤ h3.size := Nat.le_trans Zs2 (Keep.of_wr W3).1
  have K3 : Keep h0 h3 [oa] := K2.wr W3 (Or.inl (List.mem_of_getElem? (i := 0) rfl))
  have E_oa : Exa Z h3 oa "castkey/card/KeyId" := E_oa.wr W3
  have F_oa_keyDomainId : Fld Z h3 oa "castkey/card/KeyId" "keyDomainId" "I" (.int pd) := F_oa_keyDomainId.other W3 (Or.inr (slot_ne (Or.inr (hw _ (List.mem_of_getElem? (i := 24) rfl))) (Or.inr (hw _ (List.mem_of_getElem? (i := 26) rfl))) (by decide) (t := .int) (t' := .int) (by decide) (by decide)))
  have F_oa_keyNumber : Fld Z h3 oa "castkey/card/KeyId" "keyNumber" "I" (.int (0 : Int32)) := F_oa_keyNumber.other W3 (Or.inr (slot_ne (Or.inr (hw _ (List.mem_of_getElem? (i := 28) rfl))) (Or.inr (hw _ (List.mem_of_getElem? (i := 26) rfl))) (by decide) (t := .int) (t' := .int) (by decide) (by decide)))
  show Goes p.tables e below (T3.setTop (mkF m 54 #[.val (.ref oa), .val (.int pd), .val (.int pg), .val (.int pn)] [])) _
  refine Goes.by (fun _ k => XS.aloadN X3.here hx rfl (hb hby d2_54) rfl rfl k) ?_
  show Goes p.tables e below (T3.setTop (mkF m 55 #[.val (.ref oa), .val (.int pd), .val (.int pg), .val (.int pn)] [(.ref oa)])) _
  refine Goes.by (fun _ k => XS.iloadN X3.here hx rfl (hb hby d2_55) rfl k) ?_
  show Goes p.tables e below (T3.setTop (mkF m 56 #[.val (.ref oa), .val (.int pd), .val (.int pg), .val (.int pn)] [(.int pn), (.ref oa)])) _
  obtain ⟨T4, h4, X4, e4, W4, st4⟩ := putF X3 hx hZ hown (host := "") (Or.inl (hw _ (List.mem_of_getElem? (i := 27) rfl))) Via.refl e3 F_oa_keyNumber E_oa (Or.inr ⟨(hw _ (List.mem_of_getElem? (i := 28) rfl)), rfl, hnm⟩) (hw _ (List.mem_of_getElem? (i := 8) rfl)) (ty := .int) (by decide) rfl rfl (g := (mkF m 56 #[.val (.ref oa), .val (.int pd), .val (.int pg), .val (.int pn)] [(.int pn), (.ref oa)])) rfl rfl (hb hby d2_56)
  refine Goes.by st4 ?_
  have F_oa_keyNumber : Fld Z h4 oa "castkey/card/KeyId" "keyNumber" "I" (.int pn) := F_oa_keyNumber.same W4
  have N4 := Fr.snoc X4 N3 g_oa
  have Zs4 : n0 ≤ h4.size := Nat.le_trans Zs3 (Keep.of_wr W4).1
  have K4 : Keep h0 h4 [oa] := K3.wr W4 (Or.inl (List.mem_of_getElem? (i := 0) rfl))
  have E_oa : Exa Z h4 oa "castkey/card/KeyId" := E_oa.wr W4
  have F_oa_keyDomainId : Fld Z h4 oa "castkey/card/KeyId" "keyDomainId" "I" (.int pd) := F_oa_keyDomainId.other W4 (Or.inr (slot_ne (Or.inr (hw _ (List.mem_of_getElem? (i := 24) rfl))) (Or.inr (hw _ (List.mem_of_getElem? (i := 28) rfl))) (by decide) (t := .int) (t' := .int) (by decide) (by decide)))
  have F_oa_keyGroup : Fld Z h4 oa "castkey/card/KeyId" "keyGroup" "I" (.int pg) := F_oa_keyGroup.other W4 (Or.inr (slot_ne (Or.inr (hw _ (List.mem_of_getElem? (i := 26) rfl))) (Or.inr (hw _ (List.mem_of_getElem? (i := 28) rfl))) (by decide) (t := .int) (t' := .int) (by decide) (by decide)))
  show Goes p.tables e below (T4.setTop (mkF m 59 #[.val (.ref oa), .val (.int pd), .val (.int pg), .val (.int pn)] [])) _
  obtain ⟨fs, hr, hrun, hended, hW, hsame⟩ := X4.leave (v := none) (fun _ => rfl)
  refine ⟨_, _, X4.returnOut hx Bd.returns (hb hby d2_59) hr, hrun, hended, _, _, rfl, ?_, ⟨_, rfl⟩, hW, hsame.mono (by decide) (by decide)⟩
  show Q2 Z oa pd pg pn h0 n0 _ T4.heap _
  rw [e4]
  exact ⟨rfl, N4, K4, E_oa, F_oa_keyDomainId, F_oa_keyGroup, F_oa_keyNumber⟩
def own_xs16 (x : Int32) : Int32 := x ^^^ ((x.toUInt32 >>> ((16 : Int32) &&& 31).toUInt32).toInt32)
def own_xs13 (x : Int32) : Int32 := x ^^^ ((x.toUInt32 >>> ((13 : Int32) &&& 31).toUInt32).toInt32)
def own_mix (x : Int32) : Int32 := own_xs16 (own_xs13 (own_xs16 x * (-2048144789 : Int32)) * (-1028477387 : Int32))
def own_hash (d g n : Int32) : Int32 := own_mix (fn1 d g n)
theorem d5_0 : decode prog_9_method_4_code 0 = .ok (.aload_n 0, 1) := by decide +kernel
theorem d5_1 : decode prog_9_method_4_code 1 = .ok (.getfield 22, 3) := by decide +kernel
theorem d5_4 : decode prog_9_method_4_code 4 = .ok (.bipush 16, 2) := by decide +kernel
theorem d5_6 : decode prog_9_method_4_code 6 = .ok (.ishl, 1) := by decide +kernel
theorem d5_7 : decode prog_9_method_4_code 7 = .ok (.aload_n 0, 1) := by decide +kernel
theorem d5_8 : decode prog_9_method_4_code 8 = .ok (.getfield 25, 3) := by decide +kernel
theorem d5_11 : decode prog_9_method_4_code 11 = .ok (.ior, 1) := by decide +kernel
theorem d5_12 : decode prog_9_method_4_code 12 = .ok (.istore_n 1, 1) := by decide +kernel
theorem d5_13 : decode prog_9_method_4_code 13 = .ok (.iload_n 1, 1) := by decide +kernel
theorem d5_14 : decode prog_9_method_4_code 14 = .ok (.aload_n 0, 1) := by decide +kernel
theorem d5_15 : decode prog_9_method_4_code 15 = .ok (.getfield 16, 3) := by decide +kernel
theorem d5_18 : decode prog_9_method_4_code 18 = .ok (.ldc 35, 2) := by decide +kernel
theorem d5_20 : decode prog_9_method_4_code 20 = .ok (.imul, 1) := by decide +kernel
theorem d5_21 : decode prog_9_method_4_code 21 = .ok (.ixor, 1) := by decide +kernel
theorem d5_22 : decode prog_9_method_4_code 22 = .ok (.istore_n 1, 1) := by decide +kernel
theorem d5_23 : decode prog_9_method_4_code 23 = .ok (.iload_n 1, 1) := by decide +kernel
theorem d5_24 : decode prog_9_method_4_code 24 = .ok (.iload_n 1, 1) := by decide +kernel
theorem d5_25 : decode prog_9_method_4_code 25 = .ok (.bipush 16, 2) := by decide +kernel
theorem d5_27 : decode prog_9_method_4_code 27 = .ok (.iushr, 1) := by decide +kernel
theorem d5_28 : decode prog_9_method_4_code 28 = .ok (.ixor, 1) := by decide +kernel
theorem d5_29 : decode prog_9_method_4_code 29 = .ok (.istore_n 1, 1) := by decide +kernel
theorem d5_30 : decode prog_9_method_4_code 30 = .ok (.iload_n 1, 1) := by decide +kernel
theorem d5_31 : decode prog_9_method_4_code 31 = .ok (.ldc 36, 2) := by decide +kernel
theorem d5_33 : decode prog_9_method_4_code 33 = .ok (.imul, 1) := by decide +kernel
theorem d5_34 : decode prog_9_method_4_code 34 = .ok (.istore_n 1, 1) := by decide +kernel
theorem d5_35 : decode prog_9_method_4_code 35 = .ok (.iload_n 1, 1) := by decide +kernel
theorem d5_36 : decode prog_9_method_4_code 36 = .ok (.iload_n 1, 1) := by decide +kernel
theorem d5_37 : decode prog_9_method_4_code 37 = .ok (.bipush 13, 2) := by decide +kernel
theorem d5_39 : decode prog_9_method_4_code 39 = .ok (.iushr, 1) := by decide +kernel
theorem d5_40 : decode prog_9_method_4_code 40 = .ok (.ixor, 1) := by decide +kernel
theorem d5_41 : decode prog_9_method_4_code 41 = .ok (.istore_n 1, 1) := by decide +kernel
theorem d5_42 : decode prog_9_method_4_code 42 = .ok (.iload_n 1, 1) := by decide +kernel
theorem d5_43 : decode prog_9_method_4_code 43 = .ok (.ldc 37, 2) := by decide +kernel
theorem d5_45 : decode prog_9_method_4_code 45 = .ok (.imul, 1) := by decide +kernel
theorem d5_46 : decode prog_9_method_4_code 46 = .ok (.istore_n 1, 1) := by decide +kernel
theorem d5_47 : decode prog_9_method_4_code 47 = .ok (.iload_n 1, 1) := by decide +kernel
theorem d5_48 : decode prog_9_method_4_code 48 = .ok (.iload_n 1, 1) := by decide +kernel
theorem d5_49 : decode prog_9_method_4_code 49 = .ok (.bipush 16, 2) := by decide +kernel
theorem d5_51 : decode prog_9_method_4_code 51 = .ok (.iushr, 1) := by decide +kernel
theorem d5_52 : decode prog_9_method_4_code 52 = .ok (.ixor, 1) := by decide +kernel
theorem d5_53 : decode prog_9_method_4_code 53 = .ok (.istore_n 1, 1) := by decide +kernel
theorem d5_54 : decode prog_9_method_4_code 54 = .ok (.iload_n 1, 1) := by decide +kernel
theorem d5_55 : decode prog_9_method_4_code 55 = .ok (.ireturn, 1) := by decide +kernel
theorem ef5 (m : MethodId) (oa : Addr) : entryFrame m #[(.ref oa)] 2 = mkF m 0 #[.val (.ref oa), .unset] [] := by first | (simp [entryFrame, mkF, argsToLocals, Value.category]; done) | rfl
def Q5 (Z : State) (oa : Addr) (ud : Int32) (ug : Int32) (un : Int32) (h0 : Heap) (n0 : Nat) (v : Option Value) (h : Heap) (L : List Loc) : Prop := v = some (.int (own_hash ud ug un)) ∧ Fr n0 L ∧ h = h0
set_option maxRecDepth 65536 in
set_option maxHeartbeats 40000000 in
theorem rm5 (l : Launch) (Z : State) (a0 : Array Value) (hw : ∀ d ∈ tables_1, d.before a0 Z = true) (ws : List Jvm.Cond) (oa : Addr) (ud : Int32) (ug : Int32) (un : Int32) (h0 : Heap) (n0 : Nat) (Z0 : n0 ≤ h0.size) (F_oa_keyDomainId : Fld Z h0 oa "castkey/card/KeyId" "keyDomainId" "I" (.int ud)) (F_oa_keyGroup : Fld Z h0 oa "castkey/card/KeyId" "keyGroup" "I" (.int ug)) (F_oa_keyNumber : Fld Z h0 oa "castkey/card/KeyId" "keyNumber" "I" (.int un)) :
    MetFree l (⟨"castkey/card/KeyId", "hashCode", "()I"⟩ : MethodName) (head1 (Jvm.Cond.code (⟨"castkey/card/KeyId", "hashCode", "()I"⟩ : MethodName) prog_9_method_4_code 2 (some .int) :: ws) ({ frames := 0, cells := 0, slots := 0, locals := 0 } : Room)) (fun a U => a = #[(.ref oa)] ∧ Z.Warmed39 U.vm ∧ U.heap = h0) (fun _ _ _ _ _ => True) (fun _ U o U' => ∃ v L, o = .returned v ∧ Q5 Z oa ud ug un h0 n0 v U'.heap L ∧ FrameEnd U o U' L ({ frames := 0, cells := 0, slots := 0, locals := 0 } : Room).cells ({ frames := 0, cells := 0, slots := 0, locals := 0 } : Room).slots) := by
  refine MetFree.of_bodySF (plainFor_of_name pn_2) hisR ?_
  intro p e s m args below meth c s₁ Bd hml0 hP hK
  obtain ⟨rfl, hZ, hh⟩ := hP
  have hx := Bd.exec
  have hby := Bd.bytes
  have hml : c.maxLocals = 2 := hml0
  have hown : s.vm.findClass "castkey/card/KeyId" = some m.cls := findClass_of_methodNamed Bd.named
  have hnm := (name_of_methodNamed Bd.named Bd.method).1
  have X0 : Stand p l e ({ frames := 0, cells := 0, slots := 0, locals := 0 } : Room) s m #[(.ref oa)] below meth c s₁ [] 0 0 := Stand.of_body Bd
  have e0 : s₁.heap = h0 := by rw [← hh, Bd.state]; rfl
  have N0 := Fr.nil n0
  refine Goes.by (fun _ k => castTop (ef5 m oa) k) ?_
  show Goes p.tables e below (s₁.setTop (mkF m 0 #[.val (.ref oa), .unset] [])) _
  refine Goes.by (fun _ k => XS.aloadN X0.here hx rfl (hb hby d5_0) rfl rfl k) ?_
  show Goes p.tables e below (s₁.setTop (mkF m 1 #[.val (.ref oa), .unset] [(.ref oa)])) _
  obtain ⟨T1, X1, e1, st1⟩ := getF X0 hx hZ hown (host := "") (Or.inl (hw _ (List.mem_of_getElem? (i := 25) rfl))) Via.refl e0 F_oa_keyGroup (g := (mkF m 1 #[.val (.ref oa), .unset] [(.ref oa)])) rfl rfl (hb hby d5_1)
  refine Goes.by st1 ?_
  show Goes p.tables e below (T1.setTop (mkF m 4 #[.val (.ref oa), .unset] [(.int ug)])) _
  refine Goes.by (fun _ k => XS.bipush X1.here hx rfl (hb hby d5_4) k) ?_
  show Goes p.tables e below (T1.setTop (mkF m 6 #[.val (.ref oa), .unset] [(.int (16 : Int32)), (.int ug)])) _
  refine Goes.by (fun _ k => XS.ishl X1.here hx rfl (hb hby d5_6) rfl k) ?_
  show Goes p.tables e below (T1.setTop (mkF m 7 #[.val (.ref oa), .unset] [(.int (ug <<< ((16 : Int32) &&& 31)))])) _
  refine Goes.by (fun _ k => XS.aloadN X1.here hx rfl (hb hby d5_7) rfl rfl k) ?_
  show Goes p.tables e below (T1.setTop (mkF m 8 #[.val (.ref oa), .unset] [(.ref oa), (.int (ug <<< ((16 : Int32) &&& 31)))])) _
  obtain ⟨T2, X2, e2, st2⟩ := getF X1 hx hZ hown (host := "") (Or.inl (hw _ (List.mem_of_getElem? (i := 27) rfl))) Via.refl e1 F_oa_keyNumber (g := (mkF m 8 #[.val (.ref oa), .unset] [(.ref oa), (.int (ug <<< ((16 : Int32) &&& 31)))])) rfl rfl (hb hby d5_8)
  refine Goes.by st2 ?_
  show Goes p.tables e below (T2.setTop (mkF m 11 #[.val (.ref oa), .unset] [(.int un), (.int (ug <<< ((16 : Int32) &&& 31)))])) _
  refine Goes.by (fun _ k => XS.ior X2.here hx rfl (hb hby d5_11) rfl k) ?_
  show Goes p.tables e below (T2.setTop (mkF m 12 #[.val (.ref oa), .unset] [(.int ((ug <<< ((16 : Int32) &&& 31)) ||| un))])) _
  obtain ⟨x3, hx3⟩ : ∃ z : Int32, z = ((ug <<< ((16 : Int32) &&& 31)) ||| un) := ⟨_, rfl⟩
  refine Goes.by (fun _ k => XS.istoreN X2.here hx rfl (hb hby d5_12) rfl (l' := #[.val (.ref oa), .val (.int x3)]) (by rw [hx3]; rfl) k) ?_
  show Goes p.tables e below (T2.setTop (mkF m 13 #[.val (.ref oa), .val (.int x3)] [])) _
  refine Goes.by (fun _ k => XS.iloadN X2.here hx rfl (hb hby d5_13) rfl k) ?_
  show Goes p.tables e below (T2.setTop (mkF m 14 #[.val (.ref oa), .val (.int x3)] [(.int x3)])) _
  refine Goes.by (fun _ k => XS.aloadN X2.here hx rfl (hb hby d5_14) rfl rfl k) ?_
  show Goes p.tables e below (T2.setTop (mkF m 15 #[.val (.ref oa), .val (.int x3)] [(.ref oa), (.int x3)])) _
  obtain ⟨T4, X4, e4, st4⟩ := getF X2 hx hZ hown (host := "") (Or.inl (hw _ (List.mem_of_getElem? (i := 23) rfl))) Via.refl e2 F_oa_keyDomainId (g := (mkF m 15 #[.val (.ref oa), .val (.int x3)] [(.ref oa), (.int x3)])) rfl rfl (hb hby d5_15)
  refine Goes.by st4 ?_
  show Goes p.tables e below (T4.setTop (mkF m 18 #[.val (.ref oa), .val (.int x3)] [(.int ud), (.int x3)])) _
  refine Goes.by (fun _ k => X4.ldcI hx hown (mvT hZ (hw _ (List.mem_of_getElem? (i := 34) rfl))) (g := (mkF m 18 #[.val (.ref oa), .val (.int x3)] [(.int ud), (.int x3)])) rfl (hb hby d5_18) k) ?_
  show Goes p.tables e below (T4.setTop (mkF m 20 #[.val (.ref oa), .val (.int x3)] [(.int (-1640531527 : Int32)), (.int ud), (.int x3)])) _
  refine Goes.by (fun _ k => XS.imul X4.here hx rfl (hb hby d5_20) rfl k) ?_
  show Goes p.tables e below (T4.setTop (mkF m 21 #[.val (.ref oa), .val (.int x3)] [(.int (ud * (-1640531527 : Int32))), (.int x3)])) _
  refine Goes.by (fun _ k => XS.ixor X4.here hx rfl (hb hby d5_21) rfl k) ?_
  show Goes p.tables e below (T4.setTop (mkF m 22 #[.val (.ref oa), .val (.int x3)] [(.int (x3 ^^^ (ud * (-1640531527 : Int32))))])) _
  obtain ⟨x5, hx5⟩ : ∃ z : Int32, z = (x3 ^^^ (ud * (-1640531527 : Int32))) := ⟨_, rfl⟩
  refine Goes.by (fun _ k => XS.istoreN X4.here hx rfl (hb hby d5_22) rfl (l' := #[.val (.ref oa), .val (.int x5)]) (by rw [hx5]; rfl) k) ?_
  show Goes p.tables e below (T4.setTop (mkF m 23 #[.val (.ref oa), .val (.int x5)] [])) _
  refine Goes.by (fun _ k => XS.iloadN X4.here hx rfl (hb hby d5_23) rfl k) ?_
  show Goes p.tables e below (T4.setTop (mkF m 24 #[.val (.ref oa), .val (.int x5)] [(.int x5)])) _
  refine Goes.by (fun _ k => XS.iloadN X4.here hx rfl (hb hby d5_24) rfl k) ?_
  show Goes p.tables e below (T4.setTop (mkF m 25 #[.val (.ref oa), .val (.int x5)] [(.int x5), (.int x5)])) _
  refine Goes.by (fun _ k => XS.bipush X4.here hx rfl (hb hby d5_25) k) ?_
  show Goes p.tables e below (T4.setTop (mkF m 27 #[.val (.ref oa), .val (.int x5)] [(.int (16 : Int32)), (.int x5), (.int x5)])) _
  refine Goes.by (fun _ k => XS.iushr X4.here hx rfl (hb hby d5_27) rfl k) ?_
  show Goes p.tables e below (T4.setTop (mkF m 28 #[.val (.ref oa), .val (.int x5)] [(.int ((x5.toUInt32 >>> ((16 : Int32) &&& 31).toUInt32).toInt32)), (.int x5)])) _
  refine Goes.by (fun _ k => XS.ixor X4.here hx rfl (hb hby d5_28) rfl k) ?_
  show Goes p.tables e below (T4.setTop (mkF m 29 #[.val (.ref oa), .val (.int x5)] [(.int (x5 ^^^ ((x5.toUInt32 >>> ((16 : Int32) &&& 31).toUInt32).toInt32)))])) _
  obtain ⟨x6, hx6⟩ : ∃ z : Int32, z = (x5 ^^^ ((x5.toUInt32 >>> ((16 : Int32) &&& 31).toUInt32).toInt32)) := ⟨_, rfl⟩
  refine Goes.by (fun _ k => XS.istoreN X4.here hx rfl (hb hby d5_29) rfl (l' := #[.val (.ref oa), .val (.int x6)]) (by rw [hx6]; rfl) k) ?_
  show Goes p.tables e below (T4.setTop (mkF m 30 #[.val (.ref oa), .val (.int x6)] [])) _
  refine Goes.by (fun _ k => XS.iloadN X4.here hx rfl (hb hby d5_30) rfl k) ?_
  show Goes p.tables e below (T4.setTop (mkF m 31 #[.val (.ref oa), .val (.int x6)] [(.int x6)])) _
  refine Goes.by (fun _ k => X4.ldcI hx hown (mvT hZ (hw _ (List.mem_of_getElem? (i := 35) rfl))) (g := (mkF m 31 #[.val (.ref oa), .val (.int x6)] [(.int x6)])) rfl (hb hby d5_31) k) ?_
  show Goes p.tables e below (T4.setTop (mkF m 33 #[.val (.ref oa), .val (.int x6)] [(.int (-2048144789 : Int32)), (.int x6)])) _
  refine Goes.by (fun _ k => XS.imul X4.here hx rfl (hb hby d5_33) rfl k) ?_
  show Goes p.tables e below (T4.setTop (mkF m 34 #[.val (.ref oa), .val (.int x6)] [(.int (x6 * (-2048144789 : Int32)))])) _
  obtain ⟨x7, hx7⟩ : ∃ z : Int32, z = (x6 * (-2048144789 : Int32)) := ⟨_, rfl⟩
  refine Goes.by (fun _ k => XS.istoreN X4.here hx rfl (hb hby d5_34) rfl (l' := #[.val (.ref oa), .val (.int x7)]) (by rw [hx7]; rfl) k) ?_
  show Goes p.tables e below (T4.setTop (mkF m 35 #[.val (.ref oa), .val (.int x7)] [])) _
  refine Goes.by (fun _ k => XS.iloadN X4.here hx rfl (hb hby d5_35) rfl k) ?_
  show Goes p.tables e below (T4.setTop (mkF m 36 #[.val (.ref oa), .val (.int x7)] [(.int x7)])) _
  refine Goes.by (fun _ k => XS.iloadN X4.here hx rfl (hb hby d5_36) rfl k) ?_
  show Goes p.tables e below (T4.setTop (mkF m 37 #[.val (.ref oa), .val (.int x7)] [(.int x7), (.int x7)])) _
  refine Goes.by (fun _ k => XS.bipush X4.here hx rfl (hb hby d5_37) k) ?_
  show Goes p.tables e below (T4.setTop (mkF m 39 #[.val (.ref oa), .val (.int x7)] [(.int (13 : Int32)), (.int x7), (.int x7)])) _
  refine Goes.by (fun _ k => XS.iushr X4.here hx rfl (hb hby d5_39) rfl k) ?_
  show Goes p.tables e below (T4.setTop (mkF m 40 #[.val (.ref oa), .val (.int x7)] [(.int ((x7.toUInt32 >>> ((13 : Int32) &&& 31).toUInt32).toInt32)), (.int x7)])) _
  refine Goes.by (fun _ k => XS.ixor X4.here hx rfl (hb hby d5_40) rfl k) ?_
  show Goes p.tables e below (T4.setTop (mkF m 41 #[.val (.ref oa), .val (.int x7)] [(.int (x7 ^^^ ((x7.toUInt32 >>> ((13 : Int32) &&& 31).toUInt32).toInt32)))])) _
  obtain ⟨x8, hx8⟩ : ∃ z : Int32, z = (x7 ^^^ ((x7.toUInt32 >>> ((13 : Int32) &&& 31).toUInt32).toInt32)) := ⟨_, rfl⟩
  refine Goes.by (fun _ k => XS.istoreN X4.here hx rfl (hb hby d5_41) rfl (l' := #[.val (.ref oa), .val (.int x8)]) (by rw [hx8]; rfl) k) ?_
  show Goes p.tables e below (T4.setTop (mkF m 42 #[.val (.ref oa), .val (.int x8)] [])) _
  refine Goes.by (fun _ k => XS.iloadN X4.here hx rfl (hb hby d5_42) rfl k) ?_
  show Goes p.tables e below (T4.setTop (mkF m 43 #[.val (.ref oa), .val (.int x8)] [(.int x8)])) _
  refine Goes.by (fun _ k => X4.ldcI hx hown (mvT hZ (hw _ (List.mem_of_getElem? (i := 36) rfl))) (g := (mkF m 43 #[.val (.ref oa), .val (.int x8)] [(.int x8)])) rfl (hb hby d5_43) k) ?_
  show Goes p.tables e below (T4.setTop (mkF m 45 #[.val (.ref oa), .val (.int x8)] [(.int (-1028477387 : Int32)), (.int x8)])) _
  refine Goes.by (fun _ k => XS.imul X4.here hx rfl (hb hby d5_45) rfl k) ?_
  show Goes p.tables e below (T4.setTop (mkF m 46 #[.val (.ref oa), .val (.int x8)] [(.int (x8 * (-1028477387 : Int32)))])) _
  obtain ⟨x9, hx9⟩ : ∃ z : Int32, z = (x8 * (-1028477387 : Int32)) := ⟨_, rfl⟩
  refine Goes.by (fun _ k => XS.istoreN X4.here hx rfl (hb hby d5_46) rfl (l' := #[.val (.ref oa), .val (.int x9)]) (by rw [hx9]; rfl) k) ?_
  show Goes p.tables e below (T4.setTop (mkF m 47 #[.val (.ref oa), .val (.int x9)] [])) _
  refine Goes.by (fun _ k => XS.iloadN X4.here hx rfl (hb hby d5_47) rfl k) ?_
  show Goes p.tables e below (T4.setTop (mkF m 48 #[.val (.ref oa), .val (.int x9)] [(.int x9)])) _
  refine Goes.by (fun _ k => XS.iloadN X4.here hx rfl (hb hby d5_48) rfl k) ?_
  show Goes p.tables e below (T4.setTop (mkF m 49 #[.val (.ref oa), .val (.int x9)] [(.int x9), (.int x9)])) _
  refine Goes.by (fun _ k => XS.bipush X4.here hx rfl (hb hby d5_49) k) ?_
  show Goes p.tables e below (T4.setTop (mkF m 51 #[.val (.ref oa), .val (.int x9)] [(.int (16 : Int32)), (.int x9), (.int x9)])) _
  refine Goes.by (fun _ k => XS.iushr X4.here hx rfl (hb hby d5_51) rfl k) ?_
  show Goes p.tables e below (T4.setTop (mkF m 52 #[.val (.ref oa), .val (.int x9)] [(.int ((x9.toUInt32 >>> ((16 : Int32) &&& 31).toUInt32).toInt32)), (.int x9)])) _
  refine Goes.by (fun _ k => XS.ixor X4.here hx rfl (hb hby d5_52) rfl k) ?_
  show Goes p.tables e below (T4.setTop (mkF m 53 #[.val (.ref oa), .val (.int x9)] [(.int (x9 ^^^ ((x9.toUInt32 >>> ((16 : Int32) &&& 31).toUInt32).toInt32)))])) _
  obtain ⟨x10, hx10⟩ : ∃ z : Int32, z = (x9 ^^^ ((x9.toUInt32 >>> ((16 : Int32) &&& 31).toUInt32).toInt32)) := ⟨_, rfl⟩
  refine Goes.by (fun _ k => XS.istoreN X4.here hx rfl (hb hby d5_53) rfl (l' := #[.val (.ref oa), .val (.int x10)]) (by rw [hx10]; rfl) k) ?_
  show Goes p.tables e below (T4.setTop (mkF m 54 #[.val (.ref oa), .val (.int x10)] [])) _
  refine Goes.by (fun _ k => XS.iloadN X4.here hx rfl (hb hby d5_54) rfl k) ?_
  show Goes p.tables e below (T4.setTop (mkF m 55 #[.val (.ref oa), .val (.int x10)] [(.int x10)])) _
  obtain ⟨fs, hr, hrun, hended, hW, hsame⟩ := X4.leave (v := some (.int x10)) (fun h => by rw [Bd.returns] at h; cases h)
  refine ⟨_, _, retI X4 hx Bd.returns (hb hby d5_55) hr, hrun, hended, _, _, rfl, ?_, ⟨_, rfl⟩, hW, hsame.mono (by decide) (by decide)⟩
  show Q5 Z oa ud ug un h0 n0 _ T4.heap _
  rw [e4]
  exact ⟨(by subst hx10 hx9 hx8 hx7 hx6 hx5 hx3; rfl), N0, rfl⟩
theorem own_m24 (x : Int32) : ¬ ((x &&& (16777215 : Int32)) < (0 : Int32)) ∧ ¬ ((16777215 : Int32) < (x &&& (16777215 : Int32))) := by
  have h := c_and x 16777215 (by decide)
  simp only [Int32.lt_iff_toInt_lt]
  have e0 : (0 : Int32).toInt = 0 := rfl
  omega
theorem own_m16 (x : Int32) : ¬ ((x &&& (65535 : Int32)) < (0 : Int32)) ∧ ¬ ((65535 : Int32) < (x &&& (65535 : Int32))) := by
  have h := c_and x 65535 (by decide)
  simp only [Int32.lt_iff_toInt_lt]
  have e0 : (0 : Int32).toInt = 0 := rfl
  omega
theorem own_s16 (x : Int32) : ¬ (((x.toUInt32 >>> ((16 : Int32) &&& 31).toUInt32).toInt32) < (0 : Int32)) ∧ ¬ ((65535 : Int32) < ((x.toUInt32 >>> ((16 : Int32) &&& 31).toUInt32).toInt32)) := by
  have h := c_iushr x 16 16 (by decide) (by decide)
  simp only [Int32.lt_iff_toInt_lt]
  have e0 : (0 : Int32).toInt = 0 := rfl
  have e1 : (65535 : Int32).toInt = 65535 := rfl
  have r := rng32 x
  omega
theorem own_x3 : ∀ p q r : Bool, (p ^^ r) = (q ^^ r) → p = q := by decide
theorem own_bits (a b : BitVec 32) (k : Nat) (h : a ^^^ (a >>> k) = b ^^^ (b >>> k)) (j : Nat) : (a.getLsbD j ^^ a.getLsbD (k + j)) = (b.getLsbD j ^^ b.getLsbD (k + j)) := by
  have := congrArg (fun z => BitVec.getLsbD z j) h
  simpa [BitVec.getLsbD_xor, BitVec.getLsbD_ushiftRight] using this
theorem own_xs16_inj (x y : Int32) (h : own_xs16 x = own_xs16 y) : x = y := by
  have h' : x.toBitVec ^^^ (x.toBitVec >>> 16) = y.toBitVec ^^^ (y.toBitVec >>> 16) := congrArg Int32.toBitVec h
  apply Int32.toBitVec_inj.mp
  apply BitVec.eq_of_getLsbD_eq
  intro i hi
  have b0 := own_bits _ _ 16 h' i
  have b1 := own_bits _ _ 16 h' (16 + i)
  rw [BitVec.getLsbD_of_ge x.toBitVec (16 + (16 + i)) (by omega), BitVec.getLsbD_of_ge y.toBitVec (16 + (16 + i)) (by omega), Bool.xor_false, Bool.xor_false] at b1
  rw [b1] at b0
  exact own_x3 _ _ _ b0
theorem own_xs13_inj (x y : Int32) (h : own_xs13 x = own_xs13 y) : x = y := by
  have h' : x.toBitVec ^^^ (x.toBitVec >>> 13) = y.toBitVec ^^^ (y.toBitVec >>> 13) := congrArg Int32.toBitVec h
  apply Int32.toBitVec_inj.mp
  apply BitVec.eq_of_getLsbD_eq
  intro i hi
  have b0 := own_bits _ _ 13 h' i
  have b1 := own_bits _ _ 13 h' (13 + i)
  have b2 := own_bits _ _ 13 h' (13 + (13 + i))
  rw [BitVec.getLsbD_of_ge x.toBitVec (13 + (13 + (13 + i))) (by omega), BitVec.getLsbD_of_ge y.toBitVec (13 + (13 + (13 + i))) (by omega), Bool.xor_false, Bool.xor_false] at b2
  rw [b2] at b1
  have b1' := own_x3 _ _ _ b1
  rw [b1'] at b0
  exact own_x3 _ _ _ b0
theorem own_mul_inj (c c' : Int32) (hc : c * c' = 1) (x y : Int32) (h : x * c = y * c) : x = y := by
  have := congrArg (· * c') h
  simpa [Int32.mul_assoc, hc] using this
theorem own_mix_inj (x y : Int32) (h : own_mix x = own_mix y) : x = y :=
  own_xs16_inj _ _ (own_mul_inj (-2048144789) (-1513385405) (by decide) _ _ (own_xs13_inj _ _ (own_mul_inj (-1028477387) 2127672349 (by decide) _ _ (own_xs16_inj _ _ h))))
theorem pd_1 : parseMethodDescriptor "(III)I" = some ⟨[.int, .int, .int], some .int⟩ := by decide +kernel
theorem pd_2 : parseMethodDescriptor "(III)V" = some ⟨[.int, .int, .int], none⟩ := by decide +kernel
theorem pd_3 : parseMethodDescriptor "()I" = some ⟨[], some .int⟩ := by decide +kernel
theorem ef0 (m : MethodId) (pd1 : Int32) (pg1 : Int32) (pn1 : Int32) (pd2 : Int32) (pg2 : Int32) (pm : Int32) : entryFrame m #[(.int pd1), (.int pg1), (.int pn1), (.int pd2), (.int pg2), (.int pm)] maxLocals = mkF m 0 #[.val (.int pd1), .val (.int pg1), .val (.int pn1), .val (.int pd2), .val (.int pg2), .val (.int pm), .unset, .unset, .unset, .unset, .unset, .unset, .unset, .unset, .unset, .unset, .unset] [] := by first | (simp [entryFrame, mkF, argsToLocals, Value.category, maxLocals]; done) | rfl
def Q0 (Z : State) (pd1 : Int32) (pg1 : Int32) (pn1 : Int32) (pd2 : Int32) (pg2 : Int32) (pm : Int32) (h0 : Heap) (n0 : Nat) (v : Option Value) (h : Heap) (L : List Loc) : Prop := v = some (.int (1 : Int32)) ∧ Fr n0 L
set_option maxRecDepth 65536 in
set_option maxHeartbeats 40000000 in
theorem rm0 (l : Launch) (Z : State) (a0 : Array Value) (hw : ∀ d ∈ tables_1, d.before a0 Z = true) (ws : List Jvm.Cond) (pd1 : Int32) (pg1 : Int32) (pn1 : Int32) (pd2 : Int32) (pg2 : Int32) (pm : Int32) (h0 : Heap) (n0 : Nat) (Z0 : n0 ≤ h0.size) :
    MetFree l x (head1 (Jvm.Cond.code x code maxLocals ret :: ws) room_1) (fun a U => a = #[(.int pd1), (.int pg1), (.int pn1), (.int pd2), (.int pg2), (.int pm)] ∧ Z.Warmed39 U.vm ∧ U.heap = h0) (fun _ _ _ _ _ => True) (fun _ U o U' => ∃ v L, o = .returned v ∧ Q0 Z pd1 pg1 pn1 pd2 pg2 pm h0 n0 v U'.heap L ∧ FrameEnd U o U' L room_1.cells room_1.slots) := by
  refine MetFree.of_bodySF (plainFor_of_name pn_1) hisR ?_
  intro p e s m args below meth c s₁ Bd hml0 hP hK
  obtain ⟨rfl, hZ, hh⟩ := hP
  have hx := Bd.exec
  have hby := Bd.bytes
  have hml : c.maxLocals = 17 := hml0
  have hown : s.vm.findClass "castkey/card/KeyIdHashCodePinLaw" = some m.cls := findClass_of_methodNamed Bd.named
  have hnm := (name_of_methodNamed Bd.named Bd.method).1
  have X0 : Stand p l e room_1 s m #[(.int pd1), (.int pg1), (.int pn1), (.int pd2), (.int pg2), (.int pm)] below meth c s₁ [] 0 0 := Stand.of_body Bd
  have e0 : s₁.heap = h0 := by rw [← hh, Bd.state]; rfl
  have N0 := Fr.nil n0
  refine Goes.by (fun _ k => castTop (ef0 m pd1 pg1 pn1 pd2 pg2 pm) k) ?_
  show Goes p.tables e below (s₁.setTop (mkF m 0 #[.val (.int pd1), .val (.int pg1), .val (.int pn1), .val (.int pd2), .val (.int pg2), .val (.int pm), .unset, .unset, .unset, .unset, .unset, .unset, .unset, .unset, .unset, .unset, .unset] [])) _
  refine Goes.by (fun _ k => XS.iloadN X0.here hx rfl (hb hby at_0) rfl k) ?_
  show Goes p.tables e below (s₁.setTop (mkF m 1 #[.val (.int pd1), .val (.int pg1), .val (.int pn1), .val (.int pd2), .val (.int pg2), .val (.int pm), .unset, .unset, .unset, .unset, .unset, .unset, .unset, .unset, .unset, .unset, .unset] [(.int pd1)])) _
  refine Goes.by (fun _ k => X0.ldcI hx hown (mvT hZ (hw _ (List.mem_of_getElem? (i := 0) rfl))) (g := (mkF m 1 #[.val (.int pd1), .val (.int pg1), .val (.int pn1), .val (.int pd2), .val (.int pg2), .val (.int pm), .unset, .unset, .unset, .unset, .unset, .unset, .unset, .unset, .unset, .unset, .unset] [(.int pd1)])) rfl (hb hby at_1) k) ?_
  show Goes p.tables e below (s₁.setTop (mkF m 3 #[.val (.int pd1), .val (.int pg1), .val (.int pn1), .val (.int pd2), .val (.int pg2), .val (.int pm), .unset, .unset, .unset, .unset, .unset, .unset, .unset, .unset, .unset, .unset, .unset] [(.int (16777215 : Int32)), (.int pd1)])) _
  refine Goes.by (fun _ k => XS.iand X0.here hx rfl (hb hby at_3) rfl k) ?_
  show Goes p.tables e below (s₁.setTop (mkF m 4 #[.val (.int pd1), .val (.int pg1), .val (.int pn1), .val (.int pd2), .val (.int pg2), .val (.int pm), .unset, .unset, .unset, .unset, .unset, .unset, .unset, .unset, .unset, .unset, .unset] [(.int (pd1 &&& (16777215 : Int32)))])) _
  obtain ⟨x1, hx1⟩ : ∃ z : Int32, z = (pd1 &&& (16777215 : Int32)) := ⟨_, rfl⟩
  refine Goes.by (fun _ k => XS.istore X0.here hx rfl (hb hby at_4) rfl (l' := #[.val (.int pd1), .val (.int pg1), .val (.int pn1), .val (.int pd2), .val (.int pg2), .val (.int pm), .val (.int x1), .unset, .unset, .unset, .unset, .unset, .unset, .unset, .unset, .unset, .unset]) (by rw [hx1]; rfl) k) ?_
  show Goes p.tables e below (s₁.setTop (mkF m 6 #[.val (.int pd1), .val (.int pg1), .val (.int pn1), .val (.int pd2), .val (.int pg2), .val (.int pm), .val (.int x1), .unset, .unset, .unset, .unset, .unset, .unset, .unset, .unset, .unset, .unset] [])) _
  refine Goes.by (fun _ k => XS.iloadN X0.here hx rfl (hb hby at_6) rfl k) ?_
  show Goes p.tables e below (s₁.setTop (mkF m 7 #[.val (.int pd1), .val (.int pg1), .val (.int pn1), .val (.int pd2), .val (.int pg2), .val (.int pm), .val (.int x1), .unset, .unset, .unset, .unset, .unset, .unset, .unset, .unset, .unset, .unset] [(.int pg1)])) _
  refine Goes.by (fun _ k => X0.ldcI hx hown (mvT hZ (hw _ (List.mem_of_getElem? (i := 1) rfl))) (g := (mkF m 7 #[.val (.int pd1), .val (.int pg1), .val (.int pn1), .val (.int pd2), .val (.int pg2), .val (.int pm), .val (.int x1), .unset, .unset, .unset, .unset, .unset, .unset, .unset, .unset, .unset, .unset] [(.int pg1)])) rfl (hb hby at_7) k) ?_
  show Goes p.tables e below (s₁.setTop (mkF m 9 #[.val (.int pd1), .val (.int pg1), .val (.int pn1), .val (.int pd2), .val (.int pg2), .val (.int pm), .val (.int x1), .unset, .unset, .unset, .unset, .unset, .unset, .unset, .unset, .unset, .unset] [(.int (65535 : Int32)), (.int pg1)])) _
  refine Goes.by (fun _ k => XS.iand X0.here hx rfl (hb hby at_9) rfl k) ?_
  show Goes p.tables e below (s₁.setTop (mkF m 10 #[.val (.int pd1), .val (.int pg1), .val (.int pn1), .val (.int pd2), .val (.int pg2), .val (.int pm), .val (.int x1), .unset, .unset, .unset, .unset, .unset, .unset, .unset, .unset, .unset, .unset] [(.int (pg1 &&& (65535 : Int32)))])) _
  obtain ⟨x2, hx2⟩ : ∃ z : Int32, z = (pg1 &&& (65535 : Int32)) := ⟨_, rfl⟩
  refine Goes.by (fun _ k => XS.istore X0.here hx rfl (hb hby at_10) rfl (l' := #[.val (.int pd1), .val (.int pg1), .val (.int pn1), .val (.int pd2), .val (.int pg2), .val (.int pm), .val (.int x1), .val (.int x2), .unset, .unset, .unset, .unset, .unset, .unset, .unset, .unset, .unset]) (by rw [hx2]; rfl) k) ?_
  show Goes p.tables e below (s₁.setTop (mkF m 12 #[.val (.int pd1), .val (.int pg1), .val (.int pn1), .val (.int pd2), .val (.int pg2), .val (.int pm), .val (.int x1), .val (.int x2), .unset, .unset, .unset, .unset, .unset, .unset, .unset, .unset, .unset] [])) _
  refine Goes.by (fun _ k => XS.iloadN X0.here hx rfl (hb hby at_12) rfl k) ?_
  show Goes p.tables e below (s₁.setTop (mkF m 13 #[.val (.int pd1), .val (.int pg1), .val (.int pn1), .val (.int pd2), .val (.int pg2), .val (.int pm), .val (.int x1), .val (.int x2), .unset, .unset, .unset, .unset, .unset, .unset, .unset, .unset, .unset] [(.int pn1)])) _
  refine Goes.by (fun _ k => X0.ldcI hx hown (mvT hZ (hw _ (List.mem_of_getElem? (i := 1) rfl))) (g := (mkF m 13 #[.val (.int pd1), .val (.int pg1), .val (.int pn1), .val (.int pd2), .val (.int pg2), .val (.int pm), .val (.int x1), .val (.int x2), .unset, .unset, .unset, .unset, .unset, .unset, .unset, .unset, .unset] [(.int pn1)])) rfl (hb hby at_13) k) ?_
  show Goes p.tables e below (s₁.setTop (mkF m 15 #[.val (.int pd1), .val (.int pg1), .val (.int pn1), .val (.int pd2), .val (.int pg2), .val (.int pm), .val (.int x1), .val (.int x2), .unset, .unset, .unset, .unset, .unset, .unset, .unset, .unset, .unset] [(.int (65535 : Int32)), (.int pn1)])) _
  refine Goes.by (fun _ k => XS.iand X0.here hx rfl (hb hby at_15) rfl k) ?_
  show Goes p.tables e below (s₁.setTop (mkF m 16 #[.val (.int pd1), .val (.int pg1), .val (.int pn1), .val (.int pd2), .val (.int pg2), .val (.int pm), .val (.int x1), .val (.int x2), .unset, .unset, .unset, .unset, .unset, .unset, .unset, .unset, .unset] [(.int (pn1 &&& (65535 : Int32)))])) _
  obtain ⟨x3, hx3⟩ : ∃ z : Int32, z = (pn1 &&& (65535 : Int32)) := ⟨_, rfl⟩
  refine Goes.by (fun _ k => XS.istore X0.here hx rfl (hb hby at_16) rfl (l' := #[.val (.int pd1), .val (.int pg1), .val (.int pn1), .val (.int pd2), .val (.int pg2), .val (.int pm), .val (.int x1), .val (.int x2), .val (.int x3), .unset, .unset, .unset, .unset, .unset, .unset, .unset, .unset]) (by rw [hx3]; rfl) k) ?_
  show Goes p.tables e below (s₁.setTop (mkF m 18 #[.val (.int pd1), .val (.int pg1), .val (.int pn1), .val (.int pd2), .val (.int pg2), .val (.int pm), .val (.int x1), .val (.int x2), .val (.int x3), .unset, .unset, .unset, .unset, .unset, .unset, .unset, .unset] [])) _
  refine Goes.by (fun _ k => XS.iloadN X0.here hx rfl (hb hby at_18) rfl k) ?_
  show Goes p.tables e below (s₁.setTop (mkF m 19 #[.val (.int pd1), .val (.int pg1), .val (.int pn1), .val (.int pd2), .val (.int pg2), .val (.int pm), .val (.int x1), .val (.int x2), .val (.int x3), .unset, .unset, .unset, .unset, .unset, .unset, .unset, .unset] [(.int pd2)])) _
  refine Goes.by (fun _ k => X0.ldcI hx hown (mvT hZ (hw _ (List.mem_of_getElem? (i := 0) rfl))) (g := (mkF m 19 #[.val (.int pd1), .val (.int pg1), .val (.int pn1), .val (.int pd2), .val (.int pg2), .val (.int pm), .val (.int x1), .val (.int x2), .val (.int x3), .unset, .unset, .unset, .unset, .unset, .unset, .unset, .unset] [(.int pd2)])) rfl (hb hby at_19) k) ?_
  show Goes p.tables e below (s₁.setTop (mkF m 21 #[.val (.int pd1), .val (.int pg1), .val (.int pn1), .val (.int pd2), .val (.int pg2), .val (.int pm), .val (.int x1), .val (.int x2), .val (.int x3), .unset, .unset, .unset, .unset, .unset, .unset, .unset, .unset] [(.int (16777215 : Int32)), (.int pd2)])) _
  refine Goes.by (fun _ k => XS.iand X0.here hx rfl (hb hby at_21) rfl k) ?_
  show Goes p.tables e below (s₁.setTop (mkF m 22 #[.val (.int pd1), .val (.int pg1), .val (.int pn1), .val (.int pd2), .val (.int pg2), .val (.int pm), .val (.int x1), .val (.int x2), .val (.int x3), .unset, .unset, .unset, .unset, .unset, .unset, .unset, .unset] [(.int (pd2 &&& (16777215 : Int32)))])) _
  obtain ⟨x4, hx4⟩ : ∃ z : Int32, z = (pd2 &&& (16777215 : Int32)) := ⟨_, rfl⟩
  refine Goes.by (fun _ k => XS.istore X0.here hx rfl (hb hby at_22) rfl (l' := #[.val (.int pd1), .val (.int pg1), .val (.int pn1), .val (.int pd2), .val (.int pg2), .val (.int pm), .val (.int x1), .val (.int x2), .val (.int x3), .val (.int x4), .unset, .unset, .unset, .unset, .unset, .unset, .unset]) (by rw [hx4]; rfl) k) ?_
  show Goes p.tables e below (s₁.setTop (mkF m 24 #[.val (.int pd1), .val (.int pg1), .val (.int pn1), .val (.int pd2), .val (.int pg2), .val (.int pm), .val (.int x1), .val (.int x2), .val (.int x3), .val (.int x4), .unset, .unset, .unset, .unset, .unset, .unset, .unset] [])) _
  refine Goes.by (fun _ k => XS.iload X0.here hx rfl (hb hby at_24) rfl k) ?_
  show Goes p.tables e below (s₁.setTop (mkF m 26 #[.val (.int pd1), .val (.int pg1), .val (.int pn1), .val (.int pd2), .val (.int pg2), .val (.int pm), .val (.int x1), .val (.int x2), .val (.int x3), .val (.int x4), .unset, .unset, .unset, .unset, .unset, .unset, .unset] [(.int x1)])) _
  refine Goes.by (fun _ k => XS.iload X0.here hx rfl (hb hby at_26) rfl k) ?_
  show Goes p.tables e below (s₁.setTop (mkF m 28 #[.val (.int pd1), .val (.int pg1), .val (.int pn1), .val (.int pd2), .val (.int pg2), .val (.int pm), .val (.int x1), .val (.int x2), .val (.int x3), .val (.int x4), .unset, .unset, .unset, .unset, .unset, .unset, .unset] [(.int x2), (.int x1)])) _
  refine Goes.by (fun _ k => XS.iload X0.here hx rfl (hb hby at_28) rfl k) ?_
  show Goes p.tables e below (s₁.setTop (mkF m 30 #[.val (.int pd1), .val (.int pg1), .val (.int pn1), .val (.int pd2), .val (.int pg2), .val (.int pm), .val (.int x1), .val (.int x2), .val (.int x3), .val (.int x4), .unset, .unset, .unset, .unset, .unset, .unset, .unset] [(.int x3), (.int x2), (.int x1)])) _
  obtain ⟨_, _, ⟨T5, L5, k5, n5⟩, -, X5, ⟨Lc5, hQ5, l5, y5, z5⟩, st5⟩ := Jvm.LawKit.callS X0 hx (y := (⟨"castkey/card/KeyIdHashCodePinLaw", "pre", "(III)I"⟩ : MethodName)) hown (mvT hZ (hw _ (List.mem_of_getElem? (i := 2) rfl))) (mvT hZ (hw _ (List.mem_of_getElem? (i := 3) rfl))) (mvT hZ (hw _ (List.mem_of_getElem? (i := 4) rfl))) (mvT hZ (hw _ (List.mem_of_getElem? (i := 5) rfl))) (by decide) (backOf (W := 0) (rm1 l Z a0 hw [] x1 x2 x3 h0 n0 Z0) hZ (hw _ (List.mem_of_getElem? (i := 5) rfl)) (hw _ (List.mem_of_getElem? (i := 4) rfl)) (by decide) (by decide)) (g := (mkF m 30 #[.val (.int pd1), .val (.int pg1), .val (.int pn1), .val (.int pd2), .val (.int pg2), .val (.int pm), .val (.int x1), .val (.int x2), .val (.int x3), .val (.int x4), .unset, .unset, .unset, .unset, .unset, .unset, .unset] [(.int x3), (.int x2), (.int x1)])) rfl (by rw [hml]; rfl) (argsL := [(.int x1), (.int x2), (.int x3)]) (rest := []) (lenOf pd_1 rfl) rfl (by show 2 * 0 + _ ≤ _; exact Nat.le_of_eq rfl) (hb hby at_30) (fun _ _ => ⟨rfl, e0, (by decide : 0 + 0 ≤ _), (by decide : 0 + 0 ≤ _)⟩)
  dsimp only [Pt.U, Pt.locs, Pt.cells, Pt.slots] at X5 l5 y5 z5 st5 hQ5
  subst l5 y5 z5
  obtain ⟨rfl, N5q, e5⟩ := hQ5
  have N5 := Fr.app N0 N5q
  refine Goes.by st5 ?_
  show Goes p.tables e below (T5.setTop (mkF m 33 #[.val (.int pd1), .val (.int pg1), .val (.int pn1), .val (.int pd2), .val (.int pg2), .val (.int pm), .val (.int x1), .val (.int x2), .val (.int x3), .val (.int x4), .unset, .unset, .unset, .unset, .unset, .unset, .unset] [(.int (fn1 x1 x2 x3))])) _
  obtain ⟨x6, hx6⟩ : ∃ z : Int32, z = (fn1 x1 x2 x3) := ⟨_, rfl⟩
  refine Goes.by (fun _ k => XS.istore X5.here hx rfl (hb hby at_33) rfl (l' := #[.val (.int pd1), .val (.int pg1), .val (.int pn1), .val (.int pd2), .val (.int pg2), .val (.int pm), .val (.int x1), .val (.int x2), .val (.int x3), .val (.int x4), .val (.int x6), .unset, .unset, .unset, .unset, .unset, .unset]) (by rw [hx6]; rfl) k) ?_
  show Goes p.tables e below (T5.setTop (mkF m 35 #[.val (.int pd1), .val (.int pg1), .val (.int pn1), .val (.int pd2), .val (.int pg2), .val (.int pm), .val (.int x1), .val (.int x2), .val (.int x3), .val (.int x4), .val (.int x6), .unset, .unset, .unset, .unset, .unset, .unset] [])) _
  refine Goes.by (fun _ k => XS.iload X5.here hx rfl (hb hby at_35) rfl k) ?_
  show Goes p.tables e below (T5.setTop (mkF m 37 #[.val (.int pd1), .val (.int pg1), .val (.int pn1), .val (.int pd2), .val (.int pg2), .val (.int pm), .val (.int x1), .val (.int x2), .val (.int x3), .val (.int x4), .val (.int x6), .unset, .unset, .unset, .unset, .unset, .unset] [(.int pm)])) _
  refine Goes.by (fun _ k => XS.iconst X5.here hx rfl (hb hby at_37) k) ?_
  show Goes p.tables e below (T5.setTop (mkF m 38 #[.val (.int pd1), .val (.int pg1), .val (.int pn1), .val (.int pd2), .val (.int pg2), .val (.int pm), .val (.int x1), .val (.int x2), .val (.int x3), .val (.int x4), .val (.int x6), .unset, .unset, .unset, .unset, .unset, .unset] [(.int (1 : Int32)), (.int pm)])) _
  refine Goes.by (fun _ k => XS.iand X5.here hx rfl (hb hby at_38) rfl k) ?_
  show Goes p.tables e below (T5.setTop (mkF m 39 #[.val (.int pd1), .val (.int pg1), .val (.int pn1), .val (.int pd2), .val (.int pg2), .val (.int pm), .val (.int x1), .val (.int x2), .val (.int x3), .val (.int x4), .val (.int x6), .unset, .unset, .unset, .unset, .unset, .unset] [(.int (pm &&& (1 : Int32)))])) _
  by_cases hc7 : (pm &&& (1 : Int32)) = (0 : Int32)
  · refine Goes.by (fun _ k => XS.ifYes X5.here hx rfl (pc0 := 39) (pc' := 69) rfl (hb hby at_39) rfl ((if0 _ _).trans (teq hc7).1) (by decide) (by decide) k) ?_
    show Goes p.tables e below (T5.setTop (mkF m 69 #[.val (.int pd1), .val (.int pg1), .val (.int pn1), .val (.int pd2), .val (.int pg2), .val (.int pm), .val (.int x1), .val (.int x2), .val (.int x3), .val (.int x4), .val (.int x6), .unset, .unset, .unset, .unset, .unset, .unset] [])) _
    refine Goes.by (fun _ k => XS.iload X5.here hx rfl (hb hby at_69) rfl k) ?_
    show Goes p.tables e below (T5.setTop (mkF m 71 #[.val (.int pd1), .val (.int pg1), .val (.int pn1), .val (.int pd2), .val (.int pg2), .val (.int pm), .val (.int x1), .val (.int x2), .val (.int x3), .val (.int x4), .val (.int x6), .unset, .unset, .unset, .unset, .unset, .unset] [(.int pg2)])) _
    refine Goes.by (fun _ k => XS.bipush X5.here hx rfl (hb hby at_71) k) ?_
    show Goes p.tables e below (T5.setTop (mkF m 73 #[.val (.int pd1), .val (.int pg1), .val (.int pn1), .val (.int pd2), .val (.int pg2), .val (.int pm), .val (.int x1), .val (.int x2), .val (.int x3), .val (.int x4), .val (.int x6), .unset, .unset, .unset, .unset, .unset, .unset] [(.int (16 : Int32)), (.int pg2)])) _
    refine Goes.by (fun _ k => XS.iushr X5.here hx rfl (hb hby at_73) rfl k) ?_
    show Goes p.tables e below (T5.setTop (mkF m 74 #[.val (.int pd1), .val (.int pg1), .val (.int pn1), .val (.int pd2), .val (.int pg2), .val (.int pm), .val (.int x1), .val (.int x2), .val (.int x3), .val (.int x4), .val (.int x6), .unset, .unset, .unset, .unset, .unset, .unset] [(.int ((pg2.toUInt32 >>> ((16 : Int32) &&& 31).toUInt32).toInt32))])) _
    obtain ⟨x8, hx8⟩ : ∃ z : Int32, z = ((pg2.toUInt32 >>> ((16 : Int32) &&& 31).toUInt32).toInt32) := ⟨_, rfl⟩
    refine Goes.by (fun _ k => XS.istore X5.here hx rfl (hb hby at_74) rfl (l' := #[.val (.int pd1), .val (.int pg1), .val (.int pn1), .val (.int pd2), .val (.int pg2), .val (.int pm), .val (.int x1), .val (.int x2), .val (.int x3), .val (.int x4), .val (.int x6), .val (.int x8), .unset, .unset, .unset, .unset, .unset]) (by rw [hx8]; rfl) k) ?_
    show Goes p.tables e below (T5.setTop (mkF m 76 #[.val (.int pd1), .val (.int pg1), .val (.int pn1), .val (.int pd2), .val (.int pg2), .val (.int pm), .val (.int x1), .val (.int x2), .val (.int x3), .val (.int x4), .val (.int x6), .val (.int x8), .unset, .unset, .unset, .unset, .unset] [])) _
    refine Goes.by (fun _ k => XS.iload X5.here hx rfl (hb hby at_76) rfl k) ?_
    show Goes p.tables e below (T5.setTop (mkF m 78 #[.val (.int pd1), .val (.int pg1), .val (.int pn1), .val (.int pd2), .val (.int pg2), .val (.int pm), .val (.int x1), .val (.int x2), .val (.int x3), .val (.int x4), .val (.int x6), .val (.int x8), .unset, .unset, .unset, .unset, .unset] [(.int pg2)])) _
    refine Goes.by (fun _ k => X5.ldcI hx hown (mvT hZ (hw _ (List.mem_of_getElem? (i := 1) rfl))) (g := (mkF m 78 #[.val (.int pd1), .val (.int pg1), .val (.int pn1), .val (.int pd2), .val (.int pg2), .val (.int pm), .val (.int x1), .val (.int x2), .val (.int x3), .val (.int x4), .val (.int x6), .val (.int x8), .unset, .unset, .unset, .unset, .unset] [(.int pg2)])) rfl (hb hby at_78) k) ?_
    show Goes p.tables e below (T5.setTop (mkF m 80 #[.val (.int pd1), .val (.int pg1), .val (.int pn1), .val (.int pd2), .val (.int pg2), .val (.int pm), .val (.int x1), .val (.int x2), .val (.int x3), .val (.int x4), .val (.int x6), .val (.int x8), .unset, .unset, .unset, .unset, .unset] [(.int (65535 : Int32)), (.int pg2)])) _
    refine Goes.by (fun _ k => XS.iand X5.here hx rfl (hb hby at_80) rfl k) ?_
    show Goes p.tables e below (T5.setTop (mkF m 81 #[.val (.int pd1), .val (.int pg1), .val (.int pn1), .val (.int pd2), .val (.int pg2), .val (.int pm), .val (.int x1), .val (.int x2), .val (.int x3), .val (.int x4), .val (.int x6), .val (.int x8), .unset, .unset, .unset, .unset, .unset] [(.int (pg2 &&& (65535 : Int32)))])) _
    obtain ⟨x9, hx9⟩ : ∃ z : Int32, z = (pg2 &&& (65535 : Int32)) := ⟨_, rfl⟩
    refine Goes.by (fun _ k => XS.istore X5.here hx rfl (hb hby at_81) rfl (l' := #[.val (.int pd1), .val (.int pg1), .val (.int pn1), .val (.int pd2), .val (.int pg2), .val (.int pm), .val (.int x1), .val (.int x2), .val (.int x3), .val (.int x4), .val (.int x6), .val (.int x8), .val (.int x9), .unset, .unset, .unset, .unset]) (by rw [hx9]; rfl) k) ?_
    show Goes p.tables e below (T5.setTop (mkF m 83 #[.val (.int pd1), .val (.int pg1), .val (.int pn1), .val (.int pd2), .val (.int pg2), .val (.int pm), .val (.int x1), .val (.int x2), .val (.int x3), .val (.int x4), .val (.int x6), .val (.int x8), .val (.int x9), .unset, .unset, .unset, .unset] [])) _
    refine Goes.by (fun _ k => XS.iload X5.here hx rfl (hb hby at_83) rfl k) ?_
    show Goes p.tables e below (T5.setTop (mkF m 85 #[.val (.int pd1), .val (.int pg1), .val (.int pn1), .val (.int pd2), .val (.int pg2), .val (.int pm), .val (.int x1), .val (.int x2), .val (.int x3), .val (.int x4), .val (.int x6), .val (.int x8), .val (.int x9), .unset, .unset, .unset, .unset] [(.int x4)])) _
    refine Goes.by (fun _ k => XS.iload X5.here hx rfl (hb hby at_85) rfl k) ?_
    show Goes p.tables e below (T5.setTop (mkF m 87 #[.val (.int pd1), .val (.int pg1), .val (.int pn1), .val (.int pd2), .val (.int pg2), .val (.int pm), .val (.int x1), .val (.int x2), .val (.int x3), .val (.int x4), .val (.int x6), .val (.int x8), .val (.int x9), .unset, .unset, .unset, .unset] [(.int x8), (.int x4)])) _
    refine Goes.by (fun _ k => XS.iload X5.here hx rfl (hb hby at_87) rfl k) ?_
    show Goes p.tables e below (T5.setTop (mkF m 89 #[.val (.int pd1), .val (.int pg1), .val (.int pn1), .val (.int pd2), .val (.int pg2), .val (.int pm), .val (.int x1), .val (.int x2), .val (.int x3), .val (.int x4), .val (.int x6), .val (.int x8), .val (.int x9), .unset, .unset, .unset, .unset] [(.int x9), (.int x8), (.int x4)])) _
    obtain ⟨_, _, ⟨T10, L10, k10, n10⟩, -, X10, ⟨Lc10, hQ10, l10, y10, z10⟩, st10⟩ := Jvm.LawKit.callS X5 hx (y := (⟨"castkey/card/KeyIdHashCodePinLaw", "pre", "(III)I"⟩ : MethodName)) hown (mvT hZ (hw _ (List.mem_of_getElem? (i := 2) rfl))) (mvT hZ (hw _ (List.mem_of_getElem? (i := 3) rfl))) (mvT hZ (hw _ (List.mem_of_getElem? (i := 4) rfl))) (mvT hZ (hw _ (List.mem_of_getElem? (i := 5) rfl))) (by decide) (backOf (W := 0) (rm1 l Z a0 hw [] x4 x8 x9 h0 n0 Z0) hZ (hw _ (List.mem_of_getElem? (i := 5) rfl)) (hw _ (List.mem_of_getElem? (i := 4) rfl)) (by decide) (by decide)) (g := (mkF m 89 #[.val (.int pd1), .val (.int pg1), .val (.int pn1), .val (.int pd2), .val (.int pg2), .val (.int pm), .val (.int x1), .val (.int x2), .val (.int x3), .val (.int x4), .val (.int x6), .val (.int x8), .val (.int x9), .unset, .unset, .unset, .unset] [(.int x9), (.int x8), (.int x4)])) rfl (by rw [hml]; rfl) (argsL := [(.int x4), (.int x8), (.int x9)]) (rest := []) (lenOf pd_1 rfl) rfl (by show 2 * 0 + _ ≤ _; exact Nat.le_of_eq rfl) (hb hby at_89) (fun _ _ => ⟨rfl, e5, (by decide : 0 + 0 ≤ _), (by decide : 0 + 0 ≤ _)⟩)
    dsimp only [Pt.U, Pt.locs, Pt.cells, Pt.slots] at X10 l10 y10 z10 st10 hQ10
    subst l10 y10 z10
    obtain ⟨rfl, N10q, e10⟩ := hQ10
    have N10 := Fr.app N5 N10q
    refine Goes.by st10 ?_
    show Goes p.tables e below (T10.setTop (mkF m 92 #[.val (.int pd1), .val (.int pg1), .val (.int pn1), .val (.int pd2), .val (.int pg2), .val (.int pm), .val (.int x1), .val (.int x2), .val (.int x3), .val (.int x4), .val (.int x6), .val (.int x8), .val (.int x9), .unset, .unset, .unset, .unset] [(.int (fn1 x4 x8 x9))])) _
    obtain ⟨x11, hx11⟩ : ∃ z : Int32, z = (fn1 x4 x8 x9) := ⟨_, rfl⟩
    refine Goes.by (fun _ k => XS.istore X10.here hx rfl (hb hby at_92) rfl (l' := #[.val (.int pd1), .val (.int pg1), .val (.int pn1), .val (.int pd2), .val (.int pg2), .val (.int pm), .val (.int x1), .val (.int x2), .val (.int x3), .val (.int x4), .val (.int x6), .val (.int x8), .val (.int x9), .val (.int x11), .unset, .unset, .unset]) (by rw [hx11]; rfl) k) ?_
    show Goes p.tables e below (T10.setTop (mkF m 94 #[.val (.int pd1), .val (.int pg1), .val (.int pn1), .val (.int pd2), .val (.int pg2), .val (.int pm), .val (.int x1), .val (.int x2), .val (.int x3), .val (.int x4), .val (.int x6), .val (.int x8), .val (.int x9), .val (.int x11), .unset, .unset, .unset] [])) _
    obtain ⟨T12, h12, X12, e12, E12, A12, D12, -, st12⟩ := newO X10 hx hZ hown (hw _ (List.mem_of_getElem? (i := 7) rfl)) (hw _ (List.mem_of_getElem? (i := 8) rfl)) (hw _ (List.mem_of_getElem? (i := 9) rfl)) e10 (g := (mkF m 94 #[.val (.int pd1), .val (.int pg1), .val (.int pn1), .val (.int pd2), .val (.int pg2), .val (.int pm), .val (.int x1), .val (.int x2), .val (.int x3), .val (.int x4), .val (.int x6), .val (.int x8), .val (.int x9), .val (.int x11), .unset, .unset, .unset] [])) rfl (hb hby at_94) (by decide) (by decide)
    obtain ⟨b12, g12⟩ : ∃ z, z = h0.size := ⟨_, rfl⟩
    rw [← g12] at A12 D12 st12
    have g_b12 : n0 ≤ b12 := Nat.le_trans Z0 (Nat.le_of_eq g12.symm)
    have sz_b12 : h0.size ≤ b12 := Nat.le_trans (Keep.refl h0 []).1 (Nat.le_of_eq g12.symm)
    have Zs12 : n0 ≤ h12.size := Nat.le_trans Z0 E12.1
    have K12 : Keep h0 h12 [] := (Keep.refl h0 []).ext E12
    refine Goes.by st12 ?_
    have E_b12 : Exa Z h12 b12 "castkey/card/KeyId" := A12
    have F_b12_keyDomainId : Fld Z h12 b12 "castkey/card/KeyId" "keyDomainId" "I" (.int (0 : Int32)) := D12 (Or.inr (hw _ (List.mem_of_getElem? (i := 24) rfl))) (ty := .int) (by decide)
    have F_b12_keyGroup : Fld Z h12 b12 "castkey/card/KeyId" "keyGroup" "I" (.int (0 : Int32)) := D12 (Or.inr (hw _ (List.mem_of_getElem? (i := 26) rfl))) (ty := .int) (by decide)
    have F_b12_keyNumber : Fld Z h12 b12 "castkey/card/KeyId" "keyNumber" "I" (.int (0 : Int32)) := D12 (Or.inr (hw _ (List.mem_of_getElem? (i := 28) rfl))) (ty := .int) (by decide)
    show Goes p.tables e below (T12.setTop (mkF m 97 #[.val (.int pd1), .val (.int pg1), .val (.int pn1), .val (.int pd2), .val (.int pg2), .val (.int pm), .val (.int x1), .val (.int x2), .val (.int x3), .val (.int x4), .val (.int x6), .val (.int x8), .val (.int x9), .val (.int x11), .unset, .unset, .unset] [(.ref b12)])) _
    refine Goes.by (fun _ k => XS.dup X12.here hx rfl (hb hby at_97) rfl rfl k) ?_
    show Goes p.tables e below (T12.setTop (mkF m 98 #[.val (.int pd1), .val (.int pg1), .val (.int pn1), .val (.int pd2), .val (.int pg2), .val (.int pm), .val (.int x1), .val (.int x2), .val (.int x3), .val (.int x4), .val (.int x6), .val (.int x8), .val (.int x9), .val (.int x11), .unset, .unset, .unset] [(.ref b12), (.ref b12)])) _
    refine Goes.by (fun _ k => XS.iload X12.here hx rfl (hb hby at_98) rfl k) ?_
    show Goes p.tables e below (T12.setTop (mkF m 100 #[.val (.int pd1), .val (.int pg1), .val (.int pn1), .val (.int pd2), .val (.int pg2), .val (.int pm), .val (.int x1), .val (.int x2), .val (.int x3), .val (.int x4), .val (.int x6), .val (.int x8), .val (.int x9), .val (.int x11), .unset, .unset, .unset] [(.int x1), (.ref b12), (.ref b12)])) _
    refine Goes.by (fun _ k => XS.iload X12.here hx rfl (hb hby at_100) rfl k) ?_
    show Goes p.tables e below (T12.setTop (mkF m 102 #[.val (.int pd1), .val (.int pg1), .val (.int pn1), .val (.int pd2), .val (.int pg2), .val (.int pm), .val (.int x1), .val (.int x2), .val (.int x3), .val (.int x4), .val (.int x6), .val (.int x8), .val (.int x9), .val (.int x11), .unset, .unset, .unset] [(.int x2), (.int x1), (.ref b12), (.ref b12)])) _
    refine Goes.by (fun _ k => XS.iload X12.here hx rfl (hb hby at_102) rfl k) ?_
    show Goes p.tables e below (T12.setTop (mkF m 104 #[.val (.int pd1), .val (.int pg1), .val (.int pn1), .val (.int pd2), .val (.int pg2), .val (.int pm), .val (.int x1), .val (.int x2), .val (.int x3), .val (.int x4), .val (.int x6), .val (.int x8), .val (.int x9), .val (.int x11), .unset, .unset, .unset] [(.int x3), (.int x2), (.int x1), (.ref b12), (.ref b12)])) _
    obtain ⟨_, _, ⟨T13, L13, k13, n13⟩, -, X13, ⟨Lc13, hQ13, l13, y13, z13⟩, st13⟩ := X12.specialBack hx (y := (⟨"castkey/card/KeyId", "<init>", "(III)V"⟩ : MethodName)) rfl hown (mvT hZ (hw _ (List.mem_of_getElem? (i := 10) rfl))) (mvT hZ (hw _ (List.mem_of_getElem? (i := 11) rfl))) (mvT hZ (hw _ (List.mem_of_getElem? (i := 12) rfl))) (by decide) (backOf (W := 1) (rm2 l Z a0 hw [] b12 x1 x2 x3 h12 n0 Zs12 E_b12 F_b12_keyDomainId F_b12_keyGroup F_b12_keyNumber g_b12 (by rw [hx1]; exact (own_m24 _).1) (by rw [hx1]; exact (own_m24 _).2) (by rw [hx2]; exact (own_m16 _).1) (by rw [hx2]; exact (own_m16 _).2) (by rw [hx3]; exact (own_m16 _).1) (by rw [hx3]; exact (own_m16 _).2)) hZ (hw _ (List.mem_of_getElem? (i := 12) rfl)) (hw _ (List.mem_of_getElem? (i := 9) rfl)) (by decide) (by decide)) (g := (mkF m 104 #[.val (.int pd1), .val (.int pg1), .val (.int pn1), .val (.int pd2), .val (.int pg2), .val (.int pm), .val (.int x1), .val (.int x2), .val (.int x3), .val (.int x4), .val (.int x6), .val (.int x8), .val (.int x9), .val (.int x11), .unset, .unset, .unset] [(.int x3), (.int x2), (.int x1), (.ref b12), (.ref b12)])) rfl (by rw [hml]; rfl) (Steps.refl _) (a := b12) (argsL := [(.int x1), (.int x2), (.int x3)]) (rest := [(.ref b12)]) (lenOf pd_2 rfl) rfl (by show 2 * 0 + _ ≤ _; exact Nat.le_of_eq rfl) (hb hby at_104) (fun _ _ => ⟨rfl, e12, (by decide : 1 + 0 ≤ _), (by decide : 3 + 0 ≤ _)⟩)
    dsimp only [Pt.U, Pt.locs, Pt.cells, Pt.slots] at X13 l13 y13 z13 st13 hQ13
    subst l13 y13 z13
    obtain ⟨rfl, N13q, Kq13, po13_0, po13_1, po13_2, po13_3⟩ := hQ13
    have N13 := Fr.app N10 N13q
    refine Goes.via st13 ?_
    have Zs13 : n0 ≤ T13.heap.size := Nat.le_trans Zs12 Kq13.1
    have K13 : Keep h0 T13.heap [] := K12.trans Kq13 (allS (Or.inr sz_b12) all0)
    have E_b12 : Exa Z T13.heap b12 "castkey/card/KeyId" := E_b12.keep Kq13
    have E_b12 : Exa Z T13.heap b12 "castkey/card/KeyId" := po13_0
    have F_b12_keyDomainId : Fld Z T13.heap b12 "castkey/card/KeyId" "keyDomainId" "I" (.int x1) := po13_1
    have F_b12_keyGroup : Fld Z T13.heap b12 "castkey/card/KeyId" "keyGroup" "I" (.int x2) := po13_2
    have F_b12_keyNumber : Fld Z T13.heap b12 "castkey/card/KeyId" "keyNumber" "I" (.int x3) := po13_3
    show Goes p.tables e below (T13.setTop (mkF m 107 #[.val (.int pd1), .val (.int pg1), .val (.int pn1), .val (.int pd2), .val (.int pg2), .val (.int pm), .val (.int x1), .val (.int x2), .val (.int x3), .val (.int x4), .val (.int x6), .val (.int x8), .val (.int x9), .val (.int x11), .unset, .unset, .unset] [(.ref b12)])) _
    refine Goes.by (fun _ k => XS.astore X13.here hx rfl (hb hby at_107) rfl rfl (l' := #[.val (.int pd1), .val (.int pg1), .val (.int pn1), .val (.int pd2), .val (.int pg2), .val (.int pm), .val (.int x1), .val (.int x2), .val (.int x3), .val (.int x4), .val (.int x6), .val (.int x8), .val (.int x9), .val (.int x11), .val (.ref b12), .unset, .unset]) rfl k) ?_
    show Goes p.tables e below (T13.setTop (mkF m 109 #[.val (.int pd1), .val (.int pg1), .val (.int pn1), .val (.int pd2), .val (.int pg2), .val (.int pm), .val (.int x1), .val (.int x2), .val (.int x3), .val (.int x4), .val (.int x6), .val (.int x8), .val (.int x9), .val (.int x11), .val (.ref b12), .unset, .unset] [])) _
    obtain ⟨T14, h14, X14, e14, E14, A14, D14, -, st14⟩ := newO X13 hx hZ hown (hw _ (List.mem_of_getElem? (i := 7) rfl)) (hw _ (List.mem_of_getElem? (i := 8) rfl)) (hw _ (List.mem_of_getElem? (i := 9) rfl)) rfl (g := (mkF m 109 #[.val (.int pd1), .val (.int pg1), .val (.int pn1), .val (.int pd2), .val (.int pg2), .val (.int pm), .val (.int x1), .val (.int x2), .val (.int x3), .val (.int x4), .val (.int x6), .val (.int x8), .val (.int x9), .val (.int x11), .val (.ref b12), .unset, .unset] [])) rfl (hb hby at_109) (by decide) (by decide)
    obtain ⟨b14, g14⟩ : ∃ z, z = T13.heap.size := ⟨_, rfl⟩
    rw [← g14] at A14 D14 st14
    have g_b14 : n0 ≤ b14 := Nat.le_trans Zs13 (Nat.le_of_eq g14.symm)
    have sz_b14 : h0.size ≤ b14 := Nat.le_trans K13.1 (Nat.le_of_eq g14.symm)
    have ne_b12_b14 : b12 ≠ b14 := Nat.ne_of_lt (Nat.lt_of_lt_of_le E_b12.lt (Nat.le_of_eq g14.symm))
    have Zs14 : n0 ≤ h14.size := Nat.le_trans Zs13 E14.1
    have K14 : Keep h0 h14 [] := K13.ext E14
    refine Goes.by st14 ?_
    have E_b12 : Exa Z h14 b12 "castkey/card/KeyId" := E_b12.ext E14
    have F_b12_keyDomainId : Fld Z h14 b12 "castkey/card/KeyId" "keyDomainId" "I" (.int x1) := F_b12_keyDomainId.ext E14
    have F_b12_keyGroup : Fld Z h14 b12 "castkey/card/KeyId" "keyGroup" "I" (.int x2) := F_b12_keyGroup.ext E14
    have F_b12_keyNumber : Fld Z h14 b12 "castkey/card/KeyId" "keyNumber" "I" (.int x3) := F_b12_keyNumber.ext E14
    have E_b14 : Exa Z h14 b14 "castkey/card/KeyId" := A14
    have F_b14_keyDomainId : Fld Z h14 b14 "castkey/card/KeyId" "keyDomainId" "I" (.int (0 : Int32)) := D14 (Or.inr (hw _ (List.mem_of_getElem? (i := 24) rfl))) (ty := .int) (by decide)
    have F_b14_keyGroup : Fld Z h14 b14 "castkey/card/KeyId" "keyGroup" "I" (.int (0 : Int32)) := D14 (Or.inr (hw _ (List.mem_of_getElem? (i := 26) rfl))) (ty := .int) (by decide)
    have F_b14_keyNumber : Fld Z h14 b14 "castkey/card/KeyId" "keyNumber" "I" (.int (0 : Int32)) := D14 (Or.inr (hw _ (List.mem_of_getElem? (i := 28) rfl))) (ty := .int) (by decide)
    show Goes p.tables e below (T14.setTop (mkF m 112 #[.val (.int pd1), .val (.int pg1), .val (.int pn1), .val (.int pd2), .val (.int pg2), .val (.int pm), .val (.int x1), .val (.int x2), .val (.int x3), .val (.int x4), .val (.int x6), .val (.int x8), .val (.int x9), .val (.int x11), .val (.ref b12), .unset, .unset] [(.ref b14)])) _
    refine Goes.by (fun _ k => XS.dup X14.here hx rfl (hb hby at_112) rfl rfl k) ?_
    show Goes p.tables e below (T14.setTop (mkF m 113 #[.val (.int pd1), .val (.int pg1), .val (.int pn1), .val (.int pd2), .val (.int pg2), .val (.int pm), .val (.int x1), .val (.int x2), .val (.int x3), .val (.int x4), .val (.int x6), .val (.int x8), .val (.int x9), .val (.int x11), .val (.ref b12), .unset, .unset] [(.ref b14), (.ref b14)])) _
    refine Goes.by (fun _ k => XS.iload X14.here hx rfl (hb hby at_113) rfl k) ?_
    show Goes p.tables e below (T14.setTop (mkF m 115 #[.val (.int pd1), .val (.int pg1), .val (.int pn1), .val (.int pd2), .val (.int pg2), .val (.int pm), .val (.int x1), .val (.int x2), .val (.int x3), .val (.int x4), .val (.int x6), .val (.int x8), .val (.int x9), .val (.int x11), .val (.ref b12), .unset, .unset] [(.int x4), (.ref b14), (.ref b14)])) _
    refine Goes.by (fun _ k => XS.iload X14.here hx rfl (hb hby at_115) rfl k) ?_
    show Goes p.tables e below (T14.setTop (mkF m 117 #[.val (.int pd1), .val (.int pg1), .val (.int pn1), .val (.int pd2), .val (.int pg2), .val (.int pm), .val (.int x1), .val (.int x2), .val (.int x3), .val (.int x4), .val (.int x6), .val (.int x8), .val (.int x9), .val (.int x11), .val (.ref b12), .unset, .unset] [(.int x8), (.int x4), (.ref b14), (.ref b14)])) _
    refine Goes.by (fun _ k => XS.iload X14.here hx rfl (hb hby at_117) rfl k) ?_
    show Goes p.tables e below (T14.setTop (mkF m 119 #[.val (.int pd1), .val (.int pg1), .val (.int pn1), .val (.int pd2), .val (.int pg2), .val (.int pm), .val (.int x1), .val (.int x2), .val (.int x3), .val (.int x4), .val (.int x6), .val (.int x8), .val (.int x9), .val (.int x11), .val (.ref b12), .unset, .unset] [(.int x9), (.int x8), (.int x4), (.ref b14), (.ref b14)])) _
    obtain ⟨_, _, ⟨T15, L15, k15, n15⟩, -, X15, ⟨Lc15, hQ15, l15, y15, z15⟩, st15⟩ := X14.specialBack hx (y := (⟨"castkey/card/KeyId", "<init>", "(III)V"⟩ : MethodName)) rfl hown (mvT hZ (hw _ (List.mem_of_getElem? (i := 10) rfl))) (mvT hZ (hw _ (List.mem_of_getElem? (i := 11) rfl))) (mvT hZ (hw _ (List.mem_of_getElem? (i := 12) rfl))) (by decide) (backOf (W := 1) (rm2 l Z a0 hw [] b14 x4 x8 x9 h14 n0 Zs14 E_b14 F_b14_keyDomainId F_b14_keyGroup F_b14_keyNumber g_b14 (by rw [hx4]; exact (own_m24 _).1) (by rw [hx4]; exact (own_m24 _).2) (by rw [hx8]; exact (own_s16 _).1) (by rw [hx8]; exact (own_s16 _).2) (by rw [hx9]; exact (own_m16 _).1) (by rw [hx9]; exact (own_m16 _).2)) hZ (hw _ (List.mem_of_getElem? (i := 12) rfl)) (hw _ (List.mem_of_getElem? (i := 9) rfl)) (by decide) (by decide)) (g := (mkF m 119 #[.val (.int pd1), .val (.int pg1), .val (.int pn1), .val (.int pd2), .val (.int pg2), .val (.int pm), .val (.int x1), .val (.int x2), .val (.int x3), .val (.int x4), .val (.int x6), .val (.int x8), .val (.int x9), .val (.int x11), .val (.ref b12), .unset, .unset] [(.int x9), (.int x8), (.int x4), (.ref b14), (.ref b14)])) rfl (by rw [hml]; rfl) (Steps.refl _) (a := b14) (argsL := [(.int x4), (.int x8), (.int x9)]) (rest := [(.ref b14)]) (lenOf pd_2 rfl) rfl (by show 2 * 0 + _ ≤ _; exact Nat.le_of_eq rfl) (hb hby at_119) (fun _ _ => ⟨rfl, e14, (by decide : 2 + 0 ≤ _), (by decide : 6 + 0 ≤ _)⟩)
    dsimp only [Pt.U, Pt.locs, Pt.cells, Pt.slots] at X15 l15 y15 z15 st15 hQ15
    subst l15 y15 z15
    obtain ⟨rfl, N15q, Kq15, po15_0, po15_1, po15_2, po15_3⟩ := hQ15
    have N15 := Fr.app N13 N15q
    refine Goes.via st15 ?_
    have Zs15 : n0 ≤ T15.heap.size := Nat.le_trans Zs14 Kq15.1
    have K15 : Keep h0 T15.heap [] := K14.trans Kq15 (allS (Or.inr sz_b14) all0)
    have E_b12 : Exa Z T15.heap b12 "castkey/card/KeyId" := E_b12.keep Kq15
    have F_b12_keyDomainId : Fld Z T15.heap b12 "castkey/card/KeyId" "keyDomainId" "I" (.int x1) := F_b12_keyDomainId.keep Kq15 (ninS ne_b12_b14 nin0)
    have F_b12_keyGroup : Fld Z T15.heap b12 "castkey/card/KeyId" "keyGroup" "I" (.int x2) := F_b12_keyGroup.keep Kq15 (ninS ne_b12_b14 nin0)
    have F_b12_keyNumber : Fld Z T15.heap b12 "castkey/card/KeyId" "keyNumber" "I" (.int x3) := F_b12_keyNumber.keep Kq15 (ninS ne_b12_b14 nin0)
    have E_b14 : Exa Z T15.heap b14 "castkey/card/KeyId" := E_b14.keep Kq15
    have E_b14 : Exa Z T15.heap b14 "castkey/card/KeyId" := po15_0
    have F_b14_keyDomainId : Fld Z T15.heap b14 "castkey/card/KeyId" "keyDomainId" "I" (.int x4) := po15_1
    have F_b14_keyGroup : Fld Z T15.heap b14 "castkey/card/KeyId" "keyGroup" "I" (.int x8) := po15_2
    have F_b14_keyNumber : Fld Z T15.heap b14 "castkey/card/KeyId" "keyNumber" "I" (.int x9) := po15_3
    show Goes p.tables e below (T15.setTop (mkF m 122 #[.val (.int pd1), .val (.int pg1), .val (.int pn1), .val (.int pd2), .val (.int pg2), .val (.int pm), .val (.int x1), .val (.int x2), .val (.int x3), .val (.int x4), .val (.int x6), .val (.int x8), .val (.int x9), .val (.int x11), .val (.ref b12), .unset, .unset] [(.ref b14)])) _
    refine Goes.by (fun _ k => XS.astore X15.here hx rfl (hb hby at_122) rfl rfl (l' := #[.val (.int pd1), .val (.int pg1), .val (.int pn1), .val (.int pd2), .val (.int pg2), .val (.int pm), .val (.int x1), .val (.int x2), .val (.int x3), .val (.int x4), .val (.int x6), .val (.int x8), .val (.int x9), .val (.int x11), .val (.ref b12), .val (.ref b14), .unset]) rfl k) ?_
    show Goes p.tables e below (T15.setTop (mkF m 124 #[.val (.int pd1), .val (.int pg1), .val (.int pn1), .val (.int pd2), .val (.int pg2), .val (.int pm), .val (.int x1), .val (.int x2), .val (.int x3), .val (.int x4), .val (.int x6), .val (.int x8), .val (.int x9), .val (.int x11), .val (.ref b12), .val (.ref b14), .unset] [])) _
    refine Goes.by (fun _ k => XS.aload X15.here hx rfl (hb hby at_124) rfl rfl k) ?_
    show Goes p.tables e below (T15.setTop (mkF m 126 #[.val (.int pd1), .val (.int pg1), .val (.int pn1), .val (.int pd2), .val (.int pg2), .val (.int pm), .val (.int x1), .val (.int x2), .val (.int x3), .val (.int x4), .val (.int x6), .val (.int x8), .val (.int x9), .val (.int x11), .val (.ref b12), .val (.ref b14), .unset] [(.ref b12)])) _
    obtain ⟨cq16, kq16, q16a, q16b, q16c⟩ := isOf hZ rfl E_b12
    obtain ⟨_, _, ⟨T16, L16, k16, n16⟩, -, X16, ⟨Lc16, hQ16, l16, y16, z16⟩, st16⟩ := X15.virtualBack hx (y := (⟨"castkey/card/KeyId", "hashCode", "()I"⟩ : MethodName)) (z := (⟨"castkey/card/KeyId", "hashCode", "()I"⟩ : MethodName)) hown (mvT hZ (hw _ (List.mem_of_getElem? (i := 29) rfl))) (mvT hZ (hw _ (List.mem_of_getElem? (i := 30) rfl))) (notFace_of_selects (args := #[]) (mvT hZ (hw _ (List.mem_of_getElem? (i := 32) rfl)))) (mvT hZ (hw _ (List.mem_of_getElem? (i := 32) rfl))) (mvT hZ (hw _ (List.mem_of_getElem? (i := 31) rfl))) (by decide) (backOf (W := 0) (rm5 l Z a0 hw [] b12 x1 x2 x3 T15.heap n0 Zs15 F_b12_keyDomainId F_b12_keyGroup F_b12_keyNumber) hZ (hw _ (List.mem_of_getElem? (i := 33) rfl)) (hw _ (List.mem_of_getElem? (i := 9) rfl)) (by decide) (by decide)) q16a q16c (g := (mkF m 126 #[.val (.int pd1), .val (.int pg1), .val (.int pn1), .val (.int pd2), .val (.int pg2), .val (.int pm), .val (.int x1), .val (.int x2), .val (.int x3), .val (.int x4), .val (.int x6), .val (.int x8), .val (.int x9), .val (.int x11), .val (.ref b12), .val (.ref b14), .unset] [(.ref b12)])) rfl (by rw [hml]; rfl) (Steps.refl _) (argsL := []) (rest := []) (lenOf pd_3 rfl) rfl (by show 2 * 0 + _ ≤ _; exact Nat.le_of_eq rfl) (hb hby at_126) (fun _ _ => ⟨rfl, rfl, (by decide : 2 + 0 ≤ _), (by decide : 6 + 0 ≤ _)⟩)
    dsimp only [Pt.U, Pt.locs, Pt.cells, Pt.slots] at X16 l16 y16 z16 st16 hQ16
    subst l16 y16 z16
    obtain ⟨rfl, N16q, e16⟩ := hQ16
    have N16 := Fr.app N15 N16q
    refine Goes.via st16 ?_
    show Goes p.tables e below (T16.setTop (mkF m 129 #[.val (.int pd1), .val (.int pg1), .val (.int pn1), .val (.int pd2), .val (.int pg2), .val (.int pm), .val (.int x1), .val (.int x2), .val (.int x3), .val (.int x4), .val (.int x6), .val (.int x8), .val (.int x9), .val (.int x11), .val (.ref b12), .val (.ref b14), .unset] [(.int (own_hash x1 x2 x3))])) _
    refine Goes.by (fun _ k => XS.aload X16.here hx rfl (hb hby at_129) rfl rfl k) ?_
    show Goes p.tables e below (T16.setTop (mkF m 131 #[.val (.int pd1), .val (.int pg1), .val (.int pn1), .val (.int pd2), .val (.int pg2), .val (.int pm), .val (.int x1), .val (.int x2), .val (.int x3), .val (.int x4), .val (.int x6), .val (.int x8), .val (.int x9), .val (.int x11), .val (.ref b12), .val (.ref b14), .unset] [(.ref b14), (.int (own_hash x1 x2 x3))])) _
    obtain ⟨cq17, kq17, q17a, q17b, q17c⟩ := isOf hZ e16 E_b14
    obtain ⟨_, _, ⟨T17, L17, k17, n17⟩, -, X17, ⟨Lc17, hQ17, l17, y17, z17⟩, st17⟩ := X16.virtualBack hx (y := (⟨"castkey/card/KeyId", "hashCode", "()I"⟩ : MethodName)) (z := (⟨"castkey/card/KeyId", "hashCode", "()I"⟩ : MethodName)) hown (mvT hZ (hw _ (List.mem_of_getElem? (i := 29) rfl))) (mvT hZ (hw _ (List.mem_of_getElem? (i := 30) rfl))) (notFace_of_selects (args := #[]) (mvT hZ (hw _ (List.mem_of_getElem? (i := 32) rfl)))) (mvT hZ (hw _ (List.mem_of_getElem? (i := 32) rfl))) (mvT hZ (hw _ (List.mem_of_getElem? (i := 31) rfl))) (by decide) (backOf (W := 1) (rm5 l Z a0 hw [] b14 x4 x8 x9 T15.heap n0 Zs15 F_b14_keyDomainId F_b14_keyGroup F_b14_keyNumber) hZ (hw _ (List.mem_of_getElem? (i := 33) rfl)) (hw _ (List.mem_of_getElem? (i := 9) rfl)) (by decide) (by decide)) q17a q17c (g := (mkF m 131 #[.val (.int pd1), .val (.int pg1), .val (.int pn1), .val (.int pd2), .val (.int pg2), .val (.int pm), .val (.int x1), .val (.int x2), .val (.int x3), .val (.int x4), .val (.int x6), .val (.int x8), .val (.int x9), .val (.int x11), .val (.ref b12), .val (.ref b14), .unset] [(.ref b14), (.int (own_hash x1 x2 x3))])) rfl (by rw [hml]; rfl) (Steps.refl _) (argsL := []) (rest := [(.int (own_hash x1 x2 x3))]) (lenOf pd_3 rfl) rfl (by show 2 * 0 + _ ≤ _; exact Nat.le_of_eq rfl) (hb hby at_131) (fun _ _ => ⟨rfl, e16, (by decide : 2 + 0 ≤ _), (by decide : 6 + 0 ≤ _)⟩)
    dsimp only [Pt.U, Pt.locs, Pt.cells, Pt.slots] at X17 l17 y17 z17 st17 hQ17
    subst l17 y17 z17
    obtain ⟨rfl, N17q, e17⟩ := hQ17
    have N17 := Fr.app N16 N17q
    refine Goes.via st17 ?_
    show Goes p.tables e below (T17.setTop (mkF m 134 #[.val (.int pd1), .val (.int pg1), .val (.int pn1), .val (.int pd2), .val (.int pg2), .val (.int pm), .val (.int x1), .val (.int x2), .val (.int x3), .val (.int x4), .val (.int x6), .val (.int x8), .val (.int x9), .val (.int x11), .val (.ref b12), .val (.ref b14), .unset] [(.int (own_hash x4 x8 x9)), (.int (own_hash x1 x2 x3))])) _
    by_cases hc18 : (own_hash x1 x2 x3) = (own_hash x4 x8 x9)
    · refine Goes.by (fun _ k => XS.icmpNo X17.here hx rfl (hb hby at_134) rfl (teq hc18).2 k) ?_
      show Goes p.tables e below (T17.setTop (mkF m 137 #[.val (.int pd1), .val (.int pg1), .val (.int pn1), .val (.int pd2), .val (.int pg2), .val (.int pm), .val (.int x1), .val (.int x2), .val (.int x3), .val (.int x4), .val (.int x6), .val (.int x8), .val (.int x9), .val (.int x11), .val (.ref b12), .val (.ref b14), .unset] [])) _
      refine Goes.by (fun _ k => XS.iconst X17.here hx rfl (hb hby at_137) k) ?_
      show Goes p.tables e below (T17.setTop (mkF m 138 #[.val (.int pd1), .val (.int pg1), .val (.int pn1), .val (.int pd2), .val (.int pg2), .val (.int pm), .val (.int x1), .val (.int x2), .val (.int x3), .val (.int x4), .val (.int x6), .val (.int x8), .val (.int x9), .val (.int x11), .val (.ref b12), .val (.ref b14), .unset] [(.int (1 : Int32))])) _
      refine Goes.by (fun _ k => XS.goto X17.here hx rfl (pc0 := 138) (pc' := 142) rfl (hb hby at_138) (by decide) (by decide) k) ?_
      show Goes p.tables e below (T17.setTop (mkF m 142 #[.val (.int pd1), .val (.int pg1), .val (.int pn1), .val (.int pd2), .val (.int pg2), .val (.int pm), .val (.int x1), .val (.int x2), .val (.int x3), .val (.int x4), .val (.int x6), .val (.int x8), .val (.int x9), .val (.int x11), .val (.ref b12), .val (.ref b14), .unset] [(.int (1 : Int32))])) _
      refine Goes.by (fun _ k => XS.istore X17.here hx rfl (hb hby at_142) rfl (l' := #[.val (.int pd1), .val (.int pg1), .val (.int pn1), .val (.int pd2), .val (.int pg2), .val (.int pm), .val (.int x1), .val (.int x2), .val (.int x3), .val (.int x4), .val (.int x6), .val (.int x8), .val (.int x9), .val (.int x11), .val (.ref b12), .val (.ref b14), .val (.int (1 : Int32))]) rfl k) ?_
      show Goes p.tables e below (T17.setTop (mkF m 144 #[.val (.int pd1), .val (.int pg1), .val (.int pn1), .val (.int pd2), .val (.int pg2), .val (.int pm), .val (.int x1), .val (.int x2), .val (.int x3), .val (.int x4), .val (.int x6), .val (.int x8), .val (.int x9), .val (.int x11), .val (.ref b12), .val (.ref b14), .val (.int (1 : Int32))] [])) _
      refine Goes.by (fun _ k => XS.iload X17.here hx rfl (hb hby at_144) rfl k) ?_
      show Goes p.tables e below (T17.setTop (mkF m 146 #[.val (.int pd1), .val (.int pg1), .val (.int pn1), .val (.int pd2), .val (.int pg2), .val (.int pm), .val (.int x1), .val (.int x2), .val (.int x3), .val (.int x4), .val (.int x6), .val (.int x8), .val (.int x9), .val (.int x11), .val (.ref b12), .val (.ref b14), .val (.int (1 : Int32))] [(.int (1 : Int32))])) _
      refine Goes.by (fun _ k => XS.iload X17.here hx rfl (hb hby at_146) rfl k) ?_
      show Goes p.tables e below (T17.setTop (mkF m 148 #[.val (.int pd1), .val (.int pg1), .val (.int pn1), .val (.int pd2), .val (.int pg2), .val (.int pm), .val (.int x1), .val (.int x2), .val (.int x3), .val (.int x4), .val (.int x6), .val (.int x8), .val (.int x9), .val (.int x11), .val (.ref b12), .val (.ref b14), .val (.int (1 : Int32))] [(.int x6), (.int (1 : Int32))])) _
      refine Goes.by (fun _ k => XS.iload X17.here hx rfl (hb hby at_148) rfl k) ?_
      show Goes p.tables e below (T17.setTop (mkF m 150 #[.val (.int pd1), .val (.int pg1), .val (.int pn1), .val (.int pd2), .val (.int pg2), .val (.int pm), .val (.int x1), .val (.int x2), .val (.int x3), .val (.int x4), .val (.int x6), .val (.int x8), .val (.int x9), .val (.int x11), .val (.ref b12), .val (.ref b14), .val (.int (1 : Int32))] [(.int x11), (.int x6), (.int (1 : Int32))])) _
      refine Goes.by (fun _ k => XS.icmpNo X17.here hx rfl (hb hby at_150) rfl (teq (by rw [hx6, hx11]; exact own_mix_inj _ _ hc18 : x6 = x11)).2 k) ?_
      show Goes p.tables e below (T17.setTop (mkF m 153 #[.val (.int pd1), .val (.int pg1), .val (.int pn1), .val (.int pd2), .val (.int pg2), .val (.int pm), .val (.int x1), .val (.int x2), .val (.int x3), .val (.int x4), .val (.int x6), .val (.int x8), .val (.int x9), .val (.int x11), .val (.ref b12), .val (.ref b14), .val (.int (1 : Int32))] [(.int (1 : Int32))])) _
      refine Goes.by (fun _ k => XS.iconst X17.here hx rfl (hb hby at_153) k) ?_
      show Goes p.tables e below (T17.setTop (mkF m 154 #[.val (.int pd1), .val (.int pg1), .val (.int pn1), .val (.int pd2), .val (.int pg2), .val (.int pm), .val (.int x1), .val (.int x2), .val (.int x3), .val (.int x4), .val (.int x6), .val (.int x8), .val (.int x9), .val (.int x11), .val (.ref b12), .val (.ref b14), .val (.int (1 : Int32))] [(.int (1 : Int32)), (.int (1 : Int32))])) _
      refine Goes.by (fun _ k => XS.goto X17.here hx rfl (pc0 := 154) (pc' := 158) rfl (hb hby at_154) (by decide) (by decide) k) ?_
      show Goes p.tables e below (T17.setTop (mkF m 158 #[.val (.int pd1), .val (.int pg1), .val (.int pn1), .val (.int pd2), .val (.int pg2), .val (.int pm), .val (.int x1), .val (.int x2), .val (.int x3), .val (.int x4), .val (.int x6), .val (.int x8), .val (.int x9), .val (.int x11), .val (.ref b12), .val (.ref b14), .val (.int (1 : Int32))] [(.int (1 : Int32)), (.int (1 : Int32))])) _
      refine Goes.by (fun _ k => XS.icmpNo X17.here hx rfl (hb hby at_158) rfl (teq (by decide : (1 : Int32) = (1 : Int32))).2 k) ?_
      show Goes p.tables e below (T17.setTop (mkF m 161 #[.val (.int pd1), .val (.int pg1), .val (.int pn1), .val (.int pd2), .val (.int pg2), .val (.int pm), .val (.int x1), .val (.int x2), .val (.int x3), .val (.int x4), .val (.int x6), .val (.int x8), .val (.int x9), .val (.int x11), .val (.ref b12), .val (.ref b14), .val (.int (1 : Int32))] [])) _
      refine Goes.by (fun _ k => XS.iconst X17.here hx rfl (hb hby at_161) k) ?_
      show Goes p.tables e below (T17.setTop (mkF m 162 #[.val (.int pd1), .val (.int pg1), .val (.int pn1), .val (.int pd2), .val (.int pg2), .val (.int pm), .val (.int x1), .val (.int x2), .val (.int x3), .val (.int x4), .val (.int x6), .val (.int x8), .val (.int x9), .val (.int x11), .val (.ref b12), .val (.ref b14), .val (.int (1 : Int32))] [(.int (1 : Int32))])) _
      refine Goes.by (fun _ k => XS.goto X17.here hx rfl (pc0 := 162) (pc' := 166) rfl (hb hby at_162) (by decide) (by decide) k) ?_
      show Goes p.tables e below (T17.setTop (mkF m 166 #[.val (.int pd1), .val (.int pg1), .val (.int pn1), .val (.int pd2), .val (.int pg2), .val (.int pm), .val (.int x1), .val (.int x2), .val (.int x3), .val (.int x4), .val (.int x6), .val (.int x8), .val (.int x9), .val (.int x11), .val (.ref b12), .val (.ref b14), .val (.int (1 : Int32))] [(.int (1 : Int32))])) _
      obtain ⟨fs, hr, hrun, hended, hW, hsame⟩ := X17.leave (v := some (.int (1 : Int32))) (fun h => by rw [Bd.returns] at h; cases h)
      refine ⟨_, _, retN X17 hx (t := .boolean) Bd.returns (by simp) (hb hby at_166) hr, hrun, hended, _, _, rfl, ?_, ⟨_, rfl⟩, hW, hsame.mono (by decide) (by decide)⟩
      show Q0 Z pd1 pg1 pn1 pd2 pg2 pm h0 n0 _ T17.heap _
      rw [e17]
      exact ⟨rfl, N17⟩
    · refine Goes.by (fun _ k => XS.icmpYes X17.here hx rfl (pc0 := 134) (pc' := 141) rfl (hb hby at_134) rfl (feq hc18).2 (by decide) (by decide) k) ?_
      show Goes p.tables e below (T17.setTop (mkF m 141 #[.val (.int pd1), .val (.int pg1), .val (.int pn1), .val (.int pd2), .val (.int pg2), .val (.int pm), .val (.int x1), .val (.int x2), .val (.int x3), .val (.int x4), .val (.int x6), .val (.int x8), .val (.int x9), .val (.int x11), .val (.ref b12), .val (.ref b14), .unset] [])) _
      refine Goes.by (fun _ k => XS.iconst X17.here hx rfl (hb hby at_141) k) ?_
      show Goes p.tables e below (T17.setTop (mkF m 142 #[.val (.int pd1), .val (.int pg1), .val (.int pn1), .val (.int pd2), .val (.int pg2), .val (.int pm), .val (.int x1), .val (.int x2), .val (.int x3), .val (.int x4), .val (.int x6), .val (.int x8), .val (.int x9), .val (.int x11), .val (.ref b12), .val (.ref b14), .unset] [(.int (0 : Int32))])) _
      refine Goes.by (fun _ k => XS.istore X17.here hx rfl (hb hby at_142) rfl (l' := #[.val (.int pd1), .val (.int pg1), .val (.int pn1), .val (.int pd2), .val (.int pg2), .val (.int pm), .val (.int x1), .val (.int x2), .val (.int x3), .val (.int x4), .val (.int x6), .val (.int x8), .val (.int x9), .val (.int x11), .val (.ref b12), .val (.ref b14), .val (.int (0 : Int32))]) rfl k) ?_
      show Goes p.tables e below (T17.setTop (mkF m 144 #[.val (.int pd1), .val (.int pg1), .val (.int pn1), .val (.int pd2), .val (.int pg2), .val (.int pm), .val (.int x1), .val (.int x2), .val (.int x3), .val (.int x4), .val (.int x6), .val (.int x8), .val (.int x9), .val (.int x11), .val (.ref b12), .val (.ref b14), .val (.int (0 : Int32))] [])) _
      refine Goes.by (fun _ k => XS.iload X17.here hx rfl (hb hby at_144) rfl k) ?_
      show Goes p.tables e below (T17.setTop (mkF m 146 #[.val (.int pd1), .val (.int pg1), .val (.int pn1), .val (.int pd2), .val (.int pg2), .val (.int pm), .val (.int x1), .val (.int x2), .val (.int x3), .val (.int x4), .val (.int x6), .val (.int x8), .val (.int x9), .val (.int x11), .val (.ref b12), .val (.ref b14), .val (.int (0 : Int32))] [(.int (0 : Int32))])) _
      refine Goes.by (fun _ k => XS.iload X17.here hx rfl (hb hby at_146) rfl k) ?_
      show Goes p.tables e below (T17.setTop (mkF m 148 #[.val (.int pd1), .val (.int pg1), .val (.int pn1), .val (.int pd2), .val (.int pg2), .val (.int pm), .val (.int x1), .val (.int x2), .val (.int x3), .val (.int x4), .val (.int x6), .val (.int x8), .val (.int x9), .val (.int x11), .val (.ref b12), .val (.ref b14), .val (.int (0 : Int32))] [(.int x6), (.int (0 : Int32))])) _
      refine Goes.by (fun _ k => XS.iload X17.here hx rfl (hb hby at_148) rfl k) ?_
      show Goes p.tables e below (T17.setTop (mkF m 150 #[.val (.int pd1), .val (.int pg1), .val (.int pn1), .val (.int pd2), .val (.int pg2), .val (.int pm), .val (.int x1), .val (.int x2), .val (.int x3), .val (.int x4), .val (.int x6), .val (.int x8), .val (.int x9), .val (.int x11), .val (.ref b12), .val (.ref b14), .val (.int (0 : Int32))] [(.int x11), (.int x6), (.int (0 : Int32))])) _
      refine Goes.by (fun _ k => XS.icmpYes X17.here hx rfl (pc0 := 150) (pc' := 157) rfl (hb hby at_150) rfl (feq (by intro q; rw [hx6, hx11] at q; exact hc18 (congrArg own_mix q) : ¬ (x6 = x11))).2 (by decide) (by decide) k) ?_
      show Goes p.tables e below (T17.setTop (mkF m 157 #[.val (.int pd1), .val (.int pg1), .val (.int pn1), .val (.int pd2), .val (.int pg2), .val (.int pm), .val (.int x1), .val (.int x2), .val (.int x3), .val (.int x4), .val (.int x6), .val (.int x8), .val (.int x9), .val (.int x11), .val (.ref b12), .val (.ref b14), .val (.int (0 : Int32))] [(.int (0 : Int32))])) _
      refine Goes.by (fun _ k => XS.iconst X17.here hx rfl (hb hby at_157) k) ?_
      show Goes p.tables e below (T17.setTop (mkF m 158 #[.val (.int pd1), .val (.int pg1), .val (.int pn1), .val (.int pd2), .val (.int pg2), .val (.int pm), .val (.int x1), .val (.int x2), .val (.int x3), .val (.int x4), .val (.int x6), .val (.int x8), .val (.int x9), .val (.int x11), .val (.ref b12), .val (.ref b14), .val (.int (0 : Int32))] [(.int (0 : Int32)), (.int (0 : Int32))])) _
      refine Goes.by (fun _ k => XS.icmpNo X17.here hx rfl (hb hby at_158) rfl (teq (by decide : (0 : Int32) = (0 : Int32))).2 k) ?_
      show Goes p.tables e below (T17.setTop (mkF m 161 #[.val (.int pd1), .val (.int pg1), .val (.int pn1), .val (.int pd2), .val (.int pg2), .val (.int pm), .val (.int x1), .val (.int x2), .val (.int x3), .val (.int x4), .val (.int x6), .val (.int x8), .val (.int x9), .val (.int x11), .val (.ref b12), .val (.ref b14), .val (.int (0 : Int32))] [])) _
      refine Goes.by (fun _ k => XS.iconst X17.here hx rfl (hb hby at_161) k) ?_
      show Goes p.tables e below (T17.setTop (mkF m 162 #[.val (.int pd1), .val (.int pg1), .val (.int pn1), .val (.int pd2), .val (.int pg2), .val (.int pm), .val (.int x1), .val (.int x2), .val (.int x3), .val (.int x4), .val (.int x6), .val (.int x8), .val (.int x9), .val (.int x11), .val (.ref b12), .val (.ref b14), .val (.int (0 : Int32))] [(.int (1 : Int32))])) _
      refine Goes.by (fun _ k => XS.goto X17.here hx rfl (pc0 := 162) (pc' := 166) rfl (hb hby at_162) (by decide) (by decide) k) ?_
      show Goes p.tables e below (T17.setTop (mkF m 166 #[.val (.int pd1), .val (.int pg1), .val (.int pn1), .val (.int pd2), .val (.int pg2), .val (.int pm), .val (.int x1), .val (.int x2), .val (.int x3), .val (.int x4), .val (.int x6), .val (.int x8), .val (.int x9), .val (.int x11), .val (.ref b12), .val (.ref b14), .val (.int (0 : Int32))] [(.int (1 : Int32))])) _
      obtain ⟨fs, hr, hrun, hended, hW, hsame⟩ := X17.leave (v := some (.int (1 : Int32))) (fun h => by rw [Bd.returns] at h; cases h)
      refine ⟨_, _, retN X17 hx (t := .boolean) Bd.returns (by simp) (hb hby at_166) hr, hrun, hended, _, _, rfl, ?_, ⟨_, rfl⟩, hW, hsame.mono (by decide) (by decide)⟩
      show Q0 Z pd1 pg1 pn1 pd2 pg2 pm h0 n0 _ T17.heap _
      rw [e17]
      exact ⟨rfl, N17⟩
  · refine Goes.by (fun _ k => XS.ifNo X5.here hx rfl (hb hby at_39) rfl ((if0 _ _).trans (feq hc7).1) k) ?_
    show Goes p.tables e below (T5.setTop (mkF m 42 #[.val (.int pd1), .val (.int pg1), .val (.int pn1), .val (.int pd2), .val (.int pg2), .val (.int pm), .val (.int x1), .val (.int x2), .val (.int x3), .val (.int x4), .val (.int x6), .unset, .unset, .unset, .unset, .unset, .unset] [])) _
    refine Goes.by (fun _ k => XS.iload X5.here hx rfl (hb hby at_42) rfl k) ?_
    show Goes p.tables e below (T5.setTop (mkF m 44 #[.val (.int pd1), .val (.int pg1), .val (.int pn1), .val (.int pd2), .val (.int pg2), .val (.int pm), .val (.int x1), .val (.int x2), .val (.int x3), .val (.int x4), .val (.int x6), .unset, .unset, .unset, .unset, .unset, .unset] [(.int x6)])) _
    refine Goes.by (fun _ k => XS.iload X5.here hx rfl (hb hby at_44) rfl k) ?_
    show Goes p.tables e below (T5.setTop (mkF m 46 #[.val (.int pd1), .val (.int pg1), .val (.int pn1), .val (.int pd2), .val (.int pg2), .val (.int pm), .val (.int x1), .val (.int x2), .val (.int x3), .val (.int x4), .val (.int x6), .unset, .unset, .unset, .unset, .unset, .unset] [(.int x4), (.int x6)])) _
    refine Goes.by (fun _ k => X5.ldcI hx hown (mvT hZ (hw _ (List.mem_of_getElem? (i := 6) rfl))) (g := (mkF m 46 #[.val (.int pd1), .val (.int pg1), .val (.int pn1), .val (.int pd2), .val (.int pg2), .val (.int pm), .val (.int x1), .val (.int x2), .val (.int x3), .val (.int x4), .val (.int x6), .unset, .unset, .unset, .unset, .unset, .unset] [(.int x4), (.int x6)])) rfl (hb hby at_46) k) ?_
    show Goes p.tables e below (T5.setTop (mkF m 48 #[.val (.int pd1), .val (.int pg1), .val (.int pn1), .val (.int pd2), .val (.int pg2), .val (.int pm), .val (.int x1), .val (.int x2), .val (.int x3), .val (.int x4), .val (.int x6), .unset, .unset, .unset, .unset, .unset, .unset] [(.int (-1640531527 : Int32)), (.int x4), (.int x6)])) _
    refine Goes.by (fun _ k => XS.imul X5.here hx rfl (hb hby at_48) rfl k) ?_
    show Goes p.tables e below (T5.setTop (mkF m 49 #[.val (.int pd1), .val (.int pg1), .val (.int pn1), .val (.int pd2), .val (.int pg2), .val (.int pm), .val (.int x1), .val (.int x2), .val (.int x3), .val (.int x4), .val (.int x6), .unset, .unset, .unset, .unset, .unset, .unset] [(.int (x4 * (-1640531527 : Int32))), (.int x6)])) _
    refine Goes.by (fun _ k => XS.ixor X5.here hx rfl (hb hby at_49) rfl k) ?_
    show Goes p.tables e below (T5.setTop (mkF m 50 #[.val (.int pd1), .val (.int pg1), .val (.int pn1), .val (.int pd2), .val (.int pg2), .val (.int pm), .val (.int x1), .val (.int x2), .val (.int x3), .val (.int x4), .val (.int x6), .unset, .unset, .unset, .unset, .unset, .unset] [(.int (x6 ^^^ (x4 * (-1640531527 : Int32))))])) _
    obtain ⟨x19, hx19⟩ : ∃ z : Int32, z = (x6 ^^^ (x4 * (-1640531527 : Int32))) := ⟨_, rfl⟩
    refine Goes.by (fun _ k => XS.istore X5.here hx rfl (hb hby at_50) rfl (l' := #[.val (.int pd1), .val (.int pg1), .val (.int pn1), .val (.int pd2), .val (.int pg2), .val (.int pm), .val (.int x1), .val (.int x2), .val (.int x3), .val (.int x4), .val (.int x6), .unset, .unset, .val (.int x19), .unset, .unset, .unset]) (by rw [hx19]; rfl) k) ?_
    show Goes p.tables e below (T5.setTop (mkF m 52 #[.val (.int pd1), .val (.int pg1), .val (.int pn1), .val (.int pd2), .val (.int pg2), .val (.int pm), .val (.int x1), .val (.int x2), .val (.int x3), .val (.int x4), .val (.int x6), .unset, .unset, .val (.int x19), .unset, .unset, .unset] [])) _
    refine Goes.by (fun _ k => XS.iload X5.here hx rfl (hb hby at_52) rfl k) ?_
    show Goes p.tables e below (T5.setTop (mkF m 54 #[.val (.int pd1), .val (.int pg1), .val (.int pn1), .val (.int pd2), .val (.int pg2), .val (.int pm), .val (.int x1), .val (.int x2), .val (.int x3), .val (.int x4), .val (.int x6), .unset, .unset, .val (.int x19), .unset, .unset, .unset] [(.int x19)])) _
    refine Goes.by (fun _ k => XS.bipush X5.here hx rfl (hb hby at_54) k) ?_
    show Goes p.tables e below (T5.setTop (mkF m 56 #[.val (.int pd1), .val (.int pg1), .val (.int pn1), .val (.int pd2), .val (.int pg2), .val (.int pm), .val (.int x1), .val (.int x2), .val (.int x3), .val (.int x4), .val (.int x6), .unset, .unset, .val (.int x19), .unset, .unset, .unset] [(.int (16 : Int32)), (.int x19)])) _
    refine Goes.by (fun _ k => XS.iushr X5.here hx rfl (hb hby at_56) rfl k) ?_
    show Goes p.tables e below (T5.setTop (mkF m 57 #[.val (.int pd1), .val (.int pg1), .val (.int pn1), .val (.int pd2), .val (.int pg2), .val (.int pm), .val (.int x1), .val (.int x2), .val (.int x3), .val (.int x4), .val (.int x6), .unset, .unset, .val (.int x19), .unset, .unset, .unset] [(.int ((x19.toUInt32 >>> ((16 : Int32) &&& 31).toUInt32).toInt32))])) _
    obtain ⟨x20, hx20⟩ : ∃ z : Int32, z = ((x19.toUInt32 >>> ((16 : Int32) &&& 31).toUInt32).toInt32) := ⟨_, rfl⟩
    refine Goes.by (fun _ k => XS.istore X5.here hx rfl (hb hby at_57) rfl (l' := #[.val (.int pd1), .val (.int pg1), .val (.int pn1), .val (.int pd2), .val (.int pg2), .val (.int pm), .val (.int x1), .val (.int x2), .val (.int x3), .val (.int x4), .val (.int x6), .val (.int x20), .unset, .val (.int x19), .unset, .unset, .unset]) (by rw [hx20]; rfl) k) ?_
    show Goes p.tables e below (T5.setTop (mkF m 59 #[.val (.int pd1), .val (.int pg1), .val (.int pn1), .val (.int pd2), .val (.int pg2), .val (.int pm), .val (.int x1), .val (.int x2), .val (.int x3), .val (.int x4), .val (.int x6), .val (.int x20), .unset, .val (.int x19), .unset, .unset, .unset] [])) _
    refine Goes.by (fun _ k => XS.iload X5.here hx rfl (hb hby at_59) rfl k) ?_
    show Goes p.tables e below (T5.setTop (mkF m 61 #[.val (.int pd1), .val (.int pg1), .val (.int pn1), .val (.int pd2), .val (.int pg2), .val (.int pm), .val (.int x1), .val (.int x2), .val (.int x3), .val (.int x4), .val (.int x6), .val (.int x20), .unset, .val (.int x19), .unset, .unset, .unset] [(.int x19)])) _
    refine Goes.by (fun _ k => X5.ldcI hx hown (mvT hZ (hw _ (List.mem_of_getElem? (i := 1) rfl))) (g := (mkF m 61 #[.val (.int pd1), .val (.int pg1), .val (.int pn1), .val (.int pd2), .val (.int pg2), .val (.int pm), .val (.int x1), .val (.int x2), .val (.int x3), .val (.int x4), .val (.int x6), .val (.int x20), .unset, .val (.int x19), .unset, .unset, .unset] [(.int x19)])) rfl (hb hby at_61) k) ?_
    show Goes p.tables e below (T5.setTop (mkF m 63 #[.val (.int pd1), .val (.int pg1), .val (.int pn1), .val (.int pd2), .val (.int pg2), .val (.int pm), .val (.int x1), .val (.int x2), .val (.int x3), .val (.int x4), .val (.int x6), .val (.int x20), .unset, .val (.int x19), .unset, .unset, .unset] [(.int (65535 : Int32)), (.int x19)])) _
    refine Goes.by (fun _ k => XS.iand X5.here hx rfl (hb hby at_63) rfl k) ?_
    show Goes p.tables e below (T5.setTop (mkF m 64 #[.val (.int pd1), .val (.int pg1), .val (.int pn1), .val (.int pd2), .val (.int pg2), .val (.int pm), .val (.int x1), .val (.int x2), .val (.int x3), .val (.int x4), .val (.int x6), .val (.int x20), .unset, .val (.int x19), .unset, .unset, .unset] [(.int (x19 &&& (65535 : Int32)))])) _
    obtain ⟨x21, hx21⟩ : ∃ z : Int32, z = (x19 &&& (65535 : Int32)) := ⟨_, rfl⟩
    refine Goes.by (fun _ k => XS.istore X5.here hx rfl (hb hby at_64) rfl (l' := #[.val (.int pd1), .val (.int pg1), .val (.int pn1), .val (.int pd2), .val (.int pg2), .val (.int pm), .val (.int x1), .val (.int x2), .val (.int x3), .val (.int x4), .val (.int x6), .val (.int x20), .val (.int x21), .val (.int x19), .unset, .unset, .unset]) (by rw [hx21]; rfl) k) ?_
    show Goes p.tables e below (T5.setTop (mkF m 66 #[.val (.int pd1), .val (.int pg1), .val (.int pn1), .val (.int pd2), .val (.int pg2), .val (.int pm), .val (.int x1), .val (.int x2), .val (.int x3), .val (.int x4), .val (.int x6), .val (.int x20), .val (.int x21), .val (.int x19), .unset, .unset, .unset] [])) _
    refine Goes.by (fun _ k => XS.goto X5.here hx rfl (pc0 := 66) (pc' := 83) rfl (hb hby at_66) (by decide) (by decide) k) ?_
    show Goes p.tables e below (T5.setTop (mkF m 83 #[.val (.int pd1), .val (.int pg1), .val (.int pn1), .val (.int pd2), .val (.int pg2), .val (.int pm), .val (.int x1), .val (.int x2), .val (.int x3), .val (.int x4), .val (.int x6), .val (.int x20), .val (.int x21), .val (.int x19), .unset, .unset, .unset] [])) _
    refine Goes.by (fun _ k => XS.iload X5.here hx rfl (hb hby at_83) rfl k) ?_
    show Goes p.tables e below (T5.setTop (mkF m 85 #[.val (.int pd1), .val (.int pg1), .val (.int pn1), .val (.int pd2), .val (.int pg2), .val (.int pm), .val (.int x1), .val (.int x2), .val (.int x3), .val (.int x4), .val (.int x6), .val (.int x20), .val (.int x21), .val (.int x19), .unset, .unset, .unset] [(.int x4)])) _
    refine Goes.by (fun _ k => XS.iload X5.here hx rfl (hb hby at_85) rfl k) ?_
    show Goes p.tables e below (T5.setTop (mkF m 87 #[.val (.int pd1), .val (.int pg1), .val (.int pn1), .val (.int pd2), .val (.int pg2), .val (.int pm), .val (.int x1), .val (.int x2), .val (.int x3), .val (.int x4), .val (.int x6), .val (.int x20), .val (.int x21), .val (.int x19), .unset, .unset, .unset] [(.int x20), (.int x4)])) _
    refine Goes.by (fun _ k => XS.iload X5.here hx rfl (hb hby at_87) rfl k) ?_
    show Goes p.tables e below (T5.setTop (mkF m 89 #[.val (.int pd1), .val (.int pg1), .val (.int pn1), .val (.int pd2), .val (.int pg2), .val (.int pm), .val (.int x1), .val (.int x2), .val (.int x3), .val (.int x4), .val (.int x6), .val (.int x20), .val (.int x21), .val (.int x19), .unset, .unset, .unset] [(.int x21), (.int x20), (.int x4)])) _
    obtain ⟨_, _, ⟨T22, L22, k22, n22⟩, -, X22, ⟨Lc22, hQ22, l22, y22, z22⟩, st22⟩ := Jvm.LawKit.callS X5 hx (y := (⟨"castkey/card/KeyIdHashCodePinLaw", "pre", "(III)I"⟩ : MethodName)) hown (mvT hZ (hw _ (List.mem_of_getElem? (i := 2) rfl))) (mvT hZ (hw _ (List.mem_of_getElem? (i := 3) rfl))) (mvT hZ (hw _ (List.mem_of_getElem? (i := 4) rfl))) (mvT hZ (hw _ (List.mem_of_getElem? (i := 5) rfl))) (by decide) (backOf (W := 0) (rm1 l Z a0 hw [] x4 x20 x21 h0 n0 Z0) hZ (hw _ (List.mem_of_getElem? (i := 5) rfl)) (hw _ (List.mem_of_getElem? (i := 4) rfl)) (by decide) (by decide)) (g := (mkF m 89 #[.val (.int pd1), .val (.int pg1), .val (.int pn1), .val (.int pd2), .val (.int pg2), .val (.int pm), .val (.int x1), .val (.int x2), .val (.int x3), .val (.int x4), .val (.int x6), .val (.int x20), .val (.int x21), .val (.int x19), .unset, .unset, .unset] [(.int x21), (.int x20), (.int x4)])) rfl (by rw [hml]; rfl) (argsL := [(.int x4), (.int x20), (.int x21)]) (rest := []) (lenOf pd_1 rfl) rfl (by show 2 * 0 + _ ≤ _; exact Nat.le_of_eq rfl) (hb hby at_89) (fun _ _ => ⟨rfl, e5, (by decide : 0 + 0 ≤ _), (by decide : 0 + 0 ≤ _)⟩)
    dsimp only [Pt.U, Pt.locs, Pt.cells, Pt.slots] at X22 l22 y22 z22 st22 hQ22
    subst l22 y22 z22
    obtain ⟨rfl, N22q, e22⟩ := hQ22
    have N22 := Fr.app N5 N22q
    refine Goes.by st22 ?_
    show Goes p.tables e below (T22.setTop (mkF m 92 #[.val (.int pd1), .val (.int pg1), .val (.int pn1), .val (.int pd2), .val (.int pg2), .val (.int pm), .val (.int x1), .val (.int x2), .val (.int x3), .val (.int x4), .val (.int x6), .val (.int x20), .val (.int x21), .val (.int x19), .unset, .unset, .unset] [(.int (fn1 x4 x20 x21))])) _
    obtain ⟨x23, hx23⟩ : ∃ z : Int32, z = (fn1 x4 x20 x21) := ⟨_, rfl⟩
    refine Goes.by (fun _ k => XS.istore X22.here hx rfl (hb hby at_92) rfl (l' := #[.val (.int pd1), .val (.int pg1), .val (.int pn1), .val (.int pd2), .val (.int pg2), .val (.int pm), .val (.int x1), .val (.int x2), .val (.int x3), .val (.int x4), .val (.int x6), .val (.int x20), .val (.int x21), .val (.int x23), .unset, .unset, .unset]) (by rw [hx23]; rfl) k) ?_
    show Goes p.tables e below (T22.setTop (mkF m 94 #[.val (.int pd1), .val (.int pg1), .val (.int pn1), .val (.int pd2), .val (.int pg2), .val (.int pm), .val (.int x1), .val (.int x2), .val (.int x3), .val (.int x4), .val (.int x6), .val (.int x20), .val (.int x21), .val (.int x23), .unset, .unset, .unset] [])) _
    obtain ⟨T24, h24, X24, e24, E24, A24, D24, -, st24⟩ := newO X22 hx hZ hown (hw _ (List.mem_of_getElem? (i := 7) rfl)) (hw _ (List.mem_of_getElem? (i := 8) rfl)) (hw _ (List.mem_of_getElem? (i := 9) rfl)) e22 (g := (mkF m 94 #[.val (.int pd1), .val (.int pg1), .val (.int pn1), .val (.int pd2), .val (.int pg2), .val (.int pm), .val (.int x1), .val (.int x2), .val (.int x3), .val (.int x4), .val (.int x6), .val (.int x20), .val (.int x21), .val (.int x23), .unset, .unset, .unset] [])) rfl (hb hby at_94) (by decide) (by decide)
    obtain ⟨b24, g24⟩ : ∃ z, z = h0.size := ⟨_, rfl⟩
    rw [← g24] at A24 D24 st24
    have g_b24 : n0 ≤ b24 := Nat.le_trans Z0 (Nat.le_of_eq g24.symm)
    have sz_b24 : h0.size ≤ b24 := Nat.le_trans (Keep.refl h0 []).1 (Nat.le_of_eq g24.symm)
    have Zs24 : n0 ≤ h24.size := Nat.le_trans Z0 E24.1
    have K24 : Keep h0 h24 [] := (Keep.refl h0 []).ext E24
    refine Goes.by st24 ?_
    have E_b24 : Exa Z h24 b24 "castkey/card/KeyId" := A24
    have F_b24_keyDomainId : Fld Z h24 b24 "castkey/card/KeyId" "keyDomainId" "I" (.int (0 : Int32)) := D24 (Or.inr (hw _ (List.mem_of_getElem? (i := 24) rfl))) (ty := .int) (by decide)
    have F_b24_keyGroup : Fld Z h24 b24 "castkey/card/KeyId" "keyGroup" "I" (.int (0 : Int32)) := D24 (Or.inr (hw _ (List.mem_of_getElem? (i := 26) rfl))) (ty := .int) (by decide)
    have F_b24_keyNumber : Fld Z h24 b24 "castkey/card/KeyId" "keyNumber" "I" (.int (0 : Int32)) := D24 (Or.inr (hw _ (List.mem_of_getElem? (i := 28) rfl))) (ty := .int) (by decide)
    show Goes p.tables e below (T24.setTop (mkF m 97 #[.val (.int pd1), .val (.int pg1), .val (.int pn1), .val (.int pd2), .val (.int pg2), .val (.int pm), .val (.int x1), .val (.int x2), .val (.int x3), .val (.int x4), .val (.int x6), .val (.int x20), .val (.int x21), .val (.int x23), .unset, .unset, .unset] [(.ref b24)])) _
    refine Goes.by (fun _ k => XS.dup X24.here hx rfl (hb hby at_97) rfl rfl k) ?_
    show Goes p.tables e below (T24.setTop (mkF m 98 #[.val (.int pd1), .val (.int pg1), .val (.int pn1), .val (.int pd2), .val (.int pg2), .val (.int pm), .val (.int x1), .val (.int x2), .val (.int x3), .val (.int x4), .val (.int x6), .val (.int x20), .val (.int x21), .val (.int x23), .unset, .unset, .unset] [(.ref b24), (.ref b24)])) _
    refine Goes.by (fun _ k => XS.iload X24.here hx rfl (hb hby at_98) rfl k) ?_
    show Goes p.tables e below (T24.setTop (mkF m 100 #[.val (.int pd1), .val (.int pg1), .val (.int pn1), .val (.int pd2), .val (.int pg2), .val (.int pm), .val (.int x1), .val (.int x2), .val (.int x3), .val (.int x4), .val (.int x6), .val (.int x20), .val (.int x21), .val (.int x23), .unset, .unset, .unset] [(.int x1), (.ref b24), (.ref b24)])) _
    refine Goes.by (fun _ k => XS.iload X24.here hx rfl (hb hby at_100) rfl k) ?_
    show Goes p.tables e below (T24.setTop (mkF m 102 #[.val (.int pd1), .val (.int pg1), .val (.int pn1), .val (.int pd2), .val (.int pg2), .val (.int pm), .val (.int x1), .val (.int x2), .val (.int x3), .val (.int x4), .val (.int x6), .val (.int x20), .val (.int x21), .val (.int x23), .unset, .unset, .unset] [(.int x2), (.int x1), (.ref b24), (.ref b24)])) _
    refine Goes.by (fun _ k => XS.iload X24.here hx rfl (hb hby at_102) rfl k) ?_
    show Goes p.tables e below (T24.setTop (mkF m 104 #[.val (.int pd1), .val (.int pg1), .val (.int pn1), .val (.int pd2), .val (.int pg2), .val (.int pm), .val (.int x1), .val (.int x2), .val (.int x3), .val (.int x4), .val (.int x6), .val (.int x20), .val (.int x21), .val (.int x23), .unset, .unset, .unset] [(.int x3), (.int x2), (.int x1), (.ref b24), (.ref b24)])) _
    obtain ⟨_, _, ⟨T25, L25, k25, n25⟩, -, X25, ⟨Lc25, hQ25, l25, y25, z25⟩, st25⟩ := X24.specialBack hx (y := (⟨"castkey/card/KeyId", "<init>", "(III)V"⟩ : MethodName)) rfl hown (mvT hZ (hw _ (List.mem_of_getElem? (i := 10) rfl))) (mvT hZ (hw _ (List.mem_of_getElem? (i := 11) rfl))) (mvT hZ (hw _ (List.mem_of_getElem? (i := 12) rfl))) (by decide) (backOf (W := 1) (rm2 l Z a0 hw [] b24 x1 x2 x3 h24 n0 Zs24 E_b24 F_b24_keyDomainId F_b24_keyGroup F_b24_keyNumber g_b24 (by rw [hx1]; exact (own_m24 _).1) (by rw [hx1]; exact (own_m24 _).2) (by rw [hx2]; exact (own_m16 _).1) (by rw [hx2]; exact (own_m16 _).2) (by rw [hx3]; exact (own_m16 _).1) (by rw [hx3]; exact (own_m16 _).2)) hZ (hw _ (List.mem_of_getElem? (i := 12) rfl)) (hw _ (List.mem_of_getElem? (i := 9) rfl)) (by decide) (by decide)) (g := (mkF m 104 #[.val (.int pd1), .val (.int pg1), .val (.int pn1), .val (.int pd2), .val (.int pg2), .val (.int pm), .val (.int x1), .val (.int x2), .val (.int x3), .val (.int x4), .val (.int x6), .val (.int x20), .val (.int x21), .val (.int x23), .unset, .unset, .unset] [(.int x3), (.int x2), (.int x1), (.ref b24), (.ref b24)])) rfl (by rw [hml]; rfl) (Steps.refl _) (a := b24) (argsL := [(.int x1), (.int x2), (.int x3)]) (rest := [(.ref b24)]) (lenOf pd_2 rfl) rfl (by show 2 * 0 + _ ≤ _; exact Nat.le_of_eq rfl) (hb hby at_104) (fun _ _ => ⟨rfl, e24, (by decide : 1 + 0 ≤ _), (by decide : 3 + 0 ≤ _)⟩)
    dsimp only [Pt.U, Pt.locs, Pt.cells, Pt.slots] at X25 l25 y25 z25 st25 hQ25
    subst l25 y25 z25
    obtain ⟨rfl, N25q, Kq25, po25_0, po25_1, po25_2, po25_3⟩ := hQ25
    have N25 := Fr.app N22 N25q
    refine Goes.via st25 ?_
    have Zs25 : n0 ≤ T25.heap.size := Nat.le_trans Zs24 Kq25.1
    have K25 : Keep h0 T25.heap [] := K24.trans Kq25 (allS (Or.inr sz_b24) all0)
    have E_b24 : Exa Z T25.heap b24 "castkey/card/KeyId" := E_b24.keep Kq25
    have E_b24 : Exa Z T25.heap b24 "castkey/card/KeyId" := po25_0
    have F_b24_keyDomainId : Fld Z T25.heap b24 "castkey/card/KeyId" "keyDomainId" "I" (.int x1) := po25_1
    have F_b24_keyGroup : Fld Z T25.heap b24 "castkey/card/KeyId" "keyGroup" "I" (.int x2) := po25_2
    have F_b24_keyNumber : Fld Z T25.heap b24 "castkey/card/KeyId" "keyNumber" "I" (.int x3) := po25_3
    show Goes p.tables e below (T25.setTop (mkF m 107 #[.val (.int pd1), .val (.int pg1), .val (.int pn1), .val (.int pd2), .val (.int pg2), .val (.int pm), .val (.int x1), .val (.int x2), .val (.int x3), .val (.int x4), .val (.int x6), .val (.int x20), .val (.int x21), .val (.int x23), .unset, .unset, .unset] [(.ref b24)])) _
    refine Goes.by (fun _ k => XS.astore X25.here hx rfl (hb hby at_107) rfl rfl (l' := #[.val (.int pd1), .val (.int pg1), .val (.int pn1), .val (.int pd2), .val (.int pg2), .val (.int pm), .val (.int x1), .val (.int x2), .val (.int x3), .val (.int x4), .val (.int x6), .val (.int x20), .val (.int x21), .val (.int x23), .val (.ref b24), .unset, .unset]) rfl k) ?_
    show Goes p.tables e below (T25.setTop (mkF m 109 #[.val (.int pd1), .val (.int pg1), .val (.int pn1), .val (.int pd2), .val (.int pg2), .val (.int pm), .val (.int x1), .val (.int x2), .val (.int x3), .val (.int x4), .val (.int x6), .val (.int x20), .val (.int x21), .val (.int x23), .val (.ref b24), .unset, .unset] [])) _
    obtain ⟨T26, h26, X26, e26, E26, A26, D26, -, st26⟩ := newO X25 hx hZ hown (hw _ (List.mem_of_getElem? (i := 7) rfl)) (hw _ (List.mem_of_getElem? (i := 8) rfl)) (hw _ (List.mem_of_getElem? (i := 9) rfl)) rfl (g := (mkF m 109 #[.val (.int pd1), .val (.int pg1), .val (.int pn1), .val (.int pd2), .val (.int pg2), .val (.int pm), .val (.int x1), .val (.int x2), .val (.int x3), .val (.int x4), .val (.int x6), .val (.int x20), .val (.int x21), .val (.int x23), .val (.ref b24), .unset, .unset] [])) rfl (hb hby at_109) (by decide) (by decide)
    obtain ⟨b26, g26⟩ : ∃ z, z = T25.heap.size := ⟨_, rfl⟩
    rw [← g26] at A26 D26 st26
    have g_b26 : n0 ≤ b26 := Nat.le_trans Zs25 (Nat.le_of_eq g26.symm)
    have sz_b26 : h0.size ≤ b26 := Nat.le_trans K25.1 (Nat.le_of_eq g26.symm)
    have ne_b24_b26 : b24 ≠ b26 := Nat.ne_of_lt (Nat.lt_of_lt_of_le E_b24.lt (Nat.le_of_eq g26.symm))
    have Zs26 : n0 ≤ h26.size := Nat.le_trans Zs25 E26.1
    have K26 : Keep h0 h26 [] := K25.ext E26
    refine Goes.by st26 ?_
    have E_b24 : Exa Z h26 b24 "castkey/card/KeyId" := E_b24.ext E26
    have F_b24_keyDomainId : Fld Z h26 b24 "castkey/card/KeyId" "keyDomainId" "I" (.int x1) := F_b24_keyDomainId.ext E26
    have F_b24_keyGroup : Fld Z h26 b24 "castkey/card/KeyId" "keyGroup" "I" (.int x2) := F_b24_keyGroup.ext E26
    have F_b24_keyNumber : Fld Z h26 b24 "castkey/card/KeyId" "keyNumber" "I" (.int x3) := F_b24_keyNumber.ext E26
    have E_b26 : Exa Z h26 b26 "castkey/card/KeyId" := A26
    have F_b26_keyDomainId : Fld Z h26 b26 "castkey/card/KeyId" "keyDomainId" "I" (.int (0 : Int32)) := D26 (Or.inr (hw _ (List.mem_of_getElem? (i := 24) rfl))) (ty := .int) (by decide)
    have F_b26_keyGroup : Fld Z h26 b26 "castkey/card/KeyId" "keyGroup" "I" (.int (0 : Int32)) := D26 (Or.inr (hw _ (List.mem_of_getElem? (i := 26) rfl))) (ty := .int) (by decide)
    have F_b26_keyNumber : Fld Z h26 b26 "castkey/card/KeyId" "keyNumber" "I" (.int (0 : Int32)) := D26 (Or.inr (hw _ (List.mem_of_getElem? (i := 28) rfl))) (ty := .int) (by decide)
    show Goes p.tables e below (T26.setTop (mkF m 112 #[.val (.int pd1), .val (.int pg1), .val (.int pn1), .val (.int pd2), .val (.int pg2), .val (.int pm), .val (.int x1), .val (.int x2), .val (.int x3), .val (.int x4), .val (.int x6), .val (.int x20), .val (.int x21), .val (.int x23), .val (.ref b24), .unset, .unset] [(.ref b26)])) _
    refine Goes.by (fun _ k => XS.dup X26.here hx rfl (hb hby at_112) rfl rfl k) ?_
    show Goes p.tables e below (T26.setTop (mkF m 113 #[.val (.int pd1), .val (.int pg1), .val (.int pn1), .val (.int pd2), .val (.int pg2), .val (.int pm), .val (.int x1), .val (.int x2), .val (.int x3), .val (.int x4), .val (.int x6), .val (.int x20), .val (.int x21), .val (.int x23), .val (.ref b24), .unset, .unset] [(.ref b26), (.ref b26)])) _
    refine Goes.by (fun _ k => XS.iload X26.here hx rfl (hb hby at_113) rfl k) ?_
    show Goes p.tables e below (T26.setTop (mkF m 115 #[.val (.int pd1), .val (.int pg1), .val (.int pn1), .val (.int pd2), .val (.int pg2), .val (.int pm), .val (.int x1), .val (.int x2), .val (.int x3), .val (.int x4), .val (.int x6), .val (.int x20), .val (.int x21), .val (.int x23), .val (.ref b24), .unset, .unset] [(.int x4), (.ref b26), (.ref b26)])) _
    refine Goes.by (fun _ k => XS.iload X26.here hx rfl (hb hby at_115) rfl k) ?_
    show Goes p.tables e below (T26.setTop (mkF m 117 #[.val (.int pd1), .val (.int pg1), .val (.int pn1), .val (.int pd2), .val (.int pg2), .val (.int pm), .val (.int x1), .val (.int x2), .val (.int x3), .val (.int x4), .val (.int x6), .val (.int x20), .val (.int x21), .val (.int x23), .val (.ref b24), .unset, .unset] [(.int x20), (.int x4), (.ref b26), (.ref b26)])) _
    refine Goes.by (fun _ k => XS.iload X26.here hx rfl (hb hby at_117) rfl k) ?_
    show Goes p.tables e below (T26.setTop (mkF m 119 #[.val (.int pd1), .val (.int pg1), .val (.int pn1), .val (.int pd2), .val (.int pg2), .val (.int pm), .val (.int x1), .val (.int x2), .val (.int x3), .val (.int x4), .val (.int x6), .val (.int x20), .val (.int x21), .val (.int x23), .val (.ref b24), .unset, .unset] [(.int x21), (.int x20), (.int x4), (.ref b26), (.ref b26)])) _
    obtain ⟨_, _, ⟨T27, L27, k27, n27⟩, -, X27, ⟨Lc27, hQ27, l27, y27, z27⟩, st27⟩ := X26.specialBack hx (y := (⟨"castkey/card/KeyId", "<init>", "(III)V"⟩ : MethodName)) rfl hown (mvT hZ (hw _ (List.mem_of_getElem? (i := 10) rfl))) (mvT hZ (hw _ (List.mem_of_getElem? (i := 11) rfl))) (mvT hZ (hw _ (List.mem_of_getElem? (i := 12) rfl))) (by decide) (backOf (W := 1) (rm2 l Z a0 hw [] b26 x4 x20 x21 h26 n0 Zs26 E_b26 F_b26_keyDomainId F_b26_keyGroup F_b26_keyNumber g_b26 (by rw [hx4]; exact (own_m24 _).1) (by rw [hx4]; exact (own_m24 _).2) (by rw [hx20]; exact (own_s16 _).1) (by rw [hx20]; exact (own_s16 _).2) (by rw [hx21]; exact (own_m16 _).1) (by rw [hx21]; exact (own_m16 _).2)) hZ (hw _ (List.mem_of_getElem? (i := 12) rfl)) (hw _ (List.mem_of_getElem? (i := 9) rfl)) (by decide) (by decide)) (g := (mkF m 119 #[.val (.int pd1), .val (.int pg1), .val (.int pn1), .val (.int pd2), .val (.int pg2), .val (.int pm), .val (.int x1), .val (.int x2), .val (.int x3), .val (.int x4), .val (.int x6), .val (.int x20), .val (.int x21), .val (.int x23), .val (.ref b24), .unset, .unset] [(.int x21), (.int x20), (.int x4), (.ref b26), (.ref b26)])) rfl (by rw [hml]; rfl) (Steps.refl _) (a := b26) (argsL := [(.int x4), (.int x20), (.int x21)]) (rest := [(.ref b26)]) (lenOf pd_2 rfl) rfl (by show 2 * 0 + _ ≤ _; exact Nat.le_of_eq rfl) (hb hby at_119) (fun _ _ => ⟨rfl, e26, (by decide : 2 + 0 ≤ _), (by decide : 6 + 0 ≤ _)⟩)
    dsimp only [Pt.U, Pt.locs, Pt.cells, Pt.slots] at X27 l27 y27 z27 st27 hQ27
    subst l27 y27 z27
    obtain ⟨rfl, N27q, Kq27, po27_0, po27_1, po27_2, po27_3⟩ := hQ27
    have N27 := Fr.app N25 N27q
    refine Goes.via st27 ?_
    have Zs27 : n0 ≤ T27.heap.size := Nat.le_trans Zs26 Kq27.1
    have K27 : Keep h0 T27.heap [] := K26.trans Kq27 (allS (Or.inr sz_b26) all0)
    have E_b24 : Exa Z T27.heap b24 "castkey/card/KeyId" := E_b24.keep Kq27
    have F_b24_keyDomainId : Fld Z T27.heap b24 "castkey/card/KeyId" "keyDomainId" "I" (.int x1) := F_b24_keyDomainId.keep Kq27 (ninS ne_b24_b26 nin0)
    have F_b24_keyGroup : Fld Z T27.heap b24 "castkey/card/KeyId" "keyGroup" "I" (.int x2) := F_b24_keyGroup.keep Kq27 (ninS ne_b24_b26 nin0)
    have F_b24_keyNumber : Fld Z T27.heap b24 "castkey/card/KeyId" "keyNumber" "I" (.int x3) := F_b24_keyNumber.keep Kq27 (ninS ne_b24_b26 nin0)
    have E_b26 : Exa Z T27.heap b26 "castkey/card/KeyId" := E_b26.keep Kq27
    have E_b26 : Exa Z T27.heap b26 "castkey/card/KeyId" := po27_0
    have F_b26_keyDomainId : Fld Z T27.heap b26 "castkey/card/KeyId" "keyDomainId" "I" (.int x4) := po27_1
    have F_b26_keyGroup : Fld Z T27.heap b26 "castkey/card/KeyId" "keyGroup" "I" (.int x20) := po27_2
    have F_b26_keyNumber : Fld Z T27.heap b26 "castkey/card/KeyId" "keyNumber" "I" (.int x21) := po27_3
    show Goes p.tables e below (T27.setTop (mkF m 122 #[.val (.int pd1), .val (.int pg1), .val (.int pn1), .val (.int pd2), .val (.int pg2), .val (.int pm), .val (.int x1), .val (.int x2), .val (.int x3), .val (.int x4), .val (.int x6), .val (.int x20), .val (.int x21), .val (.int x23), .val (.ref b24), .unset, .unset] [(.ref b26)])) _
    refine Goes.by (fun _ k => XS.astore X27.here hx rfl (hb hby at_122) rfl rfl (l' := #[.val (.int pd1), .val (.int pg1), .val (.int pn1), .val (.int pd2), .val (.int pg2), .val (.int pm), .val (.int x1), .val (.int x2), .val (.int x3), .val (.int x4), .val (.int x6), .val (.int x20), .val (.int x21), .val (.int x23), .val (.ref b24), .val (.ref b26), .unset]) rfl k) ?_
    show Goes p.tables e below (T27.setTop (mkF m 124 #[.val (.int pd1), .val (.int pg1), .val (.int pn1), .val (.int pd2), .val (.int pg2), .val (.int pm), .val (.int x1), .val (.int x2), .val (.int x3), .val (.int x4), .val (.int x6), .val (.int x20), .val (.int x21), .val (.int x23), .val (.ref b24), .val (.ref b26), .unset] [])) _
    refine Goes.by (fun _ k => XS.aload X27.here hx rfl (hb hby at_124) rfl rfl k) ?_
    show Goes p.tables e below (T27.setTop (mkF m 126 #[.val (.int pd1), .val (.int pg1), .val (.int pn1), .val (.int pd2), .val (.int pg2), .val (.int pm), .val (.int x1), .val (.int x2), .val (.int x3), .val (.int x4), .val (.int x6), .val (.int x20), .val (.int x21), .val (.int x23), .val (.ref b24), .val (.ref b26), .unset] [(.ref b24)])) _
    obtain ⟨cq28, kq28, q28a, q28b, q28c⟩ := isOf hZ rfl E_b24
    obtain ⟨_, _, ⟨T28, L28, k28, n28⟩, -, X28, ⟨Lc28, hQ28, l28, y28, z28⟩, st28⟩ := X27.virtualBack hx (y := (⟨"castkey/card/KeyId", "hashCode", "()I"⟩ : MethodName)) (z := (⟨"castkey/card/KeyId", "hashCode", "()I"⟩ : MethodName)) hown (mvT hZ (hw _ (List.mem_of_getElem? (i := 29) rfl))) (mvT hZ (hw _ (List.mem_of_getElem? (i := 30) rfl))) (notFace_of_selects (args := #[]) (mvT hZ (hw _ (List.mem_of_getElem? (i := 32) rfl)))) (mvT hZ (hw _ (List.mem_of_getElem? (i := 32) rfl))) (mvT hZ (hw _ (List.mem_of_getElem? (i := 31) rfl))) (by decide) (backOf (W := 0) (rm5 l Z a0 hw [] b24 x1 x2 x3 T27.heap n0 Zs27 F_b24_keyDomainId F_b24_keyGroup F_b24_keyNumber) hZ (hw _ (List.mem_of_getElem? (i := 33) rfl)) (hw _ (List.mem_of_getElem? (i := 9) rfl)) (by decide) (by decide)) q28a q28c (g := (mkF m 126 #[.val (.int pd1), .val (.int pg1), .val (.int pn1), .val (.int pd2), .val (.int pg2), .val (.int pm), .val (.int x1), .val (.int x2), .val (.int x3), .val (.int x4), .val (.int x6), .val (.int x20), .val (.int x21), .val (.int x23), .val (.ref b24), .val (.ref b26), .unset] [(.ref b24)])) rfl (by rw [hml]; rfl) (Steps.refl _) (argsL := []) (rest := []) (lenOf pd_3 rfl) rfl (by show 2 * 0 + _ ≤ _; exact Nat.le_of_eq rfl) (hb hby at_126) (fun _ _ => ⟨rfl, rfl, (by decide : 2 + 0 ≤ _), (by decide : 6 + 0 ≤ _)⟩)
    dsimp only [Pt.U, Pt.locs, Pt.cells, Pt.slots] at X28 l28 y28 z28 st28 hQ28
    subst l28 y28 z28
    obtain ⟨rfl, N28q, e28⟩ := hQ28
    have N28 := Fr.app N27 N28q
    refine Goes.via st28 ?_
    show Goes p.tables e below (T28.setTop (mkF m 129 #[.val (.int pd1), .val (.int pg1), .val (.int pn1), .val (.int pd2), .val (.int pg2), .val (.int pm), .val (.int x1), .val (.int x2), .val (.int x3), .val (.int x4), .val (.int x6), .val (.int x20), .val (.int x21), .val (.int x23), .val (.ref b24), .val (.ref b26), .unset] [(.int (own_hash x1 x2 x3))])) _
    refine Goes.by (fun _ k => XS.aload X28.here hx rfl (hb hby at_129) rfl rfl k) ?_
    show Goes p.tables e below (T28.setTop (mkF m 131 #[.val (.int pd1), .val (.int pg1), .val (.int pn1), .val (.int pd2), .val (.int pg2), .val (.int pm), .val (.int x1), .val (.int x2), .val (.int x3), .val (.int x4), .val (.int x6), .val (.int x20), .val (.int x21), .val (.int x23), .val (.ref b24), .val (.ref b26), .unset] [(.ref b26), (.int (own_hash x1 x2 x3))])) _
    obtain ⟨cq29, kq29, q29a, q29b, q29c⟩ := isOf hZ e28 E_b26
    obtain ⟨_, _, ⟨T29, L29, k29, n29⟩, -, X29, ⟨Lc29, hQ29, l29, y29, z29⟩, st29⟩ := X28.virtualBack hx (y := (⟨"castkey/card/KeyId", "hashCode", "()I"⟩ : MethodName)) (z := (⟨"castkey/card/KeyId", "hashCode", "()I"⟩ : MethodName)) hown (mvT hZ (hw _ (List.mem_of_getElem? (i := 29) rfl))) (mvT hZ (hw _ (List.mem_of_getElem? (i := 30) rfl))) (notFace_of_selects (args := #[]) (mvT hZ (hw _ (List.mem_of_getElem? (i := 32) rfl)))) (mvT hZ (hw _ (List.mem_of_getElem? (i := 32) rfl))) (mvT hZ (hw _ (List.mem_of_getElem? (i := 31) rfl))) (by decide) (backOf (W := 1) (rm5 l Z a0 hw [] b26 x4 x20 x21 T27.heap n0 Zs27 F_b26_keyDomainId F_b26_keyGroup F_b26_keyNumber) hZ (hw _ (List.mem_of_getElem? (i := 33) rfl)) (hw _ (List.mem_of_getElem? (i := 9) rfl)) (by decide) (by decide)) q29a q29c (g := (mkF m 131 #[.val (.int pd1), .val (.int pg1), .val (.int pn1), .val (.int pd2), .val (.int pg2), .val (.int pm), .val (.int x1), .val (.int x2), .val (.int x3), .val (.int x4), .val (.int x6), .val (.int x20), .val (.int x21), .val (.int x23), .val (.ref b24), .val (.ref b26), .unset] [(.ref b26), (.int (own_hash x1 x2 x3))])) rfl (by rw [hml]; rfl) (Steps.refl _) (argsL := []) (rest := [(.int (own_hash x1 x2 x3))]) (lenOf pd_3 rfl) rfl (by show 2 * 0 + _ ≤ _; exact Nat.le_of_eq rfl) (hb hby at_131) (fun _ _ => ⟨rfl, e28, (by decide : 2 + 0 ≤ _), (by decide : 6 + 0 ≤ _)⟩)
    dsimp only [Pt.U, Pt.locs, Pt.cells, Pt.slots] at X29 l29 y29 z29 st29 hQ29
    subst l29 y29 z29
    obtain ⟨rfl, N29q, e29⟩ := hQ29
    have N29 := Fr.app N28 N29q
    refine Goes.via st29 ?_
    show Goes p.tables e below (T29.setTop (mkF m 134 #[.val (.int pd1), .val (.int pg1), .val (.int pn1), .val (.int pd2), .val (.int pg2), .val (.int pm), .val (.int x1), .val (.int x2), .val (.int x3), .val (.int x4), .val (.int x6), .val (.int x20), .val (.int x21), .val (.int x23), .val (.ref b24), .val (.ref b26), .unset] [(.int (own_hash x4 x20 x21)), (.int (own_hash x1 x2 x3))])) _
    by_cases hc30 : (own_hash x1 x2 x3) = (own_hash x4 x20 x21)
    · refine Goes.by (fun _ k => XS.icmpNo X29.here hx rfl (hb hby at_134) rfl (teq hc30).2 k) ?_
      show Goes p.tables e below (T29.setTop (mkF m 137 #[.val (.int pd1), .val (.int pg1), .val (.int pn1), .val (.int pd2), .val (.int pg2), .val (.int pm), .val (.int x1), .val (.int x2), .val (.int x3), .val (.int x4), .val (.int x6), .val (.int x20), .val (.int x21), .val (.int x23), .val (.ref b24), .val (.ref b26), .unset] [])) _
      refine Goes.by (fun _ k => XS.iconst X29.here hx rfl (hb hby at_137) k) ?_
      show Goes p.tables e below (T29.setTop (mkF m 138 #[.val (.int pd1), .val (.int pg1), .val (.int pn1), .val (.int pd2), .val (.int pg2), .val (.int pm), .val (.int x1), .val (.int x2), .val (.int x3), .val (.int x4), .val (.int x6), .val (.int x20), .val (.int x21), .val (.int x23), .val (.ref b24), .val (.ref b26), .unset] [(.int (1 : Int32))])) _
      refine Goes.by (fun _ k => XS.goto X29.here hx rfl (pc0 := 138) (pc' := 142) rfl (hb hby at_138) (by decide) (by decide) k) ?_
      show Goes p.tables e below (T29.setTop (mkF m 142 #[.val (.int pd1), .val (.int pg1), .val (.int pn1), .val (.int pd2), .val (.int pg2), .val (.int pm), .val (.int x1), .val (.int x2), .val (.int x3), .val (.int x4), .val (.int x6), .val (.int x20), .val (.int x21), .val (.int x23), .val (.ref b24), .val (.ref b26), .unset] [(.int (1 : Int32))])) _
      refine Goes.by (fun _ k => XS.istore X29.here hx rfl (hb hby at_142) rfl (l' := #[.val (.int pd1), .val (.int pg1), .val (.int pn1), .val (.int pd2), .val (.int pg2), .val (.int pm), .val (.int x1), .val (.int x2), .val (.int x3), .val (.int x4), .val (.int x6), .val (.int x20), .val (.int x21), .val (.int x23), .val (.ref b24), .val (.ref b26), .val (.int (1 : Int32))]) rfl k) ?_
      show Goes p.tables e below (T29.setTop (mkF m 144 #[.val (.int pd1), .val (.int pg1), .val (.int pn1), .val (.int pd2), .val (.int pg2), .val (.int pm), .val (.int x1), .val (.int x2), .val (.int x3), .val (.int x4), .val (.int x6), .val (.int x20), .val (.int x21), .val (.int x23), .val (.ref b24), .val (.ref b26), .val (.int (1 : Int32))] [])) _
      refine Goes.by (fun _ k => XS.iload X29.here hx rfl (hb hby at_144) rfl k) ?_
      show Goes p.tables e below (T29.setTop (mkF m 146 #[.val (.int pd1), .val (.int pg1), .val (.int pn1), .val (.int pd2), .val (.int pg2), .val (.int pm), .val (.int x1), .val (.int x2), .val (.int x3), .val (.int x4), .val (.int x6), .val (.int x20), .val (.int x21), .val (.int x23), .val (.ref b24), .val (.ref b26), .val (.int (1 : Int32))] [(.int (1 : Int32))])) _
      refine Goes.by (fun _ k => XS.iload X29.here hx rfl (hb hby at_146) rfl k) ?_
      show Goes p.tables e below (T29.setTop (mkF m 148 #[.val (.int pd1), .val (.int pg1), .val (.int pn1), .val (.int pd2), .val (.int pg2), .val (.int pm), .val (.int x1), .val (.int x2), .val (.int x3), .val (.int x4), .val (.int x6), .val (.int x20), .val (.int x21), .val (.int x23), .val (.ref b24), .val (.ref b26), .val (.int (1 : Int32))] [(.int x6), (.int (1 : Int32))])) _
      refine Goes.by (fun _ k => XS.iload X29.here hx rfl (hb hby at_148) rfl k) ?_
      show Goes p.tables e below (T29.setTop (mkF m 150 #[.val (.int pd1), .val (.int pg1), .val (.int pn1), .val (.int pd2), .val (.int pg2), .val (.int pm), .val (.int x1), .val (.int x2), .val (.int x3), .val (.int x4), .val (.int x6), .val (.int x20), .val (.int x21), .val (.int x23), .val (.ref b24), .val (.ref b26), .val (.int (1 : Int32))] [(.int x23), (.int x6), (.int (1 : Int32))])) _
      refine Goes.by (fun _ k => XS.icmpNo X29.here hx rfl (hb hby at_150) rfl (teq (by rw [hx6, hx23]; exact own_mix_inj _ _ hc30 : x6 = x23)).2 k) ?_
      show Goes p.tables e below (T29.setTop (mkF m 153 #[.val (.int pd1), .val (.int pg1), .val (.int pn1), .val (.int pd2), .val (.int pg2), .val (.int pm), .val (.int x1), .val (.int x2), .val (.int x3), .val (.int x4), .val (.int x6), .val (.int x20), .val (.int x21), .val (.int x23), .val (.ref b24), .val (.ref b26), .val (.int (1 : Int32))] [(.int (1 : Int32))])) _
      refine Goes.by (fun _ k => XS.iconst X29.here hx rfl (hb hby at_153) k) ?_
      show Goes p.tables e below (T29.setTop (mkF m 154 #[.val (.int pd1), .val (.int pg1), .val (.int pn1), .val (.int pd2), .val (.int pg2), .val (.int pm), .val (.int x1), .val (.int x2), .val (.int x3), .val (.int x4), .val (.int x6), .val (.int x20), .val (.int x21), .val (.int x23), .val (.ref b24), .val (.ref b26), .val (.int (1 : Int32))] [(.int (1 : Int32)), (.int (1 : Int32))])) _
      refine Goes.by (fun _ k => XS.goto X29.here hx rfl (pc0 := 154) (pc' := 158) rfl (hb hby at_154) (by decide) (by decide) k) ?_
      show Goes p.tables e below (T29.setTop (mkF m 158 #[.val (.int pd1), .val (.int pg1), .val (.int pn1), .val (.int pd2), .val (.int pg2), .val (.int pm), .val (.int x1), .val (.int x2), .val (.int x3), .val (.int x4), .val (.int x6), .val (.int x20), .val (.int x21), .val (.int x23), .val (.ref b24), .val (.ref b26), .val (.int (1 : Int32))] [(.int (1 : Int32)), (.int (1 : Int32))])) _
      refine Goes.by (fun _ k => XS.icmpNo X29.here hx rfl (hb hby at_158) rfl (teq (by decide : (1 : Int32) = (1 : Int32))).2 k) ?_
      show Goes p.tables e below (T29.setTop (mkF m 161 #[.val (.int pd1), .val (.int pg1), .val (.int pn1), .val (.int pd2), .val (.int pg2), .val (.int pm), .val (.int x1), .val (.int x2), .val (.int x3), .val (.int x4), .val (.int x6), .val (.int x20), .val (.int x21), .val (.int x23), .val (.ref b24), .val (.ref b26), .val (.int (1 : Int32))] [])) _
      refine Goes.by (fun _ k => XS.iconst X29.here hx rfl (hb hby at_161) k) ?_
      show Goes p.tables e below (T29.setTop (mkF m 162 #[.val (.int pd1), .val (.int pg1), .val (.int pn1), .val (.int pd2), .val (.int pg2), .val (.int pm), .val (.int x1), .val (.int x2), .val (.int x3), .val (.int x4), .val (.int x6), .val (.int x20), .val (.int x21), .val (.int x23), .val (.ref b24), .val (.ref b26), .val (.int (1 : Int32))] [(.int (1 : Int32))])) _
      refine Goes.by (fun _ k => XS.goto X29.here hx rfl (pc0 := 162) (pc' := 166) rfl (hb hby at_162) (by decide) (by decide) k) ?_
      show Goes p.tables e below (T29.setTop (mkF m 166 #[.val (.int pd1), .val (.int pg1), .val (.int pn1), .val (.int pd2), .val (.int pg2), .val (.int pm), .val (.int x1), .val (.int x2), .val (.int x3), .val (.int x4), .val (.int x6), .val (.int x20), .val (.int x21), .val (.int x23), .val (.ref b24), .val (.ref b26), .val (.int (1 : Int32))] [(.int (1 : Int32))])) _
      obtain ⟨fs, hr, hrun, hended, hW, hsame⟩ := X29.leave (v := some (.int (1 : Int32))) (fun h => by rw [Bd.returns] at h; cases h)
      refine ⟨_, _, retN X29 hx (t := .boolean) Bd.returns (by simp) (hb hby at_166) hr, hrun, hended, _, _, rfl, ?_, ⟨_, rfl⟩, hW, hsame.mono (by decide) (by decide)⟩
      show Q0 Z pd1 pg1 pn1 pd2 pg2 pm h0 n0 _ T29.heap _
      rw [e29]
      exact ⟨rfl, N29⟩
    · refine Goes.by (fun _ k => XS.icmpYes X29.here hx rfl (pc0 := 134) (pc' := 141) rfl (hb hby at_134) rfl (feq hc30).2 (by decide) (by decide) k) ?_
      show Goes p.tables e below (T29.setTop (mkF m 141 #[.val (.int pd1), .val (.int pg1), .val (.int pn1), .val (.int pd2), .val (.int pg2), .val (.int pm), .val (.int x1), .val (.int x2), .val (.int x3), .val (.int x4), .val (.int x6), .val (.int x20), .val (.int x21), .val (.int x23), .val (.ref b24), .val (.ref b26), .unset] [])) _
      refine Goes.by (fun _ k => XS.iconst X29.here hx rfl (hb hby at_141) k) ?_
      show Goes p.tables e below (T29.setTop (mkF m 142 #[.val (.int pd1), .val (.int pg1), .val (.int pn1), .val (.int pd2), .val (.int pg2), .val (.int pm), .val (.int x1), .val (.int x2), .val (.int x3), .val (.int x4), .val (.int x6), .val (.int x20), .val (.int x21), .val (.int x23), .val (.ref b24), .val (.ref b26), .unset] [(.int (0 : Int32))])) _
      refine Goes.by (fun _ k => XS.istore X29.here hx rfl (hb hby at_142) rfl (l' := #[.val (.int pd1), .val (.int pg1), .val (.int pn1), .val (.int pd2), .val (.int pg2), .val (.int pm), .val (.int x1), .val (.int x2), .val (.int x3), .val (.int x4), .val (.int x6), .val (.int x20), .val (.int x21), .val (.int x23), .val (.ref b24), .val (.ref b26), .val (.int (0 : Int32))]) rfl k) ?_
      show Goes p.tables e below (T29.setTop (mkF m 144 #[.val (.int pd1), .val (.int pg1), .val (.int pn1), .val (.int pd2), .val (.int pg2), .val (.int pm), .val (.int x1), .val (.int x2), .val (.int x3), .val (.int x4), .val (.int x6), .val (.int x20), .val (.int x21), .val (.int x23), .val (.ref b24), .val (.ref b26), .val (.int (0 : Int32))] [])) _
      refine Goes.by (fun _ k => XS.iload X29.here hx rfl (hb hby at_144) rfl k) ?_
      show Goes p.tables e below (T29.setTop (mkF m 146 #[.val (.int pd1), .val (.int pg1), .val (.int pn1), .val (.int pd2), .val (.int pg2), .val (.int pm), .val (.int x1), .val (.int x2), .val (.int x3), .val (.int x4), .val (.int x6), .val (.int x20), .val (.int x21), .val (.int x23), .val (.ref b24), .val (.ref b26), .val (.int (0 : Int32))] [(.int (0 : Int32))])) _
      refine Goes.by (fun _ k => XS.iload X29.here hx rfl (hb hby at_146) rfl k) ?_
      show Goes p.tables e below (T29.setTop (mkF m 148 #[.val (.int pd1), .val (.int pg1), .val (.int pn1), .val (.int pd2), .val (.int pg2), .val (.int pm), .val (.int x1), .val (.int x2), .val (.int x3), .val (.int x4), .val (.int x6), .val (.int x20), .val (.int x21), .val (.int x23), .val (.ref b24), .val (.ref b26), .val (.int (0 : Int32))] [(.int x6), (.int (0 : Int32))])) _
      refine Goes.by (fun _ k => XS.iload X29.here hx rfl (hb hby at_148) rfl k) ?_
      show Goes p.tables e below (T29.setTop (mkF m 150 #[.val (.int pd1), .val (.int pg1), .val (.int pn1), .val (.int pd2), .val (.int pg2), .val (.int pm), .val (.int x1), .val (.int x2), .val (.int x3), .val (.int x4), .val (.int x6), .val (.int x20), .val (.int x21), .val (.int x23), .val (.ref b24), .val (.ref b26), .val (.int (0 : Int32))] [(.int x23), (.int x6), (.int (0 : Int32))])) _
      refine Goes.by (fun _ k => XS.icmpYes X29.here hx rfl (pc0 := 150) (pc' := 157) rfl (hb hby at_150) rfl (feq (by intro q; rw [hx6, hx23] at q; exact hc30 (congrArg own_mix q) : ¬ (x6 = x23))).2 (by decide) (by decide) k) ?_
      show Goes p.tables e below (T29.setTop (mkF m 157 #[.val (.int pd1), .val (.int pg1), .val (.int pn1), .val (.int pd2), .val (.int pg2), .val (.int pm), .val (.int x1), .val (.int x2), .val (.int x3), .val (.int x4), .val (.int x6), .val (.int x20), .val (.int x21), .val (.int x23), .val (.ref b24), .val (.ref b26), .val (.int (0 : Int32))] [(.int (0 : Int32))])) _
      refine Goes.by (fun _ k => XS.iconst X29.here hx rfl (hb hby at_157) k) ?_
      show Goes p.tables e below (T29.setTop (mkF m 158 #[.val (.int pd1), .val (.int pg1), .val (.int pn1), .val (.int pd2), .val (.int pg2), .val (.int pm), .val (.int x1), .val (.int x2), .val (.int x3), .val (.int x4), .val (.int x6), .val (.int x20), .val (.int x21), .val (.int x23), .val (.ref b24), .val (.ref b26), .val (.int (0 : Int32))] [(.int (0 : Int32)), (.int (0 : Int32))])) _
      refine Goes.by (fun _ k => XS.icmpNo X29.here hx rfl (hb hby at_158) rfl (teq (by decide : (0 : Int32) = (0 : Int32))).2 k) ?_
      show Goes p.tables e below (T29.setTop (mkF m 161 #[.val (.int pd1), .val (.int pg1), .val (.int pn1), .val (.int pd2), .val (.int pg2), .val (.int pm), .val (.int x1), .val (.int x2), .val (.int x3), .val (.int x4), .val (.int x6), .val (.int x20), .val (.int x21), .val (.int x23), .val (.ref b24), .val (.ref b26), .val (.int (0 : Int32))] [])) _
      refine Goes.by (fun _ k => XS.iconst X29.here hx rfl (hb hby at_161) k) ?_
      show Goes p.tables e below (T29.setTop (mkF m 162 #[.val (.int pd1), .val (.int pg1), .val (.int pn1), .val (.int pd2), .val (.int pg2), .val (.int pm), .val (.int x1), .val (.int x2), .val (.int x3), .val (.int x4), .val (.int x6), .val (.int x20), .val (.int x21), .val (.int x23), .val (.ref b24), .val (.ref b26), .val (.int (0 : Int32))] [(.int (1 : Int32))])) _
      refine Goes.by (fun _ k => XS.goto X29.here hx rfl (pc0 := 162) (pc' := 166) rfl (hb hby at_162) (by decide) (by decide) k) ?_
      show Goes p.tables e below (T29.setTop (mkF m 166 #[.val (.int pd1), .val (.int pg1), .val (.int pn1), .val (.int pd2), .val (.int pg2), .val (.int pm), .val (.int x1), .val (.int x2), .val (.int x3), .val (.int x4), .val (.int x6), .val (.int x20), .val (.int x21), .val (.int x23), .val (.ref b24), .val (.ref b26), .val (.int (0 : Int32))] [(.int (1 : Int32))])) _
      obtain ⟨fs, hr, hrun, hended, hW, hsame⟩ := X29.leave (v := some (.int (1 : Int32))) (fun h => by rw [Bd.returns] at h; cases h)
      refine ⟨_, _, retN X29 hx (t := .boolean) Bd.returns (by simp) (hb hby at_166) hr, hrun, hended, _, _, rfl, ?_, ⟨_, rfl⟩, hW, hsame.mono (by decide) (by decide)⟩
      show Q0 Z pd1 pg1 pn1 pd2 pg2 pm h0 n0 _ T29.heap _
      rw [e29]
      exact ⟨rfl, N29⟩
set_option maxRecDepth 65536 in
set_option maxHeartbeats 40000000 in
theorem comes_1 {Post : Tables → Env → Array Value → State → Outcome → State → Prop} (hpost : ∀ tb e args s v u, (limb_1_1.after args s (.returned v) u = true ∧ limb_1_2.after args s (.returned v) u = true ∧ True) → FrameEnd s (.returned v) u (Jvm.fieldLocs frame_1_writes args s ++ Jvm.arrayLocs frame_1_arrays args s ++ Jvm.staticLocs frame_1_statics s) 16 128 → Post tb e args s (.returned v) u) :
    ArmFor flags0 classFile x code maxLocals ret World_1 tables_1 room_1 Calls_1 rest_1 Pre_1 Post := by
  intro l hfl _ _ p e ha hc hk s m args below hf hA hF happ hP
  obtain ⟨hcalls, hrest, hpre⟩ := hP
  obtain ⟨-, -, -, hnamed, -, -, -, hat⟩ := (Spec.applies_iff hf).mp happ
  obtain ⟨hg, hn⟩ := and_e (Cond.before_iff.mp (show (Jvm.Cond.and given_1 narrow_1).before args s = true from hpre))
  obtain ⟨g1, g2⟩ := and_e hg
  obtain ⟨g3, g4⟩ := and_e g2
  obtain ⟨g5, g6⟩ := and_e g4
  obtain ⟨g7, g8⟩ := and_e g6
  obtain ⟨g9, g10⟩ := and_e g8
  obtain ⟨g11, g12⟩ := and_e g10
  obtain ⟨w0, w1, w2, w3, w4, w5, rfl⟩ : ∃ w0 w1 w2 w3 w4 w5 : Value, args = #[w0, w1, w2, w3, w4, w5] := by
    have hs : args.size = 6 := by simpa [Cond.value, given_1] using g1
    obtain ⟨L⟩ := args
    match L, hs with
    | [w0, w1, w2, w3, w4, w5], _ => exact ⟨w0, w1, w2, w3, w4, w5, rfl⟩
  have hw := fun d (hd : d ∈ tables_1) => atoms_spec (ws := Jvm.Cond.code x code maxLocals ret :: tables_1) hat d (List.mem_cons_of_mem _ hd)
  have hfit : Fit s := fun {y c} hc i hi => by
    obtain ⟨ha, rfl⟩ := Array.getElem?_eq_some_iff.mp hc
    have q := List.all_eq_true.mp ((Array.all_eq_true_iff_forall_mem.mp hF) _ (Array.getElem_mem ha)) i (List.mem_range.mpr hi)
    simpa [Array.getElem?_eq_getElem hi] using q
  obtain ⟨i0, ei0⟩ := is_v g3
  obtain rfl : w0 = (.int i0) := Option.some.inj ei0
  obtain ⟨i1, ei1⟩ := is_v g5
  obtain rfl : w1 = (.int i1) := Option.some.inj ei1
  obtain ⟨i2, ei2⟩ := is_v g7
  obtain rfl : w2 = (.int i2) := Option.some.inj ei2
  obtain ⟨i3, ei3⟩ := is_v g9
  obtain rfl : w3 = (.int i3) := Option.some.inj ei3
  obtain ⟨i4, ei4⟩ := is_v g11
  obtain rfl : w4 = (.int i4) := Option.some.inj ei4
  obtain ⟨i5, ei5⟩ := is_v g12
  obtain rfl : w5 = (.int i5) := Option.some.inj ei5
  obtain ⟨n, o, h1, h2, h3, _, L, rfl, ⟨hv0, N⟩, hq⟩ := rm0 l s _ hw tables_1 i0 i1 i2 i3 i4 i5 s.heap s.heap.size (Nat.le_refl _) p e ha hc hk s m _ below hf ((Spec.applies_iff_loose hf).mp happ).1 ⟨rfl, State.Warmed39.refl s, rfl⟩ trivial
  subst hv0
  refine ⟨n, _, h1, h2, h3, hpost _ _ _ _ _ _ ⟨Cond.after_iff.mpr rfl, Cond.after_iff.mpr (eq_i res_at (Term.int_eval (1)) rfl), trivial⟩ ⟨hq.1, hq.2.1, (hq.2.2.sift fun y hy => Or.inr (N y hy)).mono (by decide) (by decide)⟩⟩
theorem main_1_1 : Claimed_1_1 := comes_1 fun _ _ _ _ _ _ h hF => ⟨h.1, hF⟩
theorem main_1_2 : Claimed_1_2 := comes_1 fun _ _ _ _ _ _ h hF => ⟨h.2.1, hF⟩
end Jvm.Pilot.@@N@@
namespace Jvm.Pilot.@@N@@
open Jvm Jvm.ClassFile Sem Op Lib Jvm.Free Jvm.Stand Jvm.Pilot.@@N@@.Jvm.D
/-! MADE BY PROGRAM (witnessworld.py) out of the Statement's table words and the real class files: 11 classes; the members and pool entries that the words name. The judged class is class 1, her method 2. -/
namespace start1
open Jvm.ClassFile
def u (s : String) : CpInfo := .utf8 (stringToUtf16 s)
/-- a pool by its gaps: so many unusable entries, then the entry; so many at the end -/
def gap : Nat → List CpInfo → List CpInfo
  | 0, r => r
  | n + 1, r => .unusable :: gap n r
def poolList (es : List (Nat × CpInfo)) (last : Nat) : List CpInfo := es.foldr (fun e r => gap e.1 (e.2 :: r)) (gap last [])
def pool (es : List (Nat × CpInfo)) (last : Nat) : Array CpInfo := ⟨poolList es last⟩
def fileOf (pool : Array CpInfo) (this : Nat) (attrs : Array Attribute := #[]) (ms : Array MethodInfo := #[]) (fl : Nat := 33) (sup : Nat := 0) (ifs : Array Nat := #[]) (fds : Array FieldInfo := #[]) : ClassFile where
  minorVersion := 0
  majorVersion := 65
  constantPool := pool
  accessFlags := fl
  thisClass := this
  superClass := sup
  interfaces := ifs
  fields := fds
  methods := ms
  attributes := attrs
def plain (name : String) (sup : Option ClassId) : Class where
  name := name
  kind := .ordinary
  loader := none
  accessFlags := 33
  super := sup
  interfaces := #[]
  cf := none
  fields := #[]
  methods := #[]
  instanceTypes := #[]
  staticTypes := #[]
  resolved := #[]
  callSites := []
  init := .initialized
  statics := none
  mirror := none

def pool0 : Array CpInfo := pool [(5, u "<init>"), (0, u "()V"), (1, .class_ 10), (1, u "java/lang/Object")] 113

def k0c0 : Code := { maxStack := 0, maxLocals := 1, code := object_method_1_code, exceptionTable := #[], attributes := #[] }
def k0m0 : Method := { name := "<init>", desc := "()V", sig := { parameters := [], returnType := none }, accessFlags := 1, code := some k0c0 }
/-- java/lang/Object -/
def k0 : Class := { plain "java/lang/Object" none with
  accessFlags := 33
  interfaces := #[]
  cf := some (fileOf pool0 8 #[] #[{ accessFlags := 1, nameIndex := 5, descriptorIndex := 6, attributes := #[] }] 33 0 #[] #[])
  fields := #[]
  methods := #[k0m0]
  instanceTypes := #[]
  staticTypes := #[]
  resolved := Array.replicate 124 none
  statics := none }

def pool1 : Array CpInfo := pool [(2, .class_ 4), (1, u "java/lang/Object"), (0, u "<init>"), (0, u "()V"), (0, .integer 2654435769), (0, .integer 16777215), (0, .integer 65535), (0, .methodref 11 12), (0, .class_ 13), (0, .nameAndType 14 15), (0, u "castkey/card/KeyIdHashCodePinLaw"), (0, u "pre"), (0, u "(III)I"), (0, .class_ 17), (0, u "castkey/card/KeyId"), (0, .methodref 16 19), (0, .nameAndType 5 20), (0, u "(III)V"), (0, .methodref 16 22), (0, .nameAndType 23 24), (0, u "hashCode"), (0, u "()I"), (2, u "law"), (0, u "(IIIIII)Z")] 3

def k1m0 : Method := { name := "<init>", desc := "()V", sig := { parameters := [], returnType := none }, accessFlags := 1, code := none }
def k1c1 : Code := { maxStack := 3, maxLocals := 3, code := method_2_code, exceptionTable := #[], attributes := #[] }
def k1m1 : Method := { name := "pre", desc := "(III)I", sig := { parameters := [.int, .int, .int], returnType := some .int }, accessFlags := 10, code := some k1c1 }
def k1c2 : Code := { maxStack := 5, maxLocals := 17, code := code, exceptionTable := #[], attributes := #[] }
def k1m2 : Method := { name := "law", desc := "(IIIIII)Z", sig := { parameters := [.int, .int, .int, .int, .int, .int], returnType := some .boolean }, accessFlags := 9, code := some k1c2 }
/-- castkey/card/KeyIdHashCodePinLaw -/
def k1 : Class := { plain "castkey/card/KeyIdHashCodePinLaw" (some 0) with
  accessFlags := 49
  interfaces := #[]
  cf := some (fileOf pool1 11 #[] #[{ accessFlags := 1, nameIndex := 5, descriptorIndex := 6, attributes := #[] }, { accessFlags := 10, nameIndex := 14, descriptorIndex := 15, attributes := #[] }, { accessFlags := 9, nameIndex := 27, descriptorIndex := 28, attributes := #[] }] 49 2 #[] #[])
  fields := #[]
  methods := #[k1m0, k1m1, k1m2]
  instanceTypes := #[]
  staticTypes := #[]
  resolved := Array.replicate 32 none
  statics := none }

def pool2 : Array CpInfo := pool [(1, .methodref 2 3), (0, .class_ 4), (0, .nameAndType 5 6), (0, u "java/lang/Object"), (0, u "<init>"), (0, u "()V"), (0, .class_ 8), (0, u "java/lang/Record")] 13

def k2c0 : Code := { maxStack := 1, maxLocals := 1, code := jdk_30_method_1_code, exceptionTable := #[], attributes := #[] }
def k2m0 : Method := { name := "<init>", desc := "()V", sig := { parameters := [], returnType := none }, accessFlags := 4, code := some k2c0 }
/-- java/lang/Record -/
def k2 : Class := { plain "java/lang/Record" (some 0) with
  accessFlags := 1057
  interfaces := #[]
  cf := some (fileOf pool2 7 #[] #[{ accessFlags := 4, nameIndex := 5, descriptorIndex := 6, attributes := #[] }] 1057 2 #[] #[])
  fields := #[]
  methods := #[k2m0]
  instanceTypes := #[]
  staticTypes := #[]
  resolved := Array.replicate 22 none
  statics := none }

def pool3 : Array CpInfo := pool [(1, .class_ 2), (0, u "java/lang/Comparable"), (0, .class_ 4), (0, u "java/lang/Object")] 7

/-- java/lang/Comparable -/
def k3 : Class := { plain "java/lang/Comparable" (some 0) with
  accessFlags := 1537
  interfaces := #[]
  cf := some (fileOf pool3 1 #[] #[] 1537 3 #[] #[])
  fields := #[]
  methods := #[]
  instanceTypes := #[]
  staticTypes := #[]
  resolved := Array.replicate 12 none
  statics := none }

def pool4 : Array CpInfo := pool [(1, .methodref 2 3), (0, .class_ 4), (0, .nameAndType 5 6), (0, u "java/lang/Record"), (0, u "<init>"), (0, u "()V"), (0, .integer 16777215), (0, .integer 65535), (7, .fieldref 17 18), (0, .class_ 19), (0, .nameAndType 20 21), (0, u "castkey/card/KeyId"), (0, u "keyDomainId"), (0, u "I"), (0, .fieldref 17 23), (0, .nameAndType 24 21), (0, u "keyGroup"), (0, .fieldref 17 26), (0, .nameAndType 27 21), (0, u "keyNumber"), (7, .integer 2654435769), (0, .integer 2246822507), (0, .integer 3266489909), (8, u "HEX"), (0, u "Ljava/util/HexFormat;"), (20, u "TEXT"), (0, u "Ljava/util/regex/Pattern;"), (23, u "(III)V"), (17, .class_ 112), (0, u "java/lang/Comparable"), (0, u "DOMAIN_MASK_FACTOR"), (1, u "TEXT_RULE"), (0, u "Ljava/lang/String;"), (8, u "hashCode"), (0, u "()I")] 26

def k4c0 : Code := { maxStack := 3, maxLocals := 4, code := prog_9_method_1_code, exceptionTable := #[], attributes := #[] }
def k4m0 : Method := { name := "<init>", desc := "(III)V", sig := { parameters := [.int, .int, .int], returnType := none }, accessFlags := 1, code := some k4c0 }
def k4c1 : Code := { maxStack := 3, maxLocals := 2, code := prog_9_method_4_code, exceptionTable := #[], attributes := #[] }
def k4m1 : Method := { name := "hashCode", desc := "()I", sig := { parameters := [], returnType := some .int }, accessFlags := 1, code := some k4c1 }
/-- castkey/card/KeyId -/
def k4 : Class := { plain "castkey/card/KeyId" (some 2) with
  accessFlags := 49
  interfaces := #[3]
  cf := some (fileOf pool4 17 #[] #[{ accessFlags := 1, nameIndex := 5, descriptorIndex := 93, attributes := #[] }, { accessFlags := 1, nameIndex := 125, descriptorIndex := 126, attributes := #[] }] 49 2 #[111] #[{ accessFlags := 18, nameIndex := 20, descriptorIndex := 21, attributes := #[] }, { accessFlags := 18, nameIndex := 24, descriptorIndex := 21, attributes := #[] }, { accessFlags := 18, nameIndex := 27, descriptorIndex := 21, attributes := #[] }, { accessFlags := 26, nameIndex := 68, descriptorIndex := 69, attributes := #[] }, { accessFlags := 26, nameIndex := 113, descriptorIndex := 21, attributes := #[] }, { accessFlags := 26, nameIndex := 46, descriptorIndex := 47, attributes := #[] }, { accessFlags := 26, nameIndex := 115, descriptorIndex := 116, attributes := #[] }])
  fields := #[{ name := "keyDomainId", type := .int, accessFlags := 18, slot := 0, constantValue := 0 }, { name := "keyGroup", type := .int, accessFlags := 18, slot := 1, constantValue := 0 }, { name := "keyNumber", type := .int, accessFlags := 18, slot := 2, constantValue := 0 }, { name := "TEXT", type := (.object "java/util/regex/Pattern"), accessFlags := 26, slot := 0, constantValue := 0 }, { name := "DOMAIN_MASK_FACTOR", type := .int, accessFlags := 26, slot := 1, constantValue := 0 }, { name := "HEX", type := (.object "java/util/HexFormat"), accessFlags := 26, slot := 2, constantValue := 0 }, { name := "TEXT_RULE", type := (.object "java/lang/String"), accessFlags := 26, slot := 3, constantValue := 0 }]
  methods := #[k4m0, k4m1]
  instanceTypes := #[.int, .int, .int]
  staticTypes := #[(.object "java/util/regex/Pattern"), .int, (.object "java/util/HexFormat"), (.object "java/lang/String")]
  resolved := Array.replicate 153 none
  statics := none }

def pool5 : Array CpInfo := pool [(1, u "java/lang/Cloneable"), (0, .class_ 1), (0, u "java/lang/Object"), (0, .class_ 3)] 3

/-- java/lang/Cloneable -/
def k5 : Class := { plain "java/lang/Cloneable" (some 0) with
  accessFlags := 1537
  interfaces := #[]
  cf := some (fileOf pool5 2 #[] #[] 1537 4 #[] #[])
  fields := #[]
  methods := #[]
  instanceTypes := #[]
  staticTypes := #[]
  resolved := Array.replicate 8 none
  statics := none }

def pool6 : Array CpInfo := pool [(1, u "java/io/Serializable"), (0, .class_ 1), (0, u "java/lang/Object"), (0, .class_ 3)] 3

/-- java/io/Serializable -/
def k6 : Class := { plain "java/io/Serializable" (some 0) with
  accessFlags := 1537
  interfaces := #[]
  cf := some (fileOf pool6 2 #[] #[] 1537 4 #[] #[])
  fields := #[]
  methods := #[]
  instanceTypes := #[]
  staticTypes := #[]
  resolved := Array.replicate 8 none
  statics := none }

/-- the primitive byte -/
def k7 : Class := { plain "byte" none with kind := .primitive 'B', accessFlags := 0x411 }
/-- [B -/
def k8 : Class := { plain "[B" (some 0) with kind := .array 7 .byte, interfaces := #[5, 6], accessFlags := 1041 }

/-- the primitive int -/
def k9 : Class := { plain "int" none with kind := .primitive 'I', accessFlags := 0x411 }
/-- [I -/
def k10 : Class := { plain "[I" (some 0) with kind := .array 9 .int, interfaces := #[5, 6], accessFlags := 1041 }

def heap : Heap := #[]
def classes : Array Class := #[k0, k1, k2, k3, k4, k5, k6, k7, k8, k9, k10]
def interned : List (Array UInt16 × Addr) := []
def slotsUsed : Nat := 0
def theMethod : MethodId := ⟨1, 2⟩
def args0 : Array Value := #[.int 5, .int 5, .int 5, .int 5, .int 5, .int 5]
def aboutOver (below : List Frame) : State where
  vm := { classes := classes, interned := interned.toArray }
  heap := heap
  slotsUsed := slotsUsed
  threads := #[{ frames := .invoking theMethod args0 :: below }]
def below0 : List Frame := [.native { method := ⟨0, 0⟩, args := #[] }]
def about1 : State := aboutOver below0
def p0 : Program := .bare "" "" ""
def e0 : Env := launch0.env 0 0 0
theorem w_frames : about1.frames = Frame.invoking theMethod args0 :: below0 := rfl
set_option maxRecDepth 65536 in
theorem w_args : argsFit about1.vm theMethod args0 = true := by decide +kernel
set_option maxRecDepth 65536 in
theorem w_heap : heapFits about1 = true := by decide +kernel
set_option maxRecDepth 65536 in
theorem w_runnable : about1.curStatus? = some .runnable := by decide +kernel
set_option maxRecDepth 65536 in
theorem w_alone : about1.alone = true := by decide +kernel
set_option maxRecDepth 65536 in
theorem w_named : about1.methodNamed? x = some theMethod := by decide +kernel
set_option maxRecDepth 65536 in
theorem w_hears : about1.hears theMethod below0 = true := by decide +kernel
set_option maxRecDepth 65536 in
theorem w_ripe : about1.ripe theMethod args0 below0 = true := by decide +kernel
theorem w_running : about1.status = .running := rfl
set_option maxRecDepth 65536 in
theorem w_room : about1.hasRoom e0.platform room_1 = true :=
  launch0.hasRoom_least _ room_1 (by decide +kernel) (by decide +kernel) (by decide +kernel) (by decide +kernel) (by decide +kernel) (by decide +kernel)
theorem allAtoms_all (ts : List Jvm.Cond) (a : Array Jvm.Value) (st : Jvm.State) : (allAtoms ts).before a st = ts.all (fun c => c.before a st) := by
  induction ts with
  | nil => rfl
  | cons c t ih =>
    show (Jvm.Cond.and c (allAtoms t)).before a st = _
    rw [Jvm.Cond.before_and, ih, List.all_cons]
def words1 : List Jvm.Cond := Jvm.Cond.code x code maxLocals ret :: tables_1
/-- a 'code' word, met by the world's own term for the bytes: nothing is compared byte by byte -/
theorem code_word {y : MethodName} {bytes : ByteArray} {mx : Nat} {rt : Option FieldType} {a : Array Value} {s : State} {m : MethodId} {meth : Method} {c : Code} (h1 : s.methodNamed? y = some m) (h2 : s.vm.method? m = some meth) (h3 : meth.code = some c) (h4 : c.code = bytes)
    (h5 : (c.maxLocals == mx && c.exceptionTable.isEmpty && decide (c.maxStack ≤ mostOperands) && decide (meth.sig.returnType = rt) && !meth.locks && decide (parseMethodDescriptor y.desc = some meth.sig)) = true) : (Jvm.Cond.code y bytes mx rt).before a s = true := by
  simp only [Bool.and_eq_true, beq_iff_eq, Bool.not_eq_true', decide_eq_true_eq] at h5
  obtain ⟨⟨⟨⟨⟨g1, g2⟩, g3⟩, g4⟩, g5⟩, g6⟩ := h5
  simp [Cond.before, Cond.holds, Cond.value, h1, h2, h3, h4, g1, g2, g3, g4, g5, g6]
def isCode : Jvm.Cond → Bool
  | .code _ _ _ _ => true
  | _ => false
theorem all_split {L : List Jvm.Cond} {P : Jvm.Cond → Bool} (h1 : L.all (fun c => isCode c || P c) = true) (h2 : ∀ c ∈ L.filter isCode, P c = true) : L.all P = true := by
  refine List.all_eq_true.mpr fun c hc => ?_
  have h := List.all_eq_true.mp h1 c hc
  rcases Bool.eq_false_or_eq_true (isCode c) with hi | hi
  · exact h2 c (List.mem_filter.mpr ⟨hc, hi⟩)
  · simpa [hi] using h
set_option maxRecDepth 65536 in
theorem w_c0 : (Jvm.Cond.code x code maxLocals ret).before args0 about1 = true := code_word (m := ⟨1, 2⟩) (meth := k1m2) (c := k1c2) (by decide +kernel) rfl rfl rfl (by decide +kernel)
set_option maxRecDepth 65536 in
theorem w_c1 : (Jvm.Cond.code ({ cls := "castkey/card/KeyIdHashCodePinLaw", name := "pre", desc := "(III)I" } : Jvm.MethodName) method_2_code (3 : Nat) (Option.some Jvm.ClassFile.FieldType.int)).before args0 about1 = true := code_word (m := ⟨1, 1⟩) (meth := k1m1) (c := k1c1) (by decide +kernel) rfl rfl rfl (by decide +kernel)
set_option maxRecDepth 65536 in
theorem w_c2 : (Jvm.Cond.code ({ cls := "castkey/card/KeyId", name := "<init>", desc := "(III)V" } : Jvm.MethodName) prog_9_method_1_code (4 : Nat) (Option.none : Option Jvm.ClassFile.FieldType)).before args0 about1 = true := code_word (m := ⟨4, 0⟩) (meth := k4m0) (c := k4c0) (by decide +kernel) rfl rfl rfl (by decide +kernel)
set_option maxRecDepth 65536 in
theorem w_c3 : (Jvm.Cond.code ({ cls := "java/lang/Record", name := "<init>", desc := "()V" } : Jvm.MethodName) jdk_30_method_1_code (1 : Nat) (Option.none : Option Jvm.ClassFile.FieldType)).before args0 about1 = true := code_word (m := ⟨2, 0⟩) (meth := k2m0) (c := k2c0) (by decide +kernel) rfl rfl rfl (by decide +kernel)
set_option maxRecDepth 65536 in
theorem w_c4 : (Jvm.Cond.code ({ cls := "java/lang/Object", name := "<init>", desc := "()V" } : Jvm.MethodName) object_method_1_code (1 : Nat) (Option.none : Option Jvm.ClassFile.FieldType)).before args0 about1 = true := code_word (m := ⟨0, 0⟩) (meth := k0m0) (c := k0c0) (by decide +kernel) rfl rfl rfl (by decide +kernel)
set_option maxRecDepth 65536 in
theorem w_c5 : (Jvm.Cond.code ({ cls := "castkey/card/KeyId", name := "hashCode", desc := "()I" } : Jvm.MethodName) prog_9_method_4_code (2 : Nat) (Option.some Jvm.ClassFile.FieldType.int)).before args0 about1 = true := code_word (m := ⟨4, 1⟩) (meth := k4m1) (c := k4c1) (by decide +kernel) rfl rfl rfl (by decide +kernel)
def codes1 : List Jvm.Cond := [Jvm.Cond.code x code maxLocals ret, Jvm.Cond.code ({ cls := "castkey/card/KeyIdHashCodePinLaw", name := "pre", desc := "(III)I" } : Jvm.MethodName) method_2_code (3 : Nat) (Option.some Jvm.ClassFile.FieldType.int), Jvm.Cond.code ({ cls := "castkey/card/KeyId", name := "<init>", desc := "(III)V" } : Jvm.MethodName) prog_9_method_1_code (4 : Nat) (Option.none : Option Jvm.ClassFile.FieldType), Jvm.Cond.code ({ cls := "java/lang/Record", name := "<init>", desc := "()V" } : Jvm.MethodName) jdk_30_method_1_code (1 : Nat) (Option.none : Option Jvm.ClassFile.FieldType), Jvm.Cond.code ({ cls := "java/lang/Object", name := "<init>", desc := "()V" } : Jvm.MethodName) object_method_1_code (1 : Nat) (Option.none : Option Jvm.ClassFile.FieldType), Jvm.Cond.code ({ cls := "castkey/card/KeyId", name := "hashCode", desc := "()I" } : Jvm.MethodName) prog_9_method_4_code (2 : Nat) (Option.some Jvm.ClassFile.FieldType.int)]
set_option maxRecDepth 65536 in
theorem codes_eq : words1.filter isCode = codes1 := rfl
theorem w_codes : ∀ c ∈ words1.filter isCode, c.before args0 about1 = true := by
  rw [codes_eq]
  intro c hc
  simp only [codes1, List.mem_cons, List.not_mem_nil, or_false] at hc
  rcases hc with rfl | rfl | rfl | rfl | rfl | rfl
  · exact w_c0
  · exact w_c1
  · exact w_c2
  · exact w_c3
  · exact w_c4
  · exact w_c5
set_option maxRecDepth 65536 in
theorem w_t1 : (words1.take 24).all (fun c => isCode c || c.before args0 about1) = true := by decide +kernel
set_option maxRecDepth 65536 in
theorem w_t2 : (words1.drop 24).all (fun c => isCode c || c.before args0 about1) = true := by decide +kernel
theorem w_tables : (allAtoms (Jvm.Cond.code x code maxLocals ret :: tables_1)).before args0 about1 = true := by
  rw [allAtoms_all]
  show words1.all (fun c => c.before args0 about1) = true
  refine all_split ?_ w_codes
  rw [← List.take_append_drop 24 words1, List.all_append, w_t1, w_t2]
  rfl
set_option maxRecDepth 65536 in
theorem w_case : (Jvm.Cond.and given_1 narrow_1).before args0 about1 = true := by decide +kernel
theorem w_applies : (headSpec (Jvm.Cond.code x code maxLocals ret :: tables_1) room_1).applies x e0.platform about1 = true :=
  (Spec.applies_iff w_frames).mpr ⟨w_running, w_runnable, w_alone, w_named, w_hears, w_ripe, w_room, w_tables⟩
theorem atStart : AtStart classFile x code maxLocals ret World_1 tables_1 room_1 Calls_1 rest_1 Pre_1 launch0 p0 e0 about1 theMethod args0 below0 :=
  ⟨lists_1, trivial, launch0.admits_env _ _ _, launch0.least_env, fairChoices_fair.cas, fairChoices_fair.clock, w_frames, w_args, w_heap, w_applies, trivial, trivial, w_case⟩
end start1
theorem witness_1 : WitnessClaimed_1 := ⟨start1.p0, start1.e0, start1.about1, start1.theMethod, start1.args0, start1.below0, start1.atStart⟩
end Jvm.Pilot.@@N@@
