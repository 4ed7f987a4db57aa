import JvmDerived
import JvmDerived.Pilot.@@N@@Statement
import JvmDerived.Pilot.@@N@@Code
set_option linter.unusedVariables false
set_option linter.unusedSimpArgs false
namespace Jvm.Pilot.@@N@@.OwnKit
open Jvm Sem ClassFile Op Lib Jvm.Stand Jvm.Free Jvm.LawKit Jvm.RoadKit
section New
variable {p : Program} {l : Launch} {e : Env} {R : Room} {s : State} {m : MethodId} {args : Array Value} {below : List Frame} {meth : Method} {c : Code} {T : State} {locs : List Loc} {cells slots : Nat}
theorem retI (X : Stand p l e R s m args below meth c T locs cells slots) (hx : p.tables.exec = Jvm.exec) {pc : Nat} {Ls : Array Slot} {z : Int32} {rest : List Value} (hret : meth.sig.returnType = some .int) (hd : decode c.code pc = .ok (.ireturn, 1)) {fs : List Frame}
    (hl : ∀ (f : JFrame) (acts : List Action), f.method = m → f.locked = none → f.entered = [] → (doReturn e (T.setTop f) acts (some (.int z))).1 = T.setFrames fs) : Steps p.tables e below (T.setTop (mkF m pc Ls (.int z :: rest))) (T.setFrames fs) :=
  retOut X hx hret rfl (Or.inl ⟨rfl, Or.inl rfl, _, rfl⟩) hd hl
theorem lremM {g : JFrame} {target : State} (X : Stand p l e R s m args below meth c T locs cells slots) (hx : p.tables.exec = Jvm.exec) (hg : g.method = m) {x y : Int64} {rest : List Value} (hd : decode c.code g.pc = .ok (.lrem, 1)) (hs : g.stack = .long y :: .long x :: rest) (hy : y ≠ 0)
    (hr : Steps p.tables e below (T.setTop { g with pc := g.pc + 1, stack := .long (x % y) :: rest }) target) : Steps p.tables e below (T.setTop g) target := by
  have q : x - x / y * y = x % y := by
    have g1 := rng64 (x % y)
    have g2 : (x % y).toInt = x.toInt.tmod y.toInt := Int64.toInt_mod x y
    have g3 := Int.tmod_def x.toInt y.toInt
    have g4 : (x / y).toInt = (x.toInt.tdiv y.toInt).bmod (2 ^ 64) := Int64.toInt_div x y
    apply Int64.toInt_inj.mp
    rw [Int64.toInt_sub, Int64.toInt_mul, g4, Int.bmod_mul_bmod, Int.sub_bmod_bmod, Int.mul_comm (x.toInt.tdiv y.toInt), ← g3, ← g2]
    exact Int.bmod_eq_of_le_mul_two (by omega) (by omega)
  exact XS.lrem X.here hx hg hd hs hy (by rw [q]; exact hr)
end New
/-- from here the run ends, and as G says -/
def Goes (tb : Tables) (e : Env) (below : List Frame) (t : State) (G : State → Outcome → Prop) : Prop := ∃ s₂ o, Steps tb e below t s₂ ∧ s₂.status = .running ∧ Ended s₂ below o ∧ G s₂ o
variable {tb : Tables} {e : Env} {below : List Frame} {t t' : State} {G : State → Outcome → Prop}
theorem Goes.by (k : ∀ u, Steps tb e below t' u → Steps tb e below t u) (h : Goes tb e below t' G) : Goes tb e below t G := by
  obtain ⟨s₂, o, h1, h2⟩ := h; exact ⟨s₂, o, k _ h1, h2⟩
theorem Goes.via (k : Steps tb e below t t') (h : Goes tb e below t' G) : Goes tb e below t G := by
  obtain ⟨s₂, o, h1, h2⟩ := h; exact ⟨s₂, o, k.trans h1, h2⟩
theorem jl_t {x y : Int64} (h : x < y) : ifCond.holds .lt (lcmpW x y) = true ∧ ifCond.holds .ge (lcmpW x y) = false := ⟨(if0 _ _).trans (tlt ((lw_lt x y).mpr h)).1, (if0 _ _).trans (tlt ((lw_lt x y).mpr h)).2.1⟩
theorem jl_f {x y : Int64} (h : ¬ x < y) : ifCond.holds .lt (lcmpW x y) = false ∧ ifCond.holds .ge (lcmpW x y) = true := ⟨(if0 _ _).trans (flt (fun q => h ((lw_lt x y).mp q))).1, (if0 _ _).trans (flt (fun q => h ((lw_lt x y).mp q))).2.1⟩
theorem jg_t {x y : Int64} (h : y < x) : ifCond.holds .gt (lcmpW x y) = true ∧ ifCond.holds .le (lcmpW x y) = false := ⟨(if0 _ _).trans (tlt ((lw_gt x y).mpr h)).2.2.1, (if0 _ _).trans (tlt ((lw_gt x y).mpr h)).2.2.2⟩
theorem jg_f {x y : Int64} (h : ¬ y < x) : ifCond.holds .gt (lcmpW x y) = false ∧ ifCond.holds .le (lcmpW x y) = true := ⟨(if0 _ _).trans (flt (fun q => h ((lw_gt x y).mp q))).2.2.1, (if0 _ _).trans (flt (fun q => h ((lw_gt x y).mp q))).2.2.2⟩
theorem je_t {x y : Int64} (h : x = y) : ifCond.holds .eq (lcmpW x y) = true ∧ ifCond.holds .ne (lcmpW x y) = false := ⟨(if0 _ _).trans (teq ((lw_eq x y).mpr h)).1, (if0 _ _).trans (teq ((lw_eq x y).mpr h)).2⟩
theorem je_f {x y : Int64} (h : ¬ x = y) : ifCond.holds .eq (lcmpW x y) = false ∧ ifCond.holds .ne (lcmpW x y) = true := ⟨(if0 _ _).trans (feq (fun q => h ((lw_eq x y).mp q))).1, (if0 _ _).trans (feq (fun q => h ((lw_eq x y).mp q))).2⟩
theorem selP {Z s : State} {a0 args : Array Value} {y : MethodName} {n : Nat} (hZ : Z.Warmed39 s.vm) (wi : (Cond.instantiable y.cls n).before a0 Z = true) (wp : (Cond.privateMethod y).before a0 Z = true) (win : (Cond.instanceMethod y).before a0 Z = true) (hy : y.cls ≠ "java/lang/invoke/MethodHandle" ∧ y.cls ≠ "java/lang/invoke/VarHandle") : (Cond.selects y.cls y y).before args s = true := by
  have w1 : (Cond.instantiable y.cls n).before args s = true := mv hZ wi
  obtain ⟨c, k, h1, h2, -, h4, -⟩ := Cond.instantiable_spec w1
  rw [Bool.or_eq_false_iff] at h4
  exact selects_self_of_private h1 h2 h4.1 (Cond.privateMethod_at (mvP hZ wp (args := args))) (mv hZ win) hy
theorem catR {v : Value} (h : v.isRef = true) : v.category = 1 := by cases v <;> first | rfl | (cases h)
theorem narR {t : FieldType} {w : Value} (h : t.isReference = true) : narrow t w = w := by cases t <;> first | (cases h; done) | (cases w <;> rfl)
end Jvm.Pilot.@@N@@.OwnKit
namespace Jvm.Pilot.@@N@@.OwnKit
open Jvm Sem ClassFile Op Lib Jvm.Stand Jvm.Free Jvm.LawKit Jvm.RoadKit
/-- one place of a function turned -/
def up {α : Type} (f : Nat → α) (i : Nat) (v : α) : Nat → α := fun j => if j = i then v else f j
/-- an array of n places; place j holds f j -/
def Ar (Z : State) (h : Heap) (a : Addr) (ty : FieldType) (n : Nat) (f : Nat → Value) : Prop := ∃ c : Cell, Arr Z h a c ty ∧ c.slots.size = n ∧ n < 2 ^ 31 ∧ ∀ j, j < n → c.slots[j]? = some (f j) ∧ fits ty (f j) = true
def AI (Z : State) (h : Heap) (a : Addr) (ty : FieldType) (n : Nat) (f : Nat → Int32) : Prop := Ar Z h a ty n (fun j => .int (f j))
def AJ (Z : State) (h : Heap) (a : Addr) (n : Nat) (f : Nat → Int64) : Prop := Ar Z h a .long n (fun j => .long (f j))
section Facts
variable {Z : State} {h h' : Heap} {a b : Addr} {ty : FieldType} {n sl : Nat} {f : Nat → Value} {g : Nat → Int32} {k : Nat → Int64} {v : Value} {ws : List Addr}
theorem up_at {α : Type} (f : Nat → α) (i : Nat) (v : α) : up f i v i = v := if_pos rfl
theorem up_ne {α : Type} (f : Nat → α) {i j : Nat} (v : α) (q : j ≠ i) : up f i v j = f j := if_neg q
theorem Ar.lt (A : Ar Z h a ty n f) : a < h.size := by obtain ⟨c, A, -⟩ := A; exact A.lt
theorem Ar.ext (A : Ar Z h a ty n f) (E : Ext h h') : Ar Z h' a ty n f := by obtain ⟨c, A, r⟩ := A; exact ⟨c, A.ext E, r⟩
theorem Ar.other (A : Ar Z h b ty n f) (W : Wr h h' a sl v) (q : b ≠ a) : Ar Z h' b ty n f := by obtain ⟨c, A, r⟩ := A; exact ⟨c, A.other W q, r⟩
theorem Ar.keep (A : Ar Z h a ty n f) (K : Keep h h' ws) (q : a ∉ ws) : Ar Z h' a ty n f := by obtain ⟨c, A, r⟩ := A; exact ⟨c, ⟨K.2.1 a c A.1 q, A.2⟩, r⟩
theorem own_setSlot (c : Cell) (i : Nat) (v : Value) : (c.setSlot i v).slots = c.slots.setIfInBounds i v := rfl
theorem Ar.wr (A : Ar Z h a ty n f) (W : Wr h h' a sl v) (hf : fits ty v = true) : Ar Z h' a ty n (up f sl v) := by
  obtain ⟨c, A, S, M, G⟩ := A
  refine ⟨c.setSlot sl v, A.same W, by rw [sz_set]; exact S, M, fun j hj => ?_⟩
  by_cases q : j = sl
  · subst q; rw [up_at, own_setSlot, Array.getElem?_setIfInBounds_self_of_lt (by omega)]; exact ⟨rfl, hf⟩
  · rw [up_ne f v q, own_setSlot, Array.getElem?_setIfInBounds_ne (Ne.symm q)]; exact G j hj
theorem Ar.congr {f' : Nat → Value} (A : Ar Z h a ty n f) (q : ∀ j, j < n → f j = f' j) : Ar Z h a ty n f' := by
  obtain ⟨c, A, S, M, G⟩ := A; exact ⟨c, A, S, M, fun j hj => by rw [← q j hj]; exact G j hj⟩
theorem AI.lt (A : AI Z h a ty n g) : a < h.size := Ar.lt A
theorem AI.ext (A : AI Z h a ty n g) (E : Ext h h') : AI Z h' a ty n g := Ar.ext A E
theorem AI.other (A : AI Z h b ty n g) (W : Wr h h' a sl v) (q : b ≠ a) : AI Z h' b ty n g := Ar.other A W q
theorem AI.keep (A : AI Z h a ty n g) (K : Keep h h' ws) (q : a ∉ ws) : AI Z h' a ty n g := Ar.keep A K q
theorem AI.wr {x : Int32} (A : AI Z h a ty n g) (W : Wr h h' a sl (.int x)) (hf : fits ty (.int x) = true) : AI Z h' a ty n (up g sl x) :=
  (Ar.wr A W hf).congr fun j _ => by simp only [up]; split <;> rfl
theorem AI.congr {g' : Nat → Int32} (A : AI Z h a ty n g) (q : ∀ j, j < n → g j = g' j) : AI Z h a ty n g' := Ar.congr A fun j hj => by rw [q j hj]
theorem AJ.lt (A : AJ Z h a n k) : a < h.size := Ar.lt A
theorem AJ.ext (A : AJ Z h a n k) (E : Ext h h') : AJ Z h' a n k := Ar.ext A E
theorem AJ.other (A : AJ Z h b n k) (W : Wr h h' a sl v) (q : b ≠ a) : AJ Z h' b n k := Ar.other A W q
theorem AJ.keep (A : AJ Z h a n k) (K : Keep h h' ws) (q : a ∉ ws) : AJ Z h' a n k := Ar.keep A K q
theorem AJ.wr {x : Int64} (A : AJ Z h a n k) (W : Wr h h' a sl (.long x)) : AJ Z h' a n (up k sl x) :=
  (Ar.wr A W rfl).congr fun j _ => by simp only [up]; split <;> rfl
theorem AJ.congr {k' : Nat → Int64} (A : AJ Z h a n k) (q : ∀ j, j < n → k j = k' j) : AJ Z h a n k' := Ar.congr A fun j hj => by rw [q j hj]
theorem Ar.bound (A : Ar Z h a ty n f) : n < 2 ^ 31 := by obtain ⟨c, A, S, M, G⟩ := A; exact M
theorem eqv_r {Z : State} {args : Array Value} {X F : Term} {idx : List Nat} {y : Addr} (hF : F.eval args Z none idx Z = some (.ref y)) (h : (Cond.eq X F).value args Z none Z idx = some true) : X.eval args Z none idx Z = some (.ref y) := by
  obtain ⟨x, y', e1, e2, k1, k2⟩ := cmp_v (Or.inl h)
  cases hF.symm.trans e2
  exact e1.trans (congrArg some (gotT (eq_R e1 hF k2.2 rfl) h))
theorem own_lenA (t : Term) (args : Array Value) (first s : State) (o : Option Outcome) (idx : List Nat) : (Term.length t).eval args first o idx s = ((t.eval args first o idx s).bind fun v => match v with | .ref a => ((s.arrayAt? a).bind fun c => if c.slots.size < 2 ^ 31 then some (.int c.slots.size.toInt32) else none) | _ => none) := rfl
theorem own_sized {t : Term} {args : Array Value} {s : State} {a : Addr} {c : Cell} {z : Int32} {n : Nat} (ht : t.eval args s none [] s = some (.ref a)) (ha : s.arrayAt? a = some c) (h : (Term.length t).eval args s none [] s = some (.int z)) (hz : z.toInt = (n : Int)) : c.slots.size = n := by
  rw [own_lenA, ht, Option.bind_some] at h
  dsimp only at h
  rw [ha, Option.bind_some] at h
  by_cases q : c.slots.size < 2 ^ 31
  · rw [if_pos q] at h
    have e5 := Value.int.inj (Option.some.inj h)
    have e6 := len_toInt q
    rw [e5] at e6
    omega
  · rw [if_neg q] at h; cases h
theorem ixo {j : Int32} {i n : Nat} (hj : j.toInt = (i : Int)) (hi : i < n) : ¬ (j < 0 ∨ n ≤ j.toNatClampNeg) ∧ j.toNatClampNeg = i := by
  have e0 : (0 : Int32).toInt = 0 := rfl
  have q : j.toNatClampNeg = i := by rw [Int32.toNatClampNeg, hj]; rfl
  refine ⟨fun z => z.elim (fun u => ?_) fun u => ?_, q⟩
  · rw [Int32.lt_iff_toInt_lt] at u; omega
  · omega
theorem lenI {n : Nat} {z : Int32} (hz : z.toInt = (n : Int)) : n.toInt32 = z := by
  apply Int32.toInt_inj.mp
  have r := rng32 z
  rw [hz]; exact Int32.toInt_ofNat_of_lt (by omega)
theorem Ar.arv (A : Ar Z h a ty n f) : ∃ k, Arv Z h a k ty (Int32.ofNat n) ((List.range n).map f) (f 0) := by
  obtain ⟨c, A, S, M, G⟩ := A
  have e0 : (0 : Int32).toInt = 0 := rfl
  have hz : (Int32.ofNat n).toInt = (n : Int) := Int32.toInt_ofNat_of_lt (by omega)
  have hq : (Int32.ofNat n).toNatClampNeg = n := by rw [Int32.toNatClampNeg, hz]; rfl
  have hg : ∀ i, i < n → ((List.range n).map f).getD i (f 0) = f i := fun i hi => by
    rw [List.getD_eq_getElem?_getD, List.getElem?_map, List.getElem?_range hi]; rfl
  refine ⟨c.cls, c, A, rfl, by rw [hq]; exact S, by rw [Int32.lt_iff_toInt_lt, hz]; omega, fun i hi => ?_, fun i hi => ?_⟩
  · rw [hg i (by omega)]; exact (G i (by omega)).1
  · rw [hg i (by omega)]; exact (G i (by omega)).2
theorem Ar.of_arv {k : ClassId} {z : Int32} {vs : List Value} {d : Value} (A : Arv Z h a k ty z vs d) (hz : z.toInt = (n : Int)) : Ar Z h a ty n (fun j => vs.getD j d) := by
  obtain ⟨c, A, q, S, N, H, G⟩ := A
  have hq : z.toNatClampNeg = n := by rw [Int32.toNatClampNeg, hz]; rfl
  have r := rng32 z
  exact ⟨c, A, by rw [S, hq], by omega, fun j hj => ⟨H j (by omega), G j (by omega)⟩⟩
end Facts
section Steps
variable {p : Program} {l : Launch} {e : Env} {R : Room} {s : State} {m : MethodId} {args : Array Value} {below : List Frame} {meth : Method} {c : Code} {T : State} {locs : List Loc} {cells slots : Nat} {Z : State} {h : Heap} {a : Addr} {n i : Nat} {j : Int32} {rest : List Value} {fr : JFrame} {target : State}
theorem ldI {f : Nat → Int32} {v : Int32} (X : Stand p l e R s m args below meth c T locs cells slots) (hx : p.tables.exec = Jvm.exec) (hZ : Z.Warmed39 s.vm) (eT : T.heap = h) (A : AI Z h a .int n f) (hj : j.toInt = (i : Int)) (hi : i < n) (hv : v = f i) (hg : fr.method = m) (hs : fr.stack = .int j :: .ref a :: rest) (hd : decode c.code fr.pc = .ok (.iaload, 1))
    (hr : Steps p.tables e below (T.setTop { fr with pc := fr.pc + 1, stack := .int v :: rest }) target) : Steps p.tables e below (T.setTop fr) target := by
  obtain ⟨cl, A, S, M, G⟩ := A
  obtain ⟨q1, q2⟩ := ixo hj hi
  exact X.iaload hx (j := j) (v := .int v) (by rw [eT]; exact A.1) (State.isArrayOf_alike hZ.alike A.2.1) A.2.2 (by rw [S]; exact q1) (by rw [q2, hv]; exact (G i hi).1) hg hs hd _ hr
theorem ldB {f : Nat → Int32} {v : Int32} (X : Stand p l e R s m args below meth c T locs cells slots) (hx : p.tables.exec = Jvm.exec) (hZ : Z.Warmed39 s.vm) (eT : T.heap = h) (A : AI Z h a .byte n f) (hj : j.toInt = (i : Int)) (hi : i < n) (hv : v = f i) (hg : fr.method = m) (hs : fr.stack = .int j :: .ref a :: rest) (hd : decode c.code fr.pc = .ok (.baload, 1))
    (hr : Steps p.tables e below (T.setTop { fr with pc := fr.pc + 1, stack := .int v :: rest }) target) : Steps p.tables e below (T.setTop fr) target := by
  obtain ⟨cl, A, S, M, G⟩ := A
  obtain ⟨q1, q2⟩ := ixo hj hi
  exact X.baloadBytes hx (j := j) (v := .int v) (by rw [eT]; exact A.1) (State.isArrayOf_alike hZ.alike A.2.1) A.2.2 (by rw [S]; exact q1) (by rw [q2, hv]; exact (G i hi).1) hg hs hd _ hr
theorem ldJ {f : Nat → Int64} {v : Int64} (X : Stand p l e R s m args below meth c T locs cells slots) (hx : p.tables.exec = Jvm.exec) (hZ : Z.Warmed39 s.vm) (eT : T.heap = h) (A : AJ Z h a n f) (hj : j.toInt = (i : Int)) (hi : i < n) (hv : v = f i) (hg : fr.method = m) (hs : fr.stack = .int j :: .ref a :: rest) (hd : decode c.code fr.pc = .ok (.laload, 1))
    (hr : Steps p.tables e below (T.setTop { fr with pc := fr.pc + 1, stack := .long v :: rest }) target) : Steps p.tables e below (T.setTop fr) target := by
  obtain ⟨cl, A, S, M, G⟩ := A
  obtain ⟨q1, q2⟩ := ixo hj hi
  exact X.laload hx (j := j) (v := .long v) (by rw [eT]; exact A.1) (State.isArrayOf_alike hZ.alike A.2.1) A.2.2 (by rw [S]; exact q1) (by rw [q2, hv]; exact (G i hi).1) hg hs hd _ hr
theorem ldR {ty : FieldType} {f : Nat → Value} {v : Value} (X : Stand p l e R s m args below meth c T locs cells slots) (hx : p.tables.exec = Jvm.exec) (hZ : Z.Warmed39 s.vm) (eT : T.heap = h) (A : Ar Z h a ty n f) (hty : ty.isReference = true) (hj : j.toInt = (i : Int)) (hi : i < n) (hv : v = f i) (hg : fr.method = m) (hs : fr.stack = .int j :: .ref a :: rest) (hd : decode c.code fr.pc = .ok (.aaload, 1))
    (hr : Steps p.tables e below (T.setTop { fr with pc := fr.pc + 1, stack := v :: rest }) target) : Steps p.tables e below (T.setTop fr) target := by
  obtain ⟨cl, A, S, M, G⟩ := A
  obtain ⟨q1, q2⟩ := ixo hj hi
  exact X.aaload hx (j := j) (v := v) (by rw [eT]; exact A.1) (State.isArrayOf_alike hZ.alike A.2.1) hty A.2.2 (by rw [S]; exact q1) (by rw [q2, hv]; exact (G i hi).1) hg hs hd _ hr
/-- an array's clone -/
theorem cloneAr {a0 : Array Value} {own ad : String} {index : Nat} {ty : FieldType} {f : Nat → Value} {W cap : Nat} (X : Stand p l e R s m args below meth c T locs cells slots) (hx : p.tables.exec = Jvm.exec) (hZ : Z.Warmed39 s.vm) (hown : s.vm.findClass own = some m.cls)
    (w1 : (Cond.methodLink own index ⟨ad, "clone", "()Ljava/lang/Object;"⟩).before a0 Z = true) (w2 : (Cond.sameMethod ad "java/lang/Object" "clone" "()Ljava/lang/Object;").before a0 Z = true) (w3 : (Cond.native ⟨"java/lang/Object", "clone", "()Ljava/lang/Object;"⟩).before a0 Z = true)
    (w4 : (Cond.instanceMethod ⟨"java/lang/Object", "clone", "()Ljava/lang/Object;"⟩).before a0 Z = true) (w5 : (Cond.selects ad ⟨ad, "clone", "()Ljava/lang/Object;"⟩ ⟨"java/lang/Object", "clone", "()Ljava/lang/Object;"⟩).before a0 Z = true) (w6 : (Cond.castable ad "java/lang/Cloneable").before a0 Z = true)
    (eT : T.heap = h) (A : Ar Z h a ty n f) (E : Exa Z h a ad) (hg : fr.method = m) (hsize : fr.locals.size = c.maxLocals) (hs : fr.stack = .ref a :: rest) (hd : decode c.code fr.pc = .ok (.invokevirtual index, 3))
    (hf : 1 ≤ R.frames) (hW : 2 * fr.monitorRoom + (rest.map fun v => v.category).sum ≤ W) (hl : W + 14 ≤ R.locals) (hcap : n ≤ cap) (hc : cells + 1 ≤ R.cells) (hsl : slots + cap ≤ R.slots) :
    ∃ T' h', Stand p l e R s m args below meth c T' locs (cells + 1) (slots + cap) ∧ T'.heap = h' ∧ Ext h h' ∧ Ar Z h' h.size ty n f ∧ Exa Z h' h.size ad ∧
      ∀ target, Steps p.tables e below (T'.setTop { fr with pc := fr.pc + 3, stack := .ref h.size :: rest }) target → Steps p.tables e below (T.setTop fr) target := by
  obtain ⟨cl, A, S, M, G⟩ := A
  have FC : FitC Z cl := fitC_of A fun i hi v hv => by
    have q := G i (by omega)
    rw [q.1] at hv; cases hv; exact q.2
  obtain ⟨T', h', X', e', ex, A', E', st⟩ := cloneA X hx hZ hown w1 w2 w3 w4 w5 w6 eT A E FC hg hsize hs hd hf hW hl (by omega) hc hsl
  exact ⟨T', h', X', e', ex, ⟨cloneOf cl, A', S, M, G⟩, E', st⟩
theorem alen {ty : FieldType} {f : Nat → Value} {z : Int32} (X : Stand p l e R s m args below meth c T locs cells slots) (hx : p.tables.exec = Jvm.exec) (hZ : Z.Warmed39 s.vm) (eT : T.heap = h) (A : Ar Z h a ty n f) (hz : z.toInt = (n : Int)) (hg : fr.method = m) (hs : fr.stack = .ref a :: rest) (hd : decode c.code fr.pc = .ok (.arraylength, 1))
    (hr : Steps p.tables e below (T.setTop { fr with pc := fr.pc + 1, stack := .int z :: rest }) target) : Steps p.tables e below (T.setTop fr) target := by
  obtain ⟨cl, A, S, M, G⟩ := A
  exact X.arraylength hx (by rw [eT]; exact A.1) (State.isArrayOf_alike hZ.alike A.2.1) hg hs hd _ (by rw [S, lenI hz]; exact hr)
theorem stAI {f : Nat → Int32} {x : Int32} (X : Stand p l e R s m args below meth c T locs cells slots) (hx : p.tables.exec = Jvm.exec) (hZ : Z.Warmed39 s.vm) (eT : T.heap = h) (A : AI Z h a .int n f) (hj : j.toInt = (i : Int)) (hi : i < n) (hg : fr.method = m) (hs : fr.stack = .int x :: .int j :: .ref a :: rest) (hd : decode c.code fr.pc = .ok (.iastore, 1)) :
    ∃ T' h', Stand p l e R s m args below meth c T' (locs ++ [⟨a, i⟩]) cells slots ∧ T'.heap = h' ∧ Wr h h' a i (.int x) ∧ AI Z h' a .int n (up f i x) ∧ ∀ target, Steps p.tables e below (T'.setTop { fr with pc := fr.pc + 1, stack := rest }) target → Steps p.tables e below (T.setTop fr) target := by
  have A0 := A
  obtain ⟨cl, A, S, M, G⟩ := A
  obtain ⟨q1, q2⟩ := ixo hj hi
  obtain ⟨T', h', X', e', W', st⟩ := stI X hx hZ eT A (j := j) (by rw [S]; exact q1) hg hs hd
  rw [q2] at X' W'
  exact ⟨T', h', X', e', W', A0.wr W' rfl, st⟩
theorem stAB {f : Nat → Int32} {x : Int32} (X : Stand p l e R s m args below meth c T locs cells slots) (hx : p.tables.exec = Jvm.exec) (hZ : Z.Warmed39 s.vm) (eT : T.heap = h) (A : AI Z h a .byte n f) (hj : j.toInt = (i : Int)) (hi : i < n) (hg : fr.method = m) (hs : fr.stack = .int x :: .int j :: .ref a :: rest) (hd : decode c.code fr.pc = .ok (.bastore, 1)) :
    ∃ T' h', Stand p l e R s m args below meth c T' (locs ++ [⟨a, i⟩]) cells slots ∧ T'.heap = h' ∧ Wr h h' a i (.int x.toInt8.toInt32) ∧ AI Z h' a .byte n (up f i x.toInt8.toInt32) ∧ ∀ target, Steps p.tables e below (T'.setTop { fr with pc := fr.pc + 1, stack := rest }) target → Steps p.tables e below (T.setTop fr) target := by
  have A0 := A
  obtain ⟨cl, A, S, M, G⟩ := A
  obtain ⟨q1, q2⟩ := ixo hj hi
  obtain ⟨T', h', X', e', W', st⟩ := stB X hx hZ eT A (j := j) (by rw [S]; exact q1) hg hs hd
  rw [q2] at X' W'
  exact ⟨T', h', X', e', W', A0.wr W' (fits_nar_byte x), st⟩
theorem stAJ {f : Nat → Int64} {x : Int64} (X : Stand p l e R s m args below meth c T locs cells slots) (hx : p.tables.exec = Jvm.exec) (hZ : Z.Warmed39 s.vm) (eT : T.heap = h) (A : AJ Z h a n f) (hj : j.toInt = (i : Int)) (hi : i < n) (hg : fr.method = m) (hs : fr.stack = .long x :: .int j :: .ref a :: rest) (hd : decode c.code fr.pc = .ok (.lastore, 1)) :
    ∃ T' h', Stand p l e R s m args below meth c T' (locs ++ [⟨a, i⟩]) cells slots ∧ T'.heap = h' ∧ Wr h h' a i (.long x) ∧ AJ Z h' a n (up f i x) ∧ ∀ target, Steps p.tables e below (T'.setTop { fr with pc := fr.pc + 1, stack := rest }) target → Steps p.tables e below (T.setTop fr) target := by
  have A0 := A
  obtain ⟨cl, A, S, M, G⟩ := A
  obtain ⟨q1, q2⟩ := ixo hj hi
  obtain ⟨T', h', X', e', W', st⟩ := stJ X hx hZ eT A (j := j) (by rw [S]; exact q1) hg hs hd
  rw [q2] at X' W'
  exact ⟨T', h', X', e', W', A0.wr W', st⟩
theorem nwA {a0 : Array Value} {aty : ArrayType} {z : Int32} {cap : Nat} (X : Stand p l e R s m args below meth c T locs cells slots) (hx : p.tables.exec = Jvm.exec) (hZ : Z.Warmed39 s.vm) (w : (Cond.arrayClass (newarray.typeOf aty)).before a0 Z = true) (eT : T.heap = h) (hz : z.toInt = (n : Int)) (hcap : n ≤ cap) (hb : cap * 8 ≤ 536870912) (hc : cells + 1 ≤ R.cells) (hl : slots + cap ≤ R.slots) (hg : fr.method = m) (hs : fr.stack = .int z :: rest) (hd : decode c.code fr.pc = .ok (.newarray aty, 2)) :
    ∃ T' h', Stand p l e R s m args below meth c T' locs (cells + 1) (slots + cap) ∧ T'.heap = h' ∧ Ext h h' ∧ Ar Z h' h.size (newarray.typeOf aty) n (fun _ => defaultValue (newarray.typeOf aty)) ∧ ∀ target, Steps p.tables e below (T'.setTop { fr with pc := fr.pc + 2, stack := .ref h.size :: rest }) target → Steps p.tables e below (T.setTop fr) target := by
  have e0 : (0 : Int32).toInt = 0 := rfl
  have q : z.toNatClampNeg = n := by rw [Int32.toNatClampNeg, hz]; rfl
  have qn : ¬ z < 0 := by rw [Int32.lt_iff_toInt_lt]; omega
  have r := rng32 z
  obtain ⟨T', h', cA, X', e', E', A', st⟩ := newP X hx hZ w eT hg hd hs qn (cap := cap) (by omega) hb hc hl
  refine ⟨T', h', X', e', E', ⟨_, A', by rw [sz_new, q], by omega, fun i hi => ⟨?_, by cases aty <;> rfl⟩⟩, st⟩
  simp [newA, q, hi]
/-- System.arraycopy of the first k places -/
theorem cpAr {a0 : Array Value} {own : String} {index : Nat} {b : Addr} {ty : FieldType} {n1 n2 k : Nat} {f1 f2 : Nat → Value} {nn : Int32} {n0 W : Nat} (X : Stand p l e R s m args below meth c T locs cells slots) (hx : p.tables.exec = Jvm.exec) (hZ : Z.Warmed39 s.vm) (hown : s.vm.findClass own = some m.cls)
    (w1 : (Cond.methodLink own index Jvm.Stand.acN).before a0 Z = true) (w2 : (Cond.native Jvm.Stand.acN).before a0 Z = true) (w3 : (Cond.static Jvm.Stand.acN).before a0 Z = true) (w4 : (Cond.initialized "java/lang/System").before a0 Z = true) (eT : T.heap = h)
    (A : Ar Z h a ty n1 f1) (B : Ar Z h b ty n2 f2) (hty : refKind ty = false) (hk : nn.toInt = (k : Int)) (h4 : k ≤ n1) (h5 : k ≤ n2) (N : Fr n0 locs) (ge : n0 ≤ b)
    (hg : fr.method = m) (hsize : fr.locals.size = c.maxLocals) (hs : fr.stack = .int nn :: .int 0 :: .ref b :: .int 0 :: .ref a :: rest) (hd : decode c.code fr.pc = .ok (.invokestatic index, 3))
    (hf : 1 ≤ R.frames) (hW : 2 * fr.monitorRoom + (rest.map fun v => v.category).sum ≤ W) (hlo : W + (nativeFrameWords "java/lang/System" "arraycopy" 5 + 11) ≤ R.locals) :
    ∃ T' h' L, Stand p l e R s m args below meth c T' L cells slots ∧ T'.heap = h' ∧ Fr n0 L ∧ Keep h h' [b] ∧ Ar Z h' b ty n2 (fun j => if j < k then f1 j else f2 j) ∧
      ∀ target, Steps p.tables e below (T'.setTop { fr with pc := fr.pc + 3, stack := rest }) target → Steps p.tables e below (T.setTop fr) target := by
  obtain ⟨ka, A'⟩ := A.arv
  obtain ⟨kb, B'⟩ := B.arv
  have m1 := A.bound
  have m2 := B.bound
  have e0 : (0 : Int32).toInt = 0 := rfl
  have z0 : (0 : Int32).toNatClampNeg = 0 := rfl
  have hkk : nn.toNatClampNeg = k := by rw [Int32.toNatClampNeg, hk]; rfl
  have q1 : (Int32.ofNat n1).toInt = (n1 : Int) := Int32.toInt_ofNat_of_lt (by omega)
  have q2 : (Int32.ofNat n2).toInt = (n2 : Int) := Int32.toInt_ofNat_of_lt (by omega)
  have p1 : (Int32.ofNat n1).toNatClampNeg = n1 := by rw [Int32.toNatClampNeg, q1]; rfl
  have p2 : (Int32.ofNat n2).toNatClampNeg = n2 := by rw [Int32.toNatClampNeg, q2]; rfl
  obtain ⟨T', h', L', X', e', N', K', B2, st⟩ := cpA X hx hZ hown w1 w2 w3 w4 eT A' B' (Or.inl ⟨rfl, hty⟩) (sp := 0) (dp := 0) (nn := nn) (by decide) (by decide) (by rw [Int32.lt_iff_toInt_lt]; omega) (by rw [z0, hkk, p1]; omega) (by rw [z0, hkk, p2]; omega) rfl (by rw [z0, hkk, List.length_map, List.length_range]; omega) N ge hg hsize hs hd hf hW hlo
  refine ⟨T', h', L', X', e', N', K', (Ar.of_arv B2 q2).congr fun j hj => ?_, st⟩
  simp only [z0, hkk, List.take_zero, List.nil_append, Nat.zero_add, List.getD_eq_getElem?_getD]
  by_cases c1 : j < k
  · rw [if_pos c1, List.getElem?_append_left (by simpa using c1)]
    simp [c1, show j < n1 by omega]
  · rw [if_neg c1, List.getElem?_append_right (by simpa using c1)]
    simp [show k + (j - k) = j by omega, hj]
end Steps
end Jvm.Pilot.@@N@@.OwnKit
namespace Jvm.Pilot.@@N@@
open Jvm Jvm.ClassFile Sem Op Lib Jvm.Free Jvm.Stand Jvm.LawKit Jvm.RoadKit Bundle Jvm.Pilot.@@N@@.Jvm.D Jvm.Pilot.@@N@@.OwnKit
def own_sv (sa0 sa1 sa2 sa3 sa4 sa5 sa6 : Addr) : Nat → Value := (up (up (up (up (up (up (fun _ => (Value.ref sa0)) 1 (Value.ref sa1)) 2 (Value.ref sa2)) 3 (Value.ref sa3)) 4 (Value.ref sa4)) 5 (Value.ref sa5)) 6 (Value.ref sa6))
theorem d2_0 : decode prog_27_method_1_code 0 = .ok (.getstatic 25, 3) := by decide +kernel
theorem d2_3 : decode prog_27_method_1_code 3 = .ok (.invokevirtual 29, 3) := by decide +kernel
theorem d2_6 : decode prog_27_method_1_code 6 = .ok (.checkcast 30, 3) := by decide +kernel
theorem d2_9 : decode prog_27_method_1_code 9 = .ok (.areturn, 1) := by decide +kernel
theorem pn_0 : plainName "com/example/gongshu/gongshu/protocol/Status" = true := by first | (simp [plainName, overriddenIn]; done) | decide +kernel
theorem ef2 (m : MethodId)  : entryFrame m #[] 0 = mkF m 0 #[] [] := by first | (simp [entryFrame, mkF, argsToLocals, Value.category]; done) | rfl
def Q2 (Z : State) (av : Addr) (sa0 : Addr) (sa1 : Addr) (sa2 : Addr) (sa3 : Addr) (sa4 : Addr) (sa5 : Addr) (sa6 : Addr) (h0 : Heap) (n0 : Nat) (v : Option Value) (h : Heap) (L : List Loc) : Prop := ∃ ob : Addr, v = some (.ref ob) ∧ Fr n0 L ∧ Keep h0 h [] ∧ Ar Z h ob (.object "com/example/gongshu/gongshu/protocol/Status") 7 (own_sv sa0 sa1 sa2 sa3 sa4 sa5 sa6) ∧ (h0.size ≤ ob)
set_option maxRecDepth 65536 in
set_option maxHeartbeats 40000000 in
theorem rm2 (l : Launch) (Z : State) (a0 : Array Value) (hw : ∀ d ∈ tables_1, d.before a0 Z = true) (ws : List Jvm.Cond) (av : Addr) (sa0 : Addr) (sa1 : Addr) (sa2 : Addr) (sa3 : Addr) (sa4 : Addr) (sa5 : Addr) (sa6 : Addr) (h0 : Heap) (n0 : Nat) (Z0 : n0 ≤ h0.size) (O : Old Z n0 h0) (S_vals : Sta Z Z.heap "com/example/gongshu/gongshu/protocol/Status" "$VALUES" "[Lcom/example/gongshu/gongshu/protocol/Status;" (.ref av)) (A_av : Ar Z h0 av (.object "com/example/gongshu/gongshu/protocol/Status") 7 (own_sv sa0 sa1 sa2 sa3 sa4 sa5 sa6)) (E_av : Exa Z h0 av "[Lcom/example/gongshu/gongshu/protocol/Status;") :
    MetFree l (⟨"com/example/gongshu/gongshu/protocol/Status", "values", "()[Lcom/example/gongshu/gongshu/protocol/Status;"⟩ : MethodName) (head1 (Jvm.Cond.code (⟨"com/example/gongshu/gongshu/protocol/Status", "values", "()[Lcom/example/gongshu/gongshu/protocol/Status;"⟩ : MethodName) prog_27_method_1_code 0 (some (.array (.object "com/example/gongshu/gongshu/protocol/Status"))) :: ws) ({ frames := 1, cells := 1, slots := 7, locals := 14 } : Room)) (fun a U => a = #[] ∧ Z.Warmed39 U.vm ∧ U.heap = h0) (fun _ _ _ _ _ => True) (fun _ U o U' => ∃ v L, o = .returned v ∧ Q2 Z av sa0 sa1 sa2 sa3 sa4 sa5 sa6 h0 n0 v U'.heap L ∧ FrameEnd U o U' L ({ frames := 1, cells := 1, slots := 7, locals := 14 } : Room).cells ({ frames := 1, cells := 1, slots := 7, locals := 14 } : Room).slots) := by
  refine MetFree.of_bodySF (plainFor_of_name pn_0) hisR ?_
  intro p e s m args below meth c s₁ Bd hml0 hP hK
  obtain ⟨rfl, hZ, hh⟩ := hP
  have hx := Bd.exec
  have hby := Bd.bytes
  have hml : c.maxLocals = 0 := hml0
  have hown : s.vm.findClass "com/example/gongshu/gongshu/protocol/Status" = some m.cls := findClass_of_methodNamed Bd.named
  have hnm := (name_of_methodNamed Bd.named Bd.method).1
  have X0 : Stand p l e ({ frames := 1, cells := 1, slots := 7, locals := 14 } : Room) s m #[] below meth c s₁ [] 0 0 := Stand.of_body Bd
  have e0 : s₁.heap = h0 := by rw [← hh, Bd.state]; rfl
  have N0 := Fr.nil n0
  refine Goes.by (fun _ k => castTop (ef2 m) k) ?_
  show Goes p.tables e below (s₁.setTop (mkF m 0 #[] [])) _
  obtain ⟨T1, X1, e1, st1⟩ := getS2 X0 hx hZ hown (host := "") (Or.inl (hw _ (List.mem_of_getElem? (i := 7) rfl))) Via.refl e0 (S_vals.ext O.2) (g := (mkF m 0 #[] [])) rfl (hb hby d2_0)
  refine Goes.by st1 ?_
  show Goes p.tables e below (T1.setTop (mkF m 3 #[] [(.ref av)])) _
  obtain ⟨T2, h2, X2, e2, E2, A2, D2, st2⟩ := cloneAr (fr := (mkF m 3 #[] [(.ref av)])) (W := 0) (cap := 7) X1 hx hZ hown (hw _ (List.mem_of_getElem? (i := 9) rfl)) (hw _ (List.mem_of_getElem? (i := 10) rfl)) (hw _ (List.mem_of_getElem? (i := 14) rfl)) (hw _ (List.mem_of_getElem? (i := 12) rfl)) (hw _ (List.mem_of_getElem? (i := 13) rfl)) (hw _ (List.mem_of_getElem? (i := 15) rfl)) e1 A_av E_av rfl (by rw [hml]; rfl) rfl (hb hby d2_3) (by decide) (by show 2 * 0 + _ ≤ _; exact Nat.le_of_eq rfl) (by decide) (by decide) (by decide) (by decide)
  obtain ⟨b2, g2⟩ : ∃ z, z = h0.size := ⟨_, rfl⟩
  rw [← g2] at A2 D2 st2
  have g_b2 : n0 ≤ b2 := Nat.le_trans Z0 (Nat.le_of_eq g2.symm)
  have sz_b2 : h0.size ≤ b2 := Nat.le_trans (Keep.refl h0 []).1 (Nat.le_of_eq g2.symm)
  have ne_av_b2 : av ≠ b2 := Nat.ne_of_lt (Nat.lt_of_lt_of_le A_av.lt (Nat.le_of_eq g2.symm))
  have Zs2 : n0 ≤ h2.size := Nat.le_trans Z0 E2.1
  have K2 : Keep h0 h2 [] := (Keep.refl h0 []).ext E2
  refine Goes.by st2 ?_
  have O : Old Z n0 h2 := O.ext E2
  have A_av : Ar Z h2 av (.object "com/example/gongshu/gongshu/protocol/Status") 7 (own_sv sa0 sa1 sa2 sa3 sa4 sa5 sa6) := A_av.ext E2
  have E_av : Exa Z h2 av "[Lcom/example/gongshu/gongshu/protocol/Status;" := E_av.ext E2
  have A_b2 : Ar Z h2 b2 (.object "com/example/gongshu/gongshu/protocol/Status") 7 (own_sv sa0 sa1 sa2 sa3 sa4 sa5 sa6) := A2
  have E_b2 : Exa Z h2 b2 "[Lcom/example/gongshu/gongshu/protocol/Status;" := D2
  show Goes p.tables e below (T2.setTop (mkF m 6 #[] [(.ref b2)])) _
  obtain ⟨T3, X3, e3, st3⟩ := castY X2 hx hZ hown (hw _ (List.mem_of_getElem? (i := 24) rfl)) e2 (Ins.self E_b2) (g := (mkF m 6 #[] [(.ref b2)])) rfl rfl (hb hby d2_6)
  refine Goes.by st3 ?_
  show Goes p.tables e below (T3.setTop (mkF m 9 #[] [(.ref b2)])) _
  obtain ⟨fs, hr, hrun, hended, hW, hsame⟩ := X3.leave (v := some (.ref b2)) (fun h => by rw [Bd.returns] at h; cases h)
  refine ⟨_, _, retOut X3 hx Bd.returns (i := .areturn) (narR rfl) (Or.inr (Or.inr (Or.inr (Or.inr ⟨rfl, rfl, rfl⟩)))) (hb hby d2_9) hr, hrun, hended, _, _, rfl, ?_, ⟨_, rfl⟩, hW, hsame.mono (by decide) (by decide)⟩
  show Q2 Z av sa0 sa1 sa2 sa3 sa4 sa5 sa6 h0 n0 _ T3.heap _
  rw [e3]
  exact ⟨b2, rfl, N0, K2, A_b2, sz_b2⟩
def own_of (sa0 sa1 sa2 sa3 sa4 sa5 sa6 : Addr) (q : Int32) : Value := if (0 : Int32) = q then .ref sa0 else if (1 : Int32) = q then .ref sa1 else if (2 : Int32) = q then .ref sa2 else if (3 : Int32) = q then .ref sa3 else if (4 : Int32) = q then .ref sa4 else if (5 : Int32) = q then .ref sa5 else if (6 : Int32) = q then .ref sa6 else .null
def own_ex (sa0 sa1 sa2 sa3 sa4 sa5 sa6 : Addr) (q : Int32) : Value := if q = (0 : Int32) then .ref sa0 else if q = (1 : Int32) then .ref sa1 else if q = (2 : Int32) then .ref sa2 else if q = (3 : Int32) then .ref sa3 else if q = (4 : Int32) then .ref sa4 else if q = (5 : Int32) then .ref sa5 else if q = (6 : Int32) then .ref sa6 else .null
theorem own_eq (sa0 sa1 sa2 sa3 sa4 sa5 sa6 : Addr) (q : Int32) : own_of sa0 sa1 sa2 sa3 sa4 sa5 sa6 q = own_ex sa0 sa1 sa2 sa3 sa4 sa5 sa6 q := by
  rw [own_of, own_ex]
  simp only [eq_comm (a := q)]
theorem own_isr (sa0 sa1 sa2 sa3 sa4 sa5 sa6 : Addr) (q : Int32) : (own_of sa0 sa1 sa2 sa3 sa4 sa5 sa6 q).isRef = true := by
  rw [own_of]
  (repeat' split) <;> rfl
theorem own_isx (sa0 sa1 sa2 sa3 sa4 sa5 sa6 : Addr) (q : Int32) : (own_ex sa0 sa1 sa2 sa3 sa4 sa5 sa6 q).isRef = true := by
  rw [own_ex]
  (repeat' split) <;> rfl
theorem own_symm (a b : Int32) : (a = b) = (b = a) := propext ⟨Eq.symm, Eq.symm⟩
theorem d1_0 : decode prog_27_method_6_code 0 = .ok (.invokestatic 52, 3) := by decide +kernel
theorem pd_0 : parseMethodDescriptor "()[Lcom/example/gongshu/gongshu/protocol/Status;" = some ⟨[], some (.array (.object "com/example/gongshu/gongshu/protocol/Status"))⟩ := by decide +kernel
theorem d1_3 : decode prog_27_method_6_code 3 = .ok (.astore_n 1, 1) := by decide +kernel
theorem d1_4 : decode prog_27_method_6_code 4 = .ok (.aload_n 1, 1) := by decide +kernel
theorem d1_5 : decode prog_27_method_6_code 5 = .ok (.arraylength, 1) := by decide +kernel
theorem d1_6 : decode prog_27_method_6_code 6 = .ok (.istore_n 2, 1) := by decide +kernel
theorem d1_7 : decode prog_27_method_6_code 7 = .ok (.iconst 0, 1) := by decide +kernel
theorem d1_8 : decode prog_27_method_6_code 8 = .ok (.istore_n 3, 1) := by decide +kernel
theorem d1_9 : decode prog_27_method_6_code 9 = .ok (.iload_n 3, 1) := by decide +kernel
theorem d1_10 : decode prog_27_method_6_code 10 = .ok (.iload_n 2, 1) := by decide +kernel
theorem d1_11 : decode prog_27_method_6_code 11 = .ok (.if_icmp .ge 26, 3) := by decide +kernel
theorem d1_14 : decode prog_27_method_6_code 14 = .ok (.aload_n 1, 1) := by decide +kernel
theorem d1_15 : decode prog_27_method_6_code 15 = .ok (.iload_n 3, 1) := by decide +kernel
theorem d1_16 : decode prog_27_method_6_code 16 = .ok (.aaload, 1) := by decide +kernel
theorem d1_17 : decode prog_27_method_6_code 17 = .ok (.astore 4, 2) := by decide +kernel
theorem d1_19 : decode prog_27_method_6_code 19 = .ok (.aload 4, 2) := by decide +kernel
theorem d1_21 : decode prog_27_method_6_code 21 = .ok (.getfield 44, 3) := by decide +kernel
theorem d1_24 : decode prog_27_method_6_code 24 = .ok (.iload_n 0, 1) := by decide +kernel
theorem d1_25 : decode prog_27_method_6_code 25 = .ok (.if_icmp .ne 6, 3) := by decide +kernel
theorem d1_28 : decode prog_27_method_6_code 28 = .ok (.aload 4, 2) := by decide +kernel
theorem d1_30 : decode prog_27_method_6_code 30 = .ok (.areturn, 1) := by decide +kernel
theorem d1_31 : decode prog_27_method_6_code 31 = .ok (.iinc 3 1, 3) := by decide +kernel
theorem d1_34 : decode prog_27_method_6_code 34 = .ok (.goto (-25), 3) := by decide +kernel
theorem d1_37 : decode prog_27_method_6_code 37 = .ok (.aconst_null, 1) := by decide +kernel
theorem d1_38 : decode prog_27_method_6_code 38 = .ok (.areturn, 1) := by decide +kernel
theorem ef1 (m : MethodId) (pc0 : Int32) : entryFrame m #[(.int pc0)] 5 = mkF m 0 #[.val (.int pc0), .unset, .unset, .unset, .unset] [] := by first | (simp [entryFrame, mkF, argsToLocals, Value.category]; done) | rfl
def Q1 (Z : State) (pc0 : Int32) (av : Addr) (sa0 : Addr) (sa1 : Addr) (sa2 : Addr) (sa3 : Addr) (sa4 : Addr) (sa5 : Addr) (sa6 : Addr) (h0 : Heap) (n0 : Nat) (v : Option Value) (h : Heap) (L : List Loc) : Prop := v = some (own_of sa0 sa1 sa2 sa3 sa4 sa5 sa6 pc0) ∧ Fr n0 L ∧ Keep h0 h []
set_option maxRecDepth 65536 in
set_option maxHeartbeats 40000000 in
theorem rm1 (l : Launch) (Z : State) (a0 : Array Value) (hw : ∀ d ∈ tables_1, d.before a0 Z = true) (ws : List Jvm.Cond) (pc0 : Int32) (av : Addr) (sa0 : Addr) (sa1 : Addr) (sa2 : Addr) (sa3 : Addr) (sa4 : Addr) (sa5 : Addr) (sa6 : Addr) (h0 : Heap) (n0 : Nat) (Z0 : n0 ≤ h0.size) (O : Old Z n0 h0) (S_vals : Sta Z Z.heap "com/example/gongshu/gongshu/protocol/Status" "$VALUES" "[Lcom/example/gongshu/gongshu/protocol/Status;" (.ref av)) (A_av : Ar Z h0 av (.object "com/example/gongshu/gongshu/protocol/Status") 7 (own_sv sa0 sa1 sa2 sa3 sa4 sa5 sa6)) (E_av : Exa Z h0 av "[Lcom/example/gongshu/gongshu/protocol/Status;") (F_sa0_code : Fld Z h0 sa0 "com/example/gongshu/gongshu/protocol/Status" "code" "I" (.int (0 : Int32))) (F_sa1_code : Fld Z h0 sa1 "com/example/gongshu/gongshu/protocol/Status" "code" "I" (.int (1 : Int32))) (F_sa2_code : Fld Z h0 sa2 "com/example/gongshu/gongshu/protocol/Status" "code" "I" (.int (2 : Int32))) (F_sa3_code : Fld Z h0 sa3 "com/example/gongshu/gongshu/protocol/Status" "code" "I" (.int (3 : Int32))) (F_sa4_code : Fld Z h0 sa4 "com/example/gongshu/gongshu/protocol/Status" "code" "I" (.int (4 : Int32))) (F_sa5_code : Fld Z h0 sa5 "com/example/gongshu/gongshu/protocol/Status" "code" "I" (.int (5 : Int32))) (F_sa6_code : Fld Z h0 sa6 "com/example/gongshu/gongshu/protocol/Status" "code" "I" (.int (6 : Int32))) :
    MetFree l (⟨"com/example/gongshu/gongshu/protocol/Status", "of", "(I)Lcom/example/gongshu/gongshu/protocol/Status;"⟩ : MethodName) (head1 (Jvm.Cond.code (⟨"com/example/gongshu/gongshu/protocol/Status", "of", "(I)Lcom/example/gongshu/gongshu/protocol/Status;"⟩ : MethodName) prog_27_method_6_code 5 (some (.object "com/example/gongshu/gongshu/protocol/Status")) :: ws) ({ frames := 2, cells := 1, slots := 7, locals := 25 } : Room)) (fun a U => a = #[(.int pc0)] ∧ Z.Warmed39 U.vm ∧ U.heap = h0) (fun _ _ _ _ _ => True) (fun _ U o U' => ∃ v L, o = .returned v ∧ Q1 Z pc0 av sa0 sa1 sa2 sa3 sa4 sa5 sa6 h0 n0 v U'.heap L ∧ FrameEnd U o U' L ({ frames := 2, cells := 1, slots := 7, locals := 25 } : Room).cells ({ frames := 2, cells := 1, slots := 7, locals := 25 } : Room).slots) := by
  refine MetFree.of_bodySF (plainFor_of_name pn_0) hisR ?_
  intro p e s m args below meth c s₁ Bd hml0 hP hK
  obtain ⟨rfl, hZ, hh⟩ := hP
  have hx := Bd.exec
  have hby := Bd.bytes
  have hml : c.maxLocals = 5 := hml0
  have hown : s.vm.findClass "com/example/gongshu/gongshu/protocol/Status" = some m.cls := findClass_of_methodNamed Bd.named
  have hnm := (name_of_methodNamed Bd.named Bd.method).1
  have X0 : Stand p l e ({ frames := 2, cells := 1, slots := 7, locals := 25 } : Room) s m #[(.int pc0)] below meth c s₁ [] 0 0 := Stand.of_body Bd
  have e0 : s₁.heap = h0 := by rw [← hh, Bd.state]; rfl
  have N0 := Fr.nil n0
  refine Goes.by (fun _ k => castTop (ef1 m pc0) k) ?_
  show Goes p.tables e below (s₁.setTop (mkF m 0 #[.val (.int pc0), .unset, .unset, .unset, .unset] [])) _
  obtain ⟨_, _, ⟨T1, L1, k1, n1⟩, -, X1, ⟨Lc1, hQ1, l1, y1, z1⟩, st1⟩ := Jvm.LawKit.callS X0 hx (y := (⟨"com/example/gongshu/gongshu/protocol/Status", "values", "()[Lcom/example/gongshu/gongshu/protocol/Status;"⟩ : MethodName)) hown (mvT hZ (hw _ (List.mem_of_getElem? (i := 4) rfl))) (mvT hZ (hw _ (List.mem_of_getElem? (i := 5) rfl))) (mvT hZ (hw _ (List.mem_of_getElem? (i := 2) rfl))) (mvT hZ (hw _ (List.mem_of_getElem? (i := 6) rfl))) (by decide) (backOf (W := 0) (rm2 l Z a0 hw [] av sa0 sa1 sa2 sa3 sa4 sa5 sa6 h0 n0 Z0 O S_vals A_av E_av) hZ (hw _ (List.mem_of_getElem? (i := 6) rfl)) (hw _ (List.mem_of_getElem? (i := 2) rfl)) (by decide) (by decide)) (g := (mkF m 0 #[.val (.int pc0), .unset, .unset, .unset, .unset] [])) rfl (by rw [hml]; rfl) (argsL := []) (rest := []) (lenOf pd_0 rfl) rfl (by show 2 * 0 + _ ≤ _; exact Nat.le_of_eq rfl) (hb hby d1_0) (fun _ _ => ⟨rfl, e0, (by decide : 0 + 1 ≤ _), (by decide : 0 + 7 ≤ _)⟩)
  dsimp only [Pt.U, Pt.locs, Pt.cells, Pt.slots] at X1 l1 y1 z1 st1 hQ1
  subst l1 y1 z1
  obtain ⟨ob_1, rfl, N1q, Kq1, po1_0, po1_1⟩ := hQ1
  have N1 := Fr.app N0 N1q
  refine Goes.by st1 ?_
  have Zs1 : n0 ≤ T1.heap.size := Nat.le_trans Z0 Kq1.1
  have K1 : Keep h0 T1.heap [] := (Keep.refl h0 []).trans Kq1 all0
  have lt1_av := A_av.lt
  have lt1_sa0 := F_sa0_code.lt
  have lt1_sa1 := F_sa1_code.lt
  have lt1_sa2 := F_sa2_code.lt
  have lt1_sa3 := F_sa3_code.lt
  have lt1_sa4 := F_sa4_code.lt
  have lt1_sa5 := F_sa5_code.lt
  have lt1_sa6 := F_sa6_code.lt
  have sz_ob_1 : h0.size ≤ ob_1 := Nat.le_trans (Keep.refl h0 []).1 po1_1
  have g_ob_1 : n0 ≤ ob_1 := Nat.le_trans Z0 po1_1
  have ne_av_ob_1 : av ≠ ob_1 := Nat.ne_of_lt (Nat.lt_of_lt_of_le lt1_av po1_1)
  have ne_sa0_ob_1 : sa0 ≠ ob_1 := Nat.ne_of_lt (Nat.lt_of_lt_of_le lt1_sa0 po1_1)
  have ne_sa1_ob_1 : sa1 ≠ ob_1 := Nat.ne_of_lt (Nat.lt_of_lt_of_le lt1_sa1 po1_1)
  have ne_sa2_ob_1 : sa2 ≠ ob_1 := Nat.ne_of_lt (Nat.lt_of_lt_of_le lt1_sa2 po1_1)
  have ne_sa3_ob_1 : sa3 ≠ ob_1 := Nat.ne_of_lt (Nat.lt_of_lt_of_le lt1_sa3 po1_1)
  have ne_sa4_ob_1 : sa4 ≠ ob_1 := Nat.ne_of_lt (Nat.lt_of_lt_of_le lt1_sa4 po1_1)
  have ne_sa5_ob_1 : sa5 ≠ ob_1 := Nat.ne_of_lt (Nat.lt_of_lt_of_le lt1_sa5 po1_1)
  have ne_sa6_ob_1 : sa6 ≠ ob_1 := Nat.ne_of_lt (Nat.lt_of_lt_of_le lt1_sa6 po1_1)
  have O : Old Z n0 T1.heap := O.keep Kq1 all0
  have A_av : Ar Z T1.heap av (.object "com/example/gongshu/gongshu/protocol/Status") 7 (own_sv sa0 sa1 sa2 sa3 sa4 sa5 sa6) := A_av.keep Kq1 nin0
  have E_av : Exa Z T1.heap av "[Lcom/example/gongshu/gongshu/protocol/Status;" := E_av.keep Kq1
  have F_sa0_code : Fld Z T1.heap sa0 "com/example/gongshu/gongshu/protocol/Status" "code" "I" (.int (0 : Int32)) := F_sa0_code.keep Kq1 nin0
  have F_sa1_code : Fld Z T1.heap sa1 "com/example/gongshu/gongshu/protocol/Status" "code" "I" (.int (1 : Int32)) := F_sa1_code.keep Kq1 nin0
  have F_sa2_code : Fld Z T1.heap sa2 "com/example/gongshu/gongshu/protocol/Status" "code" "I" (.int (2 : Int32)) := F_sa2_code.keep Kq1 nin0
  have F_sa3_code : Fld Z T1.heap sa3 "com/example/gongshu/gongshu/protocol/Status" "code" "I" (.int (3 : Int32)) := F_sa3_code.keep Kq1 nin0
  have F_sa4_code : Fld Z T1.heap sa4 "com/example/gongshu/gongshu/protocol/Status" "code" "I" (.int (4 : Int32)) := F_sa4_code.keep Kq1 nin0
  have F_sa5_code : Fld Z T1.heap sa5 "com/example/gongshu/gongshu/protocol/Status" "code" "I" (.int (5 : Int32)) := F_sa5_code.keep Kq1 nin0
  have F_sa6_code : Fld Z T1.heap sa6 "com/example/gongshu/gongshu/protocol/Status" "code" "I" (.int (6 : Int32)) := F_sa6_code.keep Kq1 nin0
  have A_ob_1 : Ar Z T1.heap ob_1 (.object "com/example/gongshu/gongshu/protocol/Status") 7 (own_sv sa0 sa1 sa2 sa3 sa4 sa5 sa6) := po1_0
  show Goes p.tables e below (T1.setTop (mkF m 3 #[.val (.int pc0), .unset, .unset, .unset, .unset] [(.ref ob_1)])) _
  refine Goes.by (fun _ k => XS.astoreN X1.here hx rfl (hb hby d1_3) rfl rfl (l' := #[.val (.int pc0), .val (.ref ob_1), .unset, .unset, .unset]) rfl k) ?_
  show Goes p.tables e below (T1.setTop (mkF m 4 #[.val (.int pc0), .val (.ref ob_1), .unset, .unset, .unset] [])) _
  refine Goes.by (fun _ k => XS.aloadN X1.here hx rfl (hb hby d1_4) rfl rfl k) ?_
  show Goes p.tables e below (T1.setTop (mkF m 5 #[.val (.int pc0), .val (.ref ob_1), .unset, .unset, .unset] [(.ref ob_1)])) _
  refine Goes.by (fun _ k => alen (z := (7 : Int32)) (fr := (mkF m 5 #[.val (.int pc0), .val (.ref ob_1), .unset, .unset, .unset] [(.ref ob_1)])) X1 hx hZ rfl A_ob_1 (by decide) rfl rfl (hb hby d1_5) k) ?_
  show Goes p.tables e below (T1.setTop (mkF m 6 #[.val (.int pc0), .val (.ref ob_1), .unset, .unset, .unset] [(.int (7 : Int32))])) _
  refine Goes.by (fun _ k => XS.istoreN X1.here hx rfl (hb hby d1_6) rfl (l' := #[.val (.int pc0), .val (.ref ob_1), .val (.int (7 : Int32)), .unset, .unset]) rfl k) ?_
  show Goes p.tables e below (T1.setTop (mkF m 7 #[.val (.int pc0), .val (.ref ob_1), .val (.int (7 : Int32)), .unset, .unset] [])) _
  refine Goes.by (fun _ k => XS.iconst X1.here hx rfl (hb hby d1_7) k) ?_
  show Goes p.tables e below (T1.setTop (mkF m 8 #[.val (.int pc0), .val (.ref ob_1), .val (.int (7 : Int32)), .unset, .unset] [(.int (0 : Int32))])) _
  refine Goes.by (fun _ k => XS.istoreN X1.here hx rfl (hb hby d1_8) rfl (l' := #[.val (.int pc0), .val (.ref ob_1), .val (.int (7 : Int32)), .val (.int (0 : Int32)), .unset]) rfl k) ?_
  show Goes p.tables e below (T1.setTop (mkF m 9 #[.val (.int pc0), .val (.ref ob_1), .val (.int (7 : Int32)), .val (.int (0 : Int32)), .unset] [])) _
  refine Goes.by (fun _ k => XS.iloadN X1.here hx rfl (hb hby d1_9) rfl k) ?_
  show Goes p.tables e below (T1.setTop (mkF m 10 #[.val (.int pc0), .val (.ref ob_1), .val (.int (7 : Int32)), .val (.int (0 : Int32)), .unset] [(.int (0 : Int32))])) _
  refine Goes.by (fun _ k => XS.iloadN X1.here hx rfl (hb hby d1_10) rfl k) ?_
  show Goes p.tables e below (T1.setTop (mkF m 11 #[.val (.int pc0), .val (.ref ob_1), .val (.int (7 : Int32)), .val (.int (0 : Int32)), .unset] [(.int (7 : Int32)), (.int (0 : Int32))])) _
  refine Goes.by (fun _ k => XS.icmpNo X1.here hx rfl (hb hby d1_11) rfl (tlt (by decide : (0 : Int32) < (7 : Int32))).2.1 k) ?_
  show Goes p.tables e below (T1.setTop (mkF m 14 #[.val (.int pc0), .val (.ref ob_1), .val (.int (7 : Int32)), .val (.int (0 : Int32)), .unset] [])) _
  refine Goes.by (fun _ k => XS.aloadN X1.here hx rfl (hb hby d1_14) rfl rfl k) ?_
  show Goes p.tables e below (T1.setTop (mkF m 15 #[.val (.int pc0), .val (.ref ob_1), .val (.int (7 : Int32)), .val (.int (0 : Int32)), .unset] [(.ref ob_1)])) _
  refine Goes.by (fun _ k => XS.iloadN X1.here hx rfl (hb hby d1_15) rfl k) ?_
  show Goes p.tables e below (T1.setTop (mkF m 16 #[.val (.int pc0), .val (.ref ob_1), .val (.int (7 : Int32)), .val (.int (0 : Int32)), .unset] [(.int (0 : Int32)), (.ref ob_1)])) _
  refine Goes.by (fun _ k => ldR (v := (.ref sa0)) (fr := (mkF m 16 #[.val (.int pc0), .val (.ref ob_1), .val (.int (7 : Int32)), .val (.int (0 : Int32)), .unset] [(.int (0 : Int32)), (.ref ob_1)])) X1 hx hZ rfl A_ob_1 rfl (i := 0) (by decide) (by decide) rfl rfl rfl (hb hby d1_16) k) ?_
  show Goes p.tables e below (T1.setTop (mkF m 17 #[.val (.int pc0), .val (.ref ob_1), .val (.int (7 : Int32)), .val (.int (0 : Int32)), .unset] [(.ref sa0)])) _
  refine Goes.by (fun _ k => XS.astore X1.here hx rfl (hb hby d1_17) rfl rfl (l' := #[.val (.int pc0), .val (.ref ob_1), .val (.int (7 : Int32)), .val (.int (0 : Int32)), .val (.ref sa0)]) rfl k) ?_
  show Goes p.tables e below (T1.setTop (mkF m 19 #[.val (.int pc0), .val (.ref ob_1), .val (.int (7 : Int32)), .val (.int (0 : Int32)), .val (.ref sa0)] [])) _
  refine Goes.by (fun _ k => XS.aload X1.here hx rfl (hb hby d1_19) rfl rfl k) ?_
  show Goes p.tables e below (T1.setTop (mkF m 21 #[.val (.int pc0), .val (.ref ob_1), .val (.int (7 : Int32)), .val (.int (0 : Int32)), .val (.ref sa0)] [(.ref sa0)])) _
  obtain ⟨T2, X2, e2, st2⟩ := getF X1 hx hZ hown (host := "") (Or.inl (hw _ (List.mem_of_getElem? (i := 26) rfl))) Via.refl rfl F_sa0_code (g := (mkF m 21 #[.val (.int pc0), .val (.ref ob_1), .val (.int (7 : Int32)), .val (.int (0 : Int32)), .val (.ref sa0)] [(.ref sa0)])) rfl rfl (hb hby d1_21)
  refine Goes.by st2 ?_
  show Goes p.tables e below (T2.setTop (mkF m 24 #[.val (.int pc0), .val (.ref ob_1), .val (.int (7 : Int32)), .val (.int (0 : Int32)), .val (.ref sa0)] [(.int (0 : Int32))])) _
  refine Goes.by (fun _ k => XS.iloadN X2.here hx rfl (hb hby d1_24) rfl k) ?_
  show Goes p.tables e below (T2.setTop (mkF m 25 #[.val (.int pc0), .val (.ref ob_1), .val (.int (7 : Int32)), .val (.int (0 : Int32)), .val (.ref sa0)] [(.int pc0), (.int (0 : Int32))])) _
  by_cases hc3 : (0 : Int32) = pc0
  · refine Goes.by (fun _ k => XS.icmpNo X2.here hx rfl (hb hby d1_25) rfl (teq hc3).2 k) ?_
    show Goes p.tables e below (T2.setTop (mkF m 28 #[.val (.int pc0), .val (.ref ob_1), .val (.int (7 : Int32)), .val (.int (0 : Int32)), .val (.ref sa0)] [])) _
    refine Goes.by (fun _ k => XS.aload X2.here hx rfl (hb hby d1_28) rfl rfl k) ?_
    show Goes p.tables e below (T2.setTop (mkF m 30 #[.val (.int pc0), .val (.ref ob_1), .val (.int (7 : Int32)), .val (.int (0 : Int32)), .val (.ref sa0)] [(.ref sa0)])) _
    obtain ⟨fs, hr, hrun, hended, hW, hsame⟩ := X2.leave (v := some (.ref sa0)) (fun h => by rw [Bd.returns] at h; cases h)
    refine ⟨_, _, retOut X2 hx Bd.returns (i := .areturn) (narR rfl) (Or.inr (Or.inr (Or.inr (Or.inr ⟨rfl, rfl, rfl⟩)))) (hb hby d1_30) hr, hrun, hended, _, _, rfl, ?_, ⟨_, rfl⟩, hW, hsame.mono (by decide) (by decide)⟩
    show Q1 Z pc0 av sa0 sa1 sa2 sa3 sa4 sa5 sa6 h0 n0 _ T2.heap _
    rw [e2]
    exact ⟨(by rw [own_of, if_pos hc3]), N1, K1⟩
  · refine Goes.by (fun _ k => XS.icmpYes X2.here hx rfl (pc0 := 25) (pc' := 31) rfl (hb hby d1_25) rfl (feq hc3).2 (by decide) (by decide) k) ?_
    show Goes p.tables e below (T2.setTop (mkF m 31 #[.val (.int pc0), .val (.ref ob_1), .val (.int (7 : Int32)), .val (.int (0 : Int32)), .val (.ref sa0)] [])) _
    refine Goes.by (fun _ k => XS.iinc X2.here hx rfl (hb hby d1_31) rfl (l' := #[.val (.int pc0), .val (.ref ob_1), .val (.int (7 : Int32)), .val (.int (1 : Int32)), .val (.ref sa0)]) rfl k) ?_
    show Goes p.tables e below (T2.setTop (mkF m 34 #[.val (.int pc0), .val (.ref ob_1), .val (.int (7 : Int32)), .val (.int (1 : Int32)), .val (.ref sa0)] [])) _
    refine Goes.by (fun _ k => XS.goto X2.here hx rfl (pc0 := 34) (pc' := 9) rfl (hb hby d1_34) (by decide) (by decide) k) ?_
    show Goes p.tables e below (T2.setTop (mkF m 9 #[.val (.int pc0), .val (.ref ob_1), .val (.int (7 : Int32)), .val (.int (1 : Int32)), .val (.ref sa0)] [])) _
    refine Goes.by (fun _ k => XS.iloadN X2.here hx rfl (hb hby d1_9) rfl k) ?_
    show Goes p.tables e below (T2.setTop (mkF m 10 #[.val (.int pc0), .val (.ref ob_1), .val (.int (7 : Int32)), .val (.int (1 : Int32)), .val (.ref sa0)] [(.int (1 : Int32))])) _
    refine Goes.by (fun _ k => XS.iloadN X2.here hx rfl (hb hby d1_10) rfl k) ?_
    show Goes p.tables e below (T2.setTop (mkF m 11 #[.val (.int pc0), .val (.ref ob_1), .val (.int (7 : Int32)), .val (.int (1 : Int32)), .val (.ref sa0)] [(.int (7 : Int32)), (.int (1 : Int32))])) _
    refine Goes.by (fun _ k => XS.icmpNo X2.here hx rfl (hb hby d1_11) rfl (tlt (by decide : (1 : Int32) < (7 : Int32))).2.1 k) ?_
    show Goes p.tables e below (T2.setTop (mkF m 14 #[.val (.int pc0), .val (.ref ob_1), .val (.int (7 : Int32)), .val (.int (1 : Int32)), .val (.ref sa0)] [])) _
    refine Goes.by (fun _ k => XS.aloadN X2.here hx rfl (hb hby d1_14) rfl rfl k) ?_
    show Goes p.tables e below (T2.setTop (mkF m 15 #[.val (.int pc0), .val (.ref ob_1), .val (.int (7 : Int32)), .val (.int (1 : Int32)), .val (.ref sa0)] [(.ref ob_1)])) _
    refine Goes.by (fun _ k => XS.iloadN X2.here hx rfl (hb hby d1_15) rfl k) ?_
    show Goes p.tables e below (T2.setTop (mkF m 16 #[.val (.int pc0), .val (.ref ob_1), .val (.int (7 : Int32)), .val (.int (1 : Int32)), .val (.ref sa0)] [(.int (1 : Int32)), (.ref ob_1)])) _
    refine Goes.by (fun _ k => ldR (v := (.ref sa1)) (fr := (mkF m 16 #[.val (.int pc0), .val (.ref ob_1), .val (.int (7 : Int32)), .val (.int (1 : Int32)), .val (.ref sa0)] [(.int (1 : Int32)), (.ref ob_1)])) X2 hx hZ e2 A_ob_1 rfl (i := 1) (by decide) (by decide) rfl rfl rfl (hb hby d1_16) k) ?_
    show Goes p.tables e below (T2.setTop (mkF m 17 #[.val (.int pc0), .val (.ref ob_1), .val (.int (7 : Int32)), .val (.int (1 : Int32)), .val (.ref sa0)] [(.ref sa1)])) _
    refine Goes.by (fun _ k => XS.astore X2.here hx rfl (hb hby d1_17) rfl rfl (l' := #[.val (.int pc0), .val (.ref ob_1), .val (.int (7 : Int32)), .val (.int (1 : Int32)), .val (.ref sa1)]) rfl k) ?_
    show Goes p.tables e below (T2.setTop (mkF m 19 #[.val (.int pc0), .val (.ref ob_1), .val (.int (7 : Int32)), .val (.int (1 : Int32)), .val (.ref sa1)] [])) _
    refine Goes.by (fun _ k => XS.aload X2.here hx rfl (hb hby d1_19) rfl rfl k) ?_
    show Goes p.tables e below (T2.setTop (mkF m 21 #[.val (.int pc0), .val (.ref ob_1), .val (.int (7 : Int32)), .val (.int (1 : Int32)), .val (.ref sa1)] [(.ref sa1)])) _
    obtain ⟨T4, X4, e4, st4⟩ := getF X2 hx hZ hown (host := "") (Or.inl (hw _ (List.mem_of_getElem? (i := 26) rfl))) Via.refl e2 F_sa1_code (g := (mkF m 21 #[.val (.int pc0), .val (.ref ob_1), .val (.int (7 : Int32)), .val (.int (1 : Int32)), .val (.ref sa1)] [(.ref sa1)])) rfl rfl (hb hby d1_21)
    refine Goes.by st4 ?_
    show Goes p.tables e below (T4.setTop (mkF m 24 #[.val (.int pc0), .val (.ref ob_1), .val (.int (7 : Int32)), .val (.int (1 : Int32)), .val (.ref sa1)] [(.int (1 : Int32))])) _
    refine Goes.by (fun _ k => XS.iloadN X4.here hx rfl (hb hby d1_24) rfl k) ?_
    show Goes p.tables e below (T4.setTop (mkF m 25 #[.val (.int pc0), .val (.ref ob_1), .val (.int (7 : Int32)), .val (.int (1 : Int32)), .val (.ref sa1)] [(.int pc0), (.int (1 : Int32))])) _
    by_cases hc5 : (1 : Int32) = pc0
    · refine Goes.by (fun _ k => XS.icmpNo X4.here hx rfl (hb hby d1_25) rfl (teq hc5).2 k) ?_
      show Goes p.tables e below (T4.setTop (mkF m 28 #[.val (.int pc0), .val (.ref ob_1), .val (.int (7 : Int32)), .val (.int (1 : Int32)), .val (.ref sa1)] [])) _
      refine Goes.by (fun _ k => XS.aload X4.here hx rfl (hb hby d1_28) rfl rfl k) ?_
      show Goes p.tables e below (T4.setTop (mkF m 30 #[.val (.int pc0), .val (.ref ob_1), .val (.int (7 : Int32)), .val (.int (1 : Int32)), .val (.ref sa1)] [(.ref sa1)])) _
      obtain ⟨fs, hr, hrun, hended, hW, hsame⟩ := X4.leave (v := some (.ref sa1)) (fun h => by rw [Bd.returns] at h; cases h)
      refine ⟨_, _, retOut X4 hx Bd.returns (i := .areturn) (narR rfl) (Or.inr (Or.inr (Or.inr (Or.inr ⟨rfl, rfl, rfl⟩)))) (hb hby d1_30) hr, hrun, hended, _, _, rfl, ?_, ⟨_, rfl⟩, hW, hsame.mono (by decide) (by decide)⟩
      show Q1 Z pc0 av sa0 sa1 sa2 sa3 sa4 sa5 sa6 h0 n0 _ T4.heap _
      rw [e4]
      exact ⟨(by rw [own_of, if_neg hc3, if_pos hc5]), N1, K1⟩
    · refine Goes.by (fun _ k => XS.icmpYes X4.here hx rfl (pc0 := 25) (pc' := 31) rfl (hb hby d1_25) rfl (feq hc5).2 (by decide) (by decide) k) ?_
      show Goes p.tables e below (T4.setTop (mkF m 31 #[.val (.int pc0), .val (.ref ob_1), .val (.int (7 : Int32)), .val (.int (1 : Int32)), .val (.ref sa1)] [])) _
      refine Goes.by (fun _ k => XS.iinc X4.here hx rfl (hb hby d1_31) rfl (l' := #[.val (.int pc0), .val (.ref ob_1), .val (.int (7 : Int32)), .val (.int (2 : Int32)), .val (.ref sa1)]) rfl k) ?_
      show Goes p.tables e below (T4.setTop (mkF m 34 #[.val (.int pc0), .val (.ref ob_1), .val (.int (7 : Int32)), .val (.int (2 : Int32)), .val (.ref sa1)] [])) _
      refine Goes.by (fun _ k => XS.goto X4.here hx rfl (pc0 := 34) (pc' := 9) rfl (hb hby d1_34) (by decide) (by decide) k) ?_
      show Goes p.tables e below (T4.setTop (mkF m 9 #[.val (.int pc0), .val (.ref ob_1), .val (.int (7 : Int32)), .val (.int (2 : Int32)), .val (.ref sa1)] [])) _
      refine Goes.by (fun _ k => XS.iloadN X4.here hx rfl (hb hby d1_9) rfl k) ?_
      show Goes p.tables e below (T4.setTop (mkF m 10 #[.val (.int pc0), .val (.ref ob_1), .val (.int (7 : Int32)), .val (.int (2 : Int32)), .val (.ref sa1)] [(.int (2 : Int32))])) _
      refine Goes.by (fun _ k => XS.iloadN X4.here hx rfl (hb hby d1_10) rfl k) ?_
      show Goes p.tables e below (T4.setTop (mkF m 11 #[.val (.int pc0), .val (.ref ob_1), .val (.int (7 : Int32)), .val (.int (2 : Int32)), .val (.ref sa1)] [(.int (7 : Int32)), (.int (2 : Int32))])) _
      refine Goes.by (fun _ k => XS.icmpNo X4.here hx rfl (hb hby d1_11) rfl (tlt (by decide : (2 : Int32) < (7 : Int32))).2.1 k) ?_
      show Goes p.tables e below (T4.setTop (mkF m 14 #[.val (.int pc0), .val (.ref ob_1), .val (.int (7 : Int32)), .val (.int (2 : Int32)), .val (.ref sa1)] [])) _
      refine Goes.by (fun _ k => XS.aloadN X4.here hx rfl (hb hby d1_14) rfl rfl k) ?_
      show Goes p.tables e below (T4.setTop (mkF m 15 #[.val (.int pc0), .val (.ref ob_1), .val (.int (7 : Int32)), .val (.int (2 : Int32)), .val (.ref sa1)] [(.ref ob_1)])) _
      refine Goes.by (fun _ k => XS.iloadN X4.here hx rfl (hb hby d1_15) rfl k) ?_
      show Goes p.tables e below (T4.setTop (mkF m 16 #[.val (.int pc0), .val (.ref ob_1), .val (.int (7 : Int32)), .val (.int (2 : Int32)), .val (.ref sa1)] [(.int (2 : Int32)), (.ref ob_1)])) _
      refine Goes.by (fun _ k => ldR (v := (.ref sa2)) (fr := (mkF m 16 #[.val (.int pc0), .val (.ref ob_1), .val (.int (7 : Int32)), .val (.int (2 : Int32)), .val (.ref sa1)] [(.int (2 : Int32)), (.ref ob_1)])) X4 hx hZ e4 A_ob_1 rfl (i := 2) (by decide) (by decide) rfl rfl rfl (hb hby d1_16) k) ?_
      show Goes p.tables e below (T4.setTop (mkF m 17 #[.val (.int pc0), .val (.ref ob_1), .val (.int (7 : Int32)), .val (.int (2 : Int32)), .val (.ref sa1)] [(.ref sa2)])) _
      refine Goes.by (fun _ k => XS.astore X4.here hx rfl (hb hby d1_17) rfl rfl (l' := #[.val (.int pc0), .val (.ref ob_1), .val (.int (7 : Int32)), .val (.int (2 : Int32)), .val (.ref sa2)]) rfl k) ?_
      show Goes p.tables e below (T4.setTop (mkF m 19 #[.val (.int pc0), .val (.ref ob_1), .val (.int (7 : Int32)), .val (.int (2 : Int32)), .val (.ref sa2)] [])) _
      refine Goes.by (fun _ k => XS.aload X4.here hx rfl (hb hby d1_19) rfl rfl k) ?_
      show Goes p.tables e below (T4.setTop (mkF m 21 #[.val (.int pc0), .val (.ref ob_1), .val (.int (7 : Int32)), .val (.int (2 : Int32)), .val (.ref sa2)] [(.ref sa2)])) _
      obtain ⟨T6, X6, e6, st6⟩ := getF X4 hx hZ hown (host := "") (Or.inl (hw _ (List.mem_of_getElem? (i := 26) rfl))) Via.refl e4 F_sa2_code (g := (mkF m 21 #[.val (.int pc0), .val (.ref ob_1), .val (.int (7 : Int32)), .val (.int (2 : Int32)), .val (.ref sa2)] [(.ref sa2)])) rfl rfl (hb hby d1_21)
      refine Goes.by st6 ?_
      show Goes p.tables e below (T6.setTop (mkF m 24 #[.val (.int pc0), .val (.ref ob_1), .val (.int (7 : Int32)), .val (.int (2 : Int32)), .val (.ref sa2)] [(.int (2 : Int32))])) _
      refine Goes.by (fun _ k => XS.iloadN X6.here hx rfl (hb hby d1_24) rfl k) ?_
      show Goes p.tables e below (T6.setTop (mkF m 25 #[.val (.int pc0), .val (.ref ob_1), .val (.int (7 : Int32)), .val (.int (2 : Int32)), .val (.ref sa2)] [(.int pc0), (.int (2 : Int32))])) _
      by_cases hc7 : (2 : Int32) = pc0
      · refine Goes.by (fun _ k => XS.icmpNo X6.here hx rfl (hb hby d1_25) rfl (teq hc7).2 k) ?_
        show Goes p.tables e below (T6.setTop (mkF m 28 #[.val (.int pc0), .val (.ref ob_1), .val (.int (7 : Int32)), .val (.int (2 : Int32)), .val (.ref sa2)] [])) _
        refine Goes.by (fun _ k => XS.aload X6.here hx rfl (hb hby d1_28) rfl rfl k) ?_
        show Goes p.tables e below (T6.setTop (mkF m 30 #[.val (.int pc0), .val (.ref ob_1), .val (.int (7 : Int32)), .val (.int (2 : Int32)), .val (.ref sa2)] [(.ref sa2)])) _
        obtain ⟨fs, hr, hrun, hended, hW, hsame⟩ := X6.leave (v := some (.ref sa2)) (fun h => by rw [Bd.returns] at h; cases h)
        refine ⟨_, _, retOut X6 hx Bd.returns (i := .areturn) (narR rfl) (Or.inr (Or.inr (Or.inr (Or.inr ⟨rfl, rfl, rfl⟩)))) (hb hby d1_30) hr, hrun, hended, _, _, rfl, ?_, ⟨_, rfl⟩, hW, hsame.mono (by decide) (by decide)⟩
        show Q1 Z pc0 av sa0 sa1 sa2 sa3 sa4 sa5 sa6 h0 n0 _ T6.heap _
        rw [e6]
        exact ⟨(by rw [own_of, if_neg hc3, if_neg hc5, if_pos hc7]), N1, K1⟩
      · refine Goes.by (fun _ k => XS.icmpYes X6.here hx rfl (pc0 := 25) (pc' := 31) rfl (hb hby d1_25) rfl (feq hc7).2 (by decide) (by decide) k) ?_
        show Goes p.tables e below (T6.setTop (mkF m 31 #[.val (.int pc0), .val (.ref ob_1), .val (.int (7 : Int32)), .val (.int (2 : Int32)), .val (.ref sa2)] [])) _
        refine Goes.by (fun _ k => XS.iinc X6.here hx rfl (hb hby d1_31) rfl (l' := #[.val (.int pc0), .val (.ref ob_1), .val (.int (7 : Int32)), .val (.int (3 : Int32)), .val (.ref sa2)]) rfl k) ?_
        show Goes p.tables e below (T6.setTop (mkF m 34 #[.val (.int pc0), .val (.ref ob_1), .val (.int (7 : Int32)), .val (.int (3 : Int32)), .val (.ref sa2)] [])) _
        refine Goes.by (fun _ k => XS.goto X6.here hx rfl (pc0 := 34) (pc' := 9) rfl (hb hby d1_34) (by decide) (by decide) k) ?_
        show Goes p.tables e below (T6.setTop (mkF m 9 #[.val (.int pc0), .val (.ref ob_1), .val (.int (7 : Int32)), .val (.int (3 : Int32)), .val (.ref sa2)] [])) _
        refine Goes.by (fun _ k => XS.iloadN X6.here hx rfl (hb hby d1_9) rfl k) ?_
        show Goes p.tables e below (T6.setTop (mkF m 10 #[.val (.int pc0), .val (.ref ob_1), .val (.int (7 : Int32)), .val (.int (3 : Int32)), .val (.ref sa2)] [(.int (3 : Int32))])) _
        refine Goes.by (fun _ k => XS.iloadN X6.here hx rfl (hb hby d1_10) rfl k) ?_
        show Goes p.tables e below (T6.setTop (mkF m 11 #[.val (.int pc0), .val (.ref ob_1), .val (.int (7 : Int32)), .val (.int (3 : Int32)), .val (.ref sa2)] [(.int (7 : Int32)), (.int (3 : Int32))])) _
        refine Goes.by (fun _ k => XS.icmpNo X6.here hx rfl (hb hby d1_11) rfl (tlt (by decide : (3 : Int32) < (7 : Int32))).2.1 k) ?_
        show Goes p.tables e below (T6.setTop (mkF m 14 #[.val (.int pc0), .val (.ref ob_1), .val (.int (7 : Int32)), .val (.int (3 : Int32)), .val (.ref sa2)] [])) _
        refine Goes.by (fun _ k => XS.aloadN X6.here hx rfl (hb hby d1_14) rfl rfl k) ?_
        show Goes p.tables e below (T6.setTop (mkF m 15 #[.val (.int pc0), .val (.ref ob_1), .val (.int (7 : Int32)), .val (.int (3 : Int32)), .val (.ref sa2)] [(.ref ob_1)])) _
        refine Goes.by (fun _ k => XS.iloadN X6.here hx rfl (hb hby d1_15) rfl k) ?_
        show Goes p.tables e below (T6.setTop (mkF m 16 #[.val (.int pc0), .val (.ref ob_1), .val (.int (7 : Int32)), .val (.int (3 : Int32)), .val (.ref sa2)] [(.int (3 : Int32)), (.ref ob_1)])) _
        refine Goes.by (fun _ k => ldR (v := (.ref sa3)) (fr := (mkF m 16 #[.val (.int pc0), .val (.ref ob_1), .val (.int (7 : Int32)), .val (.int (3 : Int32)), .val (.ref sa2)] [(.int (3 : Int32)), (.ref ob_1)])) X6 hx hZ e6 A_ob_1 rfl (i := 3) (by decide) (by decide) rfl rfl rfl (hb hby d1_16) k) ?_
        show Goes p.tables e below (T6.setTop (mkF m 17 #[.val (.int pc0), .val (.ref ob_1), .val (.int (7 : Int32)), .val (.int (3 : Int32)), .val (.ref sa2)] [(.ref sa3)])) _
        refine Goes.by (fun _ k => XS.astore X6.here hx rfl (hb hby d1_17) rfl rfl (l' := #[.val (.int pc0), .val (.ref ob_1), .val (.int (7 : Int32)), .val (.int (3 : Int32)), .val (.ref sa3)]) rfl k) ?_
        show Goes p.tables e below (T6.setTop (mkF m 19 #[.val (.int pc0), .val (.ref ob_1), .val (.int (7 : Int32)), .val (.int (3 : Int32)), .val (.ref sa3)] [])) _
        refine Goes.by (fun _ k => XS.aload X6.here hx rfl (hb hby d1_19) rfl rfl k) ?_
        show Goes p.tables e below (T6.setTop (mkF m 21 #[.val (.int pc0), .val (.ref ob_1), .val (.int (7 : Int32)), .val (.int (3 : Int32)), .val (.ref sa3)] [(.ref sa3)])) _
        obtain ⟨T8, X8, e8, st8⟩ := getF X6 hx hZ hown (host := "") (Or.inl (hw _ (List.mem_of_getElem? (i := 26) rfl))) Via.refl e6 F_sa3_code (g := (mkF m 21 #[.val (.int pc0), .val (.ref ob_1), .val (.int (7 : Int32)), .val (.int (3 : Int32)), .val (.ref sa3)] [(.ref sa3)])) rfl rfl (hb hby d1_21)
        refine Goes.by st8 ?_
        show Goes p.tables e below (T8.setTop (mkF m 24 #[.val (.int pc0), .val (.ref ob_1), .val (.int (7 : Int32)), .val (.int (3 : Int32)), .val (.ref sa3)] [(.int (3 : Int32))])) _
        refine Goes.by (fun _ k => XS.iloadN X8.here hx rfl (hb hby d1_24) rfl k) ?_
        show Goes p.tables e below (T8.setTop (mkF m 25 #[.val (.int pc0), .val (.ref ob_1), .val (.int (7 : Int32)), .val (.int (3 : Int32)), .val (.ref sa3)] [(.int pc0), (.int (3 : Int32))])) _
        by_cases hc9 : (3 : Int32) = pc0
        · refine Goes.by (fun _ k => XS.icmpNo X8.here hx rfl (hb hby d1_25) rfl (teq hc9).2 k) ?_
          show Goes p.tables e below (T8.setTop (mkF m 28 #[.val (.int pc0), .val (.ref ob_1), .val (.int (7 : Int32)), .val (.int (3 : Int32)), .val (.ref sa3)] [])) _
          refine Goes.by (fun _ k => XS.aload X8.here hx rfl (hb hby d1_28) rfl rfl k) ?_
          show Goes p.tables e below (T8.setTop (mkF m 30 #[.val (.int pc0), .val (.ref ob_1), .val (.int (7 : Int32)), .val (.int (3 : Int32)), .val (.ref sa3)] [(.ref sa3)])) _
          obtain ⟨fs, hr, hrun, hended, hW, hsame⟩ := X8.leave (v := some (.ref sa3)) (fun h => by rw [Bd.returns] at h; cases h)
          refine ⟨_, _, retOut X8 hx Bd.returns (i := .areturn) (narR rfl) (Or.inr (Or.inr (Or.inr (Or.inr ⟨rfl, rfl, rfl⟩)))) (hb hby d1_30) hr, hrun, hended, _, _, rfl, ?_, ⟨_, rfl⟩, hW, hsame.mono (by decide) (by decide)⟩
          show Q1 Z pc0 av sa0 sa1 sa2 sa3 sa4 sa5 sa6 h0 n0 _ T8.heap _
          rw [e8]
          exact ⟨(by rw [own_of, if_neg hc3, if_neg hc5, if_neg hc7, if_pos hc9]), N1, K1⟩
        · refine Goes.by (fun _ k => XS.icmpYes X8.here hx rfl (pc0 := 25) (pc' := 31) rfl (hb hby d1_25) rfl (feq hc9).2 (by decide) (by decide) k) ?_
          show Goes p.tables e below (T8.setTop (mkF m 31 #[.val (.int pc0), .val (.ref ob_1), .val (.int (7 : Int32)), .val (.int (3 : Int32)), .val (.ref sa3)] [])) _
          refine Goes.by (fun _ k => XS.iinc X8.here hx rfl (hb hby d1_31) rfl (l' := #[.val (.int pc0), .val (.ref ob_1), .val (.int (7 : Int32)), .val (.int (4 : Int32)), .val (.ref sa3)]) rfl k) ?_
          show Goes p.tables e below (T8.setTop (mkF m 34 #[.val (.int pc0), .val (.ref ob_1), .val (.int (7 : Int32)), .val (.int (4 : Int32)), .val (.ref sa3)] [])) _
          refine Goes.by (fun _ k => XS.goto X8.here hx rfl (pc0 := 34) (pc' := 9) rfl (hb hby d1_34) (by decide) (by decide) k) ?_
          show Goes p.tables e below (T8.setTop (mkF m 9 #[.val (.int pc0), .val (.ref ob_1), .val (.int (7 : Int32)), .val (.int (4 : Int32)), .val (.ref sa3)] [])) _
          refine Goes.by (fun _ k => XS.iloadN X8.here hx rfl (hb hby d1_9) rfl k) ?_
          show Goes p.tables e below (T8.setTop (mkF m 10 #[.val (.int pc0), .val (.ref ob_1), .val (.int (7 : Int32)), .val (.int (4 : Int32)), .val (.ref sa3)] [(.int (4 : Int32))])) _
          refine Goes.by (fun _ k => XS.iloadN X8.here hx rfl (hb hby d1_10) rfl k) ?_
          show Goes p.tables e below (T8.setTop (mkF m 11 #[.val (.int pc0), .val (.ref ob_1), .val (.int (7 : Int32)), .val (.int (4 : Int32)), .val (.ref sa3)] [(.int (7 : Int32)), (.int (4 : Int32))])) _
          refine Goes.by (fun _ k => XS.icmpNo X8.here hx rfl (hb hby d1_11) rfl (tlt (by decide : (4 : Int32) < (7 : Int32))).2.1 k) ?_
          show Goes p.tables e below (T8.setTop (mkF m 14 #[.val (.int pc0), .val (.ref ob_1), .val (.int (7 : Int32)), .val (.int (4 : Int32)), .val (.ref sa3)] [])) _
          refine Goes.by (fun _ k => XS.aloadN X8.here hx rfl (hb hby d1_14) rfl rfl k) ?_
          show Goes p.tables e below (T8.setTop (mkF m 15 #[.val (.int pc0), .val (.ref ob_1), .val (.int (7 : Int32)), .val (.int (4 : Int32)), .val (.ref sa3)] [(.ref ob_1)])) _
          refine Goes.by (fun _ k => XS.iloadN X8.here hx rfl (hb hby d1_15) rfl k) ?_
          show Goes p.tables e below (T8.setTop (mkF m 16 #[.val (.int pc0), .val (.ref ob_1), .val (.int (7 : Int32)), .val (.int (4 : Int32)), .val (.ref sa3)] [(.int (4 : Int32)), (.ref ob_1)])) _
          refine Goes.by (fun _ k => ldR (v := (.ref sa4)) (fr := (mkF m 16 #[.val (.int pc0), .val (.ref ob_1), .val (.int (7 : Int32)), .val (.int (4 : Int32)), .val (.ref sa3)] [(.int (4 : Int32)), (.ref ob_1)])) X8 hx hZ e8 A_ob_1 rfl (i := 4) (by decide) (by decide) rfl rfl rfl (hb hby d1_16) k) ?_
          show Goes p.tables e below (T8.setTop (mkF m 17 #[.val (.int pc0), .val (.ref ob_1), .val (.int (7 : Int32)), .val (.int (4 : Int32)), .val (.ref sa3)] [(.ref sa4)])) _
          refine Goes.by (fun _ k => XS.astore X8.here hx rfl (hb hby d1_17) rfl rfl (l' := #[.val (.int pc0), .val (.ref ob_1), .val (.int (7 : Int32)), .val (.int (4 : Int32)), .val (.ref sa4)]) rfl k) ?_
          show Goes p.tables e below (T8.setTop (mkF m 19 #[.val (.int pc0), .val (.ref ob_1), .val (.int (7 : Int32)), .val (.int (4 : Int32)), .val (.ref sa4)] [])) _
          refine Goes.by (fun _ k => XS.aload X8.here hx rfl (hb hby d1_19) rfl rfl k) ?_
          show Goes p.tables e below (T8.setTop (mkF m 21 #[.val (.int pc0), .val (.ref ob_1), .val (.int (7 : Int32)), .val (.int (4 : Int32)), .val (.ref sa4)] [(.ref sa4)])) _
          obtain ⟨T10, X10, e10, st10⟩ := getF X8 hx hZ hown (host := "") (Or.inl (hw _ (List.mem_of_getElem? (i := 26) rfl))) Via.refl e8 F_sa4_code (g := (mkF m 21 #[.val (.int pc0), .val (.ref ob_1), .val (.int (7 : Int32)), .val (.int (4 : Int32)), .val (.ref sa4)] [(.ref sa4)])) rfl rfl (hb hby d1_21)
          refine Goes.by st10 ?_
          show Goes p.tables e below (T10.setTop (mkF m 24 #[.val (.int pc0), .val (.ref ob_1), .val (.int (7 : Int32)), .val (.int (4 : Int32)), .val (.ref sa4)] [(.int (4 : Int32))])) _
          refine Goes.by (fun _ k => XS.iloadN X10.here hx rfl (hb hby d1_24) rfl k) ?_
          show Goes p.tables e below (T10.setTop (mkF m 25 #[.val (.int pc0), .val (.ref ob_1), .val (.int (7 : Int32)), .val (.int (4 : Int32)), .val (.ref sa4)] [(.int pc0), (.int (4 : Int32))])) _
          by_cases hc11 : (4 : Int32) = pc0
          · refine Goes.by (fun _ k => XS.icmpNo X10.here hx rfl (hb hby d1_25) rfl (teq hc11).2 k) ?_
            show Goes p.tables e below (T10.setTop (mkF m 28 #[.val (.int pc0), .val (.ref ob_1), .val (.int (7 : Int32)), .val (.int (4 : Int32)), .val (.ref sa4)] [])) _
            refine Goes.by (fun _ k => XS.aload X10.here hx rfl (hb hby d1_28) rfl rfl k) ?_
            show Goes p.tables e below (T10.setTop (mkF m 30 #[.val (.int pc0), .val (.ref ob_1), .val (.int (7 : Int32)), .val (.int (4 : Int32)), .val (.ref sa4)] [(.ref sa4)])) _
            obtain ⟨fs, hr, hrun, hended, hW, hsame⟩ := X10.leave (v := some (.ref sa4)) (fun h => by rw [Bd.returns] at h; cases h)
            refine ⟨_, _, retOut X10 hx Bd.returns (i := .areturn) (narR rfl) (Or.inr (Or.inr (Or.inr (Or.inr ⟨rfl, rfl, rfl⟩)))) (hb hby d1_30) hr, hrun, hended, _, _, rfl, ?_, ⟨_, rfl⟩, hW, hsame.mono (by decide) (by decide)⟩
            show Q1 Z pc0 av sa0 sa1 sa2 sa3 sa4 sa5 sa6 h0 n0 _ T10.heap _
            rw [e10]
            exact ⟨(by rw [own_of, if_neg hc3, if_neg hc5, if_neg hc7, if_neg hc9, if_pos hc11]), N1, K1⟩
          · refine Goes.by (fun _ k => XS.icmpYes X10.here hx rfl (pc0 := 25) (pc' := 31) rfl (hb hby d1_25) rfl (feq hc11).2 (by decide) (by decide) k) ?_
            show Goes p.tables e below (T10.setTop (mkF m 31 #[.val (.int pc0), .val (.ref ob_1), .val (.int (7 : Int32)), .val (.int (4 : Int32)), .val (.ref sa4)] [])) _
            refine Goes.by (fun _ k => XS.iinc X10.here hx rfl (hb hby d1_31) rfl (l' := #[.val (.int pc0), .val (.ref ob_1), .val (.int (7 : Int32)), .val (.int (5 : Int32)), .val (.ref sa4)]) rfl k) ?_
            show Goes p.tables e below (T10.setTop (mkF m 34 #[.val (.int pc0), .val (.ref ob_1), .val (.int (7 : Int32)), .val (.int (5 : Int32)), .val (.ref sa4)] [])) _
            refine Goes.by (fun _ k => XS.goto X10.here hx rfl (pc0 := 34) (pc' := 9) rfl (hb hby d1_34) (by decide) (by decide) k) ?_
            show Goes p.tables e below (T10.setTop (mkF m 9 #[.val (.int pc0), .val (.ref ob_1), .val (.int (7 : Int32)), .val (.int (5 : Int32)), .val (.ref sa4)] [])) _
            refine Goes.by (fun _ k => XS.iloadN X10.here hx rfl (hb hby d1_9) rfl k) ?_
            show Goes p.tables e below (T10.setTop (mkF m 10 #[.val (.int pc0), .val (.ref ob_1), .val (.int (7 : Int32)), .val (.int (5 : Int32)), .val (.ref sa4)] [(.int (5 : Int32))])) _
            refine Goes.by (fun _ k => XS.iloadN X10.here hx rfl (hb hby d1_10) rfl k) ?_
            show Goes p.tables e below (T10.setTop (mkF m 11 #[.val (.int pc0), .val (.ref ob_1), .val (.int (7 : Int32)), .val (.int (5 : Int32)), .val (.ref sa4)] [(.int (7 : Int32)), (.int (5 : Int32))])) _
            refine Goes.by (fun _ k => XS.icmpNo X10.here hx rfl (hb hby d1_11) rfl (tlt (by decide : (5 : Int32) < (7 : Int32))).2.1 k) ?_
            show Goes p.tables e below (T10.setTop (mkF m 14 #[.val (.int pc0), .val (.ref ob_1), .val (.int (7 : Int32)), .val (.int (5 : Int32)), .val (.ref sa4)] [])) _
            refine Goes.by (fun _ k => XS.aloadN X10.here hx rfl (hb hby d1_14) rfl rfl k) ?_
            show Goes p.tables e below (T10.setTop (mkF m 15 #[.val (.int pc0), .val (.ref ob_1), .val (.int (7 : Int32)), .val (.int (5 : Int32)), .val (.ref sa4)] [(.ref ob_1)])) _
            refine Goes.by (fun _ k => XS.iloadN X10.here hx rfl (hb hby d1_15) rfl k) ?_
            show Goes p.tables e below (T10.setTop (mkF m 16 #[.val (.int pc0), .val (.ref ob_1), .val (.int (7 : Int32)), .val (.int (5 : Int32)), .val (.ref sa4)] [(.int (5 : Int32)), (.ref ob_1)])) _
            refine Goes.by (fun _ k => ldR (v := (.ref sa5)) (fr := (mkF m 16 #[.val (.int pc0), .val (.ref ob_1), .val (.int (7 : Int32)), .val (.int (5 : Int32)), .val (.ref sa4)] [(.int (5 : Int32)), (.ref ob_1)])) X10 hx hZ e10 A_ob_1 rfl (i := 5) (by decide) (by decide) rfl rfl rfl (hb hby d1_16) k) ?_
            show Goes p.tables e below (T10.setTop (mkF m 17 #[.val (.int pc0), .val (.ref ob_1), .val (.int (7 : Int32)), .val (.int (5 : Int32)), .val (.ref sa4)] [(.ref sa5)])) _
            refine Goes.by (fun _ k => XS.astore X10.here hx rfl (hb hby d1_17) rfl rfl (l' := #[.val (.int pc0), .val (.ref ob_1), .val (.int (7 : Int32)), .val (.int (5 : Int32)), .val (.ref sa5)]) rfl k) ?_
            show Goes p.tables e below (T10.setTop (mkF m 19 #[.val (.int pc0), .val (.ref ob_1), .val (.int (7 : Int32)), .val (.int (5 : Int32)), .val (.ref sa5)] [])) _
            refine Goes.by (fun _ k => XS.aload X10.here hx rfl (hb hby d1_19) rfl rfl k) ?_
            show Goes p.tables e below (T10.setTop (mkF m 21 #[.val (.int pc0), .val (.ref ob_1), .val (.int (7 : Int32)), .val (.int (5 : Int32)), .val (.ref sa5)] [(.ref sa5)])) _
            obtain ⟨T12, X12, e12, st12⟩ := getF X10 hx hZ hown (host := "") (Or.inl (hw _ (List.mem_of_getElem? (i := 26) rfl))) Via.refl e10 F_sa5_code (g := (mkF m 21 #[.val (.int pc0), .val (.ref ob_1), .val (.int (7 : Int32)), .val (.int (5 : Int32)), .val (.ref sa5)] [(.ref sa5)])) rfl rfl (hb hby d1_21)
            refine Goes.by st12 ?_
            show Goes p.tables e below (T12.setTop (mkF m 24 #[.val (.int pc0), .val (.ref ob_1), .val (.int (7 : Int32)), .val (.int (5 : Int32)), .val (.ref sa5)] [(.int (5 : Int32))])) _
            refine Goes.by (fun _ k => XS.iloadN X12.here hx rfl (hb hby d1_24) rfl k) ?_
            show Goes p.tables e below (T12.setTop (mkF m 25 #[.val (.int pc0), .val (.ref ob_1), .val (.int (7 : Int32)), .val (.int (5 : Int32)), .val (.ref sa5)] [(.int pc0), (.int (5 : Int32))])) _
            by_cases hc13 : (5 : Int32) = pc0
            · refine Goes.by (fun _ k => XS.icmpNo X12.here hx rfl (hb hby d1_25) rfl (teq hc13).2 k) ?_
              show Goes p.tables e below (T12.setTop (mkF m 28 #[.val (.int pc0), .val (.ref ob_1), .val (.int (7 : Int32)), .val (.int (5 : Int32)), .val (.ref sa5)] [])) _
              refine Goes.by (fun _ k => XS.aload X12.here hx rfl (hb hby d1_28) rfl rfl k) ?_
              show Goes p.tables e below (T12.setTop (mkF m 30 #[.val (.int pc0), .val (.ref ob_1), .val (.int (7 : Int32)), .val (.int (5 : Int32)), .val (.ref sa5)] [(.ref sa5)])) _
              obtain ⟨fs, hr, hrun, hended, hW, hsame⟩ := X12.leave (v := some (.ref sa5)) (fun h => by rw [Bd.returns] at h; cases h)
              refine ⟨_, _, retOut X12 hx Bd.returns (i := .areturn) (narR rfl) (Or.inr (Or.inr (Or.inr (Or.inr ⟨rfl, rfl, rfl⟩)))) (hb hby d1_30) hr, hrun, hended, _, _, rfl, ?_, ⟨_, rfl⟩, hW, hsame.mono (by decide) (by decide)⟩
              show Q1 Z pc0 av sa0 sa1 sa2 sa3 sa4 sa5 sa6 h0 n0 _ T12.heap _
              rw [e12]
              exact ⟨(by rw [own_of, if_neg hc3, if_neg hc5, if_neg hc7, if_neg hc9, if_neg hc11, if_pos hc13]), N1, K1⟩
            · refine Goes.by (fun _ k => XS.icmpYes X12.here hx rfl (pc0 := 25) (pc' := 31) rfl (hb hby d1_25) rfl (feq hc13).2 (by decide) (by decide) k) ?_
              show Goes p.tables e below (T12.setTop (mkF m 31 #[.val (.int pc0), .val (.ref ob_1), .val (.int (7 : Int32)), .val (.int (5 : Int32)), .val (.ref sa5)] [])) _
              refine Goes.by (fun _ k => XS.iinc X12.here hx rfl (hb hby d1_31) rfl (l' := #[.val (.int pc0), .val (.ref ob_1), .val (.int (7 : Int32)), .val (.int (6 : Int32)), .val (.ref sa5)]) rfl k) ?_
              show Goes p.tables e below (T12.setTop (mkF m 34 #[.val (.int pc0), .val (.ref ob_1), .val (.int (7 : Int32)), .val (.int (6 : Int32)), .val (.ref sa5)] [])) _
              refine Goes.by (fun _ k => XS.goto X12.here hx rfl (pc0 := 34) (pc' := 9) rfl (hb hby d1_34) (by decide) (by decide) k) ?_
              show Goes p.tables e below (T12.setTop (mkF m 9 #[.val (.int pc0), .val (.ref ob_1), .val (.int (7 : Int32)), .val (.int (6 : Int32)), .val (.ref sa5)] [])) _
              refine Goes.by (fun _ k => XS.iloadN X12.here hx rfl (hb hby d1_9) rfl k) ?_
              show Goes p.tables e below (T12.setTop (mkF m 10 #[.val (.int pc0), .val (.ref ob_1), .val (.int (7 : Int32)), .val (.int (6 : Int32)), .val (.ref sa5)] [(.int (6 : Int32))])) _
              refine Goes.by (fun _ k => XS.iloadN X12.here hx rfl (hb hby d1_10) rfl k) ?_
              show Goes p.tables e below (T12.setTop (mkF m 11 #[.val (.int pc0), .val (.ref ob_1), .val (.int (7 : Int32)), .val (.int (6 : Int32)), .val (.ref sa5)] [(.int (7 : Int32)), (.int (6 : Int32))])) _
              refine Goes.by (fun _ k => XS.icmpNo X12.here hx rfl (hb hby d1_11) rfl (tlt (by decide : (6 : Int32) < (7 : Int32))).2.1 k) ?_
              show Goes p.tables e below (T12.setTop (mkF m 14 #[.val (.int pc0), .val (.ref ob_1), .val (.int (7 : Int32)), .val (.int (6 : Int32)), .val (.ref sa5)] [])) _
              refine Goes.by (fun _ k => XS.aloadN X12.here hx rfl (hb hby d1_14) rfl rfl k) ?_
              show Goes p.tables e below (T12.setTop (mkF m 15 #[.val (.int pc0), .val (.ref ob_1), .val (.int (7 : Int32)), .val (.int (6 : Int32)), .val (.ref sa5)] [(.ref ob_1)])) _
              refine Goes.by (fun _ k => XS.iloadN X12.here hx rfl (hb hby d1_15) rfl k) ?_
              show Goes p.tables e below (T12.setTop (mkF m 16 #[.val (.int pc0), .val (.ref ob_1), .val (.int (7 : Int32)), .val (.int (6 : Int32)), .val (.ref sa5)] [(.int (6 : Int32)), (.ref ob_1)])) _
              refine Goes.by (fun _ k => ldR (v := (.ref sa6)) (fr := (mkF m 16 #[.val (.int pc0), .val (.ref ob_1), .val (.int (7 : Int32)), .val (.int (6 : Int32)), .val (.ref sa5)] [(.int (6 : Int32)), (.ref ob_1)])) X12 hx hZ e12 A_ob_1 rfl (i := 6) (by decide) (by decide) rfl rfl rfl (hb hby d1_16) k) ?_
              show Goes p.tables e below (T12.setTop (mkF m 17 #[.val (.int pc0), .val (.ref ob_1), .val (.int (7 : Int32)), .val (.int (6 : Int32)), .val (.ref sa5)] [(.ref sa6)])) _
              refine Goes.by (fun _ k => XS.astore X12.here hx rfl (hb hby d1_17) rfl rfl (l' := #[.val (.int pc0), .val (.ref ob_1), .val (.int (7 : Int32)), .val (.int (6 : Int32)), .val (.ref sa6)]) rfl k) ?_
              show Goes p.tables e below (T12.setTop (mkF m 19 #[.val (.int pc0), .val (.ref ob_1), .val (.int (7 : Int32)), .val (.int (6 : Int32)), .val (.ref sa6)] [])) _
              refine Goes.by (fun _ k => XS.aload X12.here hx rfl (hb hby d1_19) rfl rfl k) ?_
              show Goes p.tables e below (T12.setTop (mkF m 21 #[.val (.int pc0), .val (.ref ob_1), .val (.int (7 : Int32)), .val (.int (6 : Int32)), .val (.ref sa6)] [(.ref sa6)])) _
              obtain ⟨T14, X14, e14, st14⟩ := getF X12 hx hZ hown (host := "") (Or.inl (hw _ (List.mem_of_getElem? (i := 26) rfl))) Via.refl e12 F_sa6_code (g := (mkF m 21 #[.val (.int pc0), .val (.ref ob_1), .val (.int (7 : Int32)), .val (.int (6 : Int32)), .val (.ref sa6)] [(.ref sa6)])) rfl rfl (hb hby d1_21)
              refine Goes.by st14 ?_
              show Goes p.tables e below (T14.setTop (mkF m 24 #[.val (.int pc0), .val (.ref ob_1), .val (.int (7 : Int32)), .val (.int (6 : Int32)), .val (.ref sa6)] [(.int (6 : Int32))])) _
              refine Goes.by (fun _ k => XS.iloadN X14.here hx rfl (hb hby d1_24) rfl k) ?_
              show Goes p.tables e below (T14.setTop (mkF m 25 #[.val (.int pc0), .val (.ref ob_1), .val (.int (7 : Int32)), .val (.int (6 : Int32)), .val (.ref sa6)] [(.int pc0), (.int (6 : Int32))])) _
              by_cases hc15 : (6 : Int32) = pc0
              · refine Goes.by (fun _ k => XS.icmpNo X14.here hx rfl (hb hby d1_25) rfl (teq hc15).2 k) ?_
                show Goes p.tables e below (T14.setTop (mkF m 28 #[.val (.int pc0), .val (.ref ob_1), .val (.int (7 : Int32)), .val (.int (6 : Int32)), .val (.ref sa6)] [])) _
                refine Goes.by (fun _ k => XS.aload X14.here hx rfl (hb hby d1_28) rfl rfl k) ?_
                show Goes p.tables e below (T14.setTop (mkF m 30 #[.val (.int pc0), .val (.ref ob_1), .val (.int (7 : Int32)), .val (.int (6 : Int32)), .val (.ref sa6)] [(.ref sa6)])) _
                obtain ⟨fs, hr, hrun, hended, hW, hsame⟩ := X14.leave (v := some (.ref sa6)) (fun h => by rw [Bd.returns] at h; cases h)
                refine ⟨_, _, retOut X14 hx Bd.returns (i := .areturn) (narR rfl) (Or.inr (Or.inr (Or.inr (Or.inr ⟨rfl, rfl, rfl⟩)))) (hb hby d1_30) hr, hrun, hended, _, _, rfl, ?_, ⟨_, rfl⟩, hW, hsame.mono (by decide) (by decide)⟩
                show Q1 Z pc0 av sa0 sa1 sa2 sa3 sa4 sa5 sa6 h0 n0 _ T14.heap _
                rw [e14]
                exact ⟨(by rw [own_of, if_neg hc3, if_neg hc5, if_neg hc7, if_neg hc9, if_neg hc11, if_neg hc13, if_pos hc15]), N1, K1⟩
              · refine Goes.by (fun _ k => XS.icmpYes X14.here hx rfl (pc0 := 25) (pc' := 31) rfl (hb hby d1_25) rfl (feq hc15).2 (by decide) (by decide) k) ?_
                show Goes p.tables e below (T14.setTop (mkF m 31 #[.val (.int pc0), .val (.ref ob_1), .val (.int (7 : Int32)), .val (.int (6 : Int32)), .val (.ref sa6)] [])) _
                refine Goes.by (fun _ k => XS.iinc X14.here hx rfl (hb hby d1_31) rfl (l' := #[.val (.int pc0), .val (.ref ob_1), .val (.int (7 : Int32)), .val (.int (7 : Int32)), .val (.ref sa6)]) rfl k) ?_
                show Goes p.tables e below (T14.setTop (mkF m 34 #[.val (.int pc0), .val (.ref ob_1), .val (.int (7 : Int32)), .val (.int (7 : Int32)), .val (.ref sa6)] [])) _
                refine Goes.by (fun _ k => XS.goto X14.here hx rfl (pc0 := 34) (pc' := 9) rfl (hb hby d1_34) (by decide) (by decide) k) ?_
                show Goes p.tables e below (T14.setTop (mkF m 9 #[.val (.int pc0), .val (.ref ob_1), .val (.int (7 : Int32)), .val (.int (7 : Int32)), .val (.ref sa6)] [])) _
                refine Goes.by (fun _ k => XS.iloadN X14.here hx rfl (hb hby d1_9) rfl k) ?_
                show Goes p.tables e below (T14.setTop (mkF m 10 #[.val (.int pc0), .val (.ref ob_1), .val (.int (7 : Int32)), .val (.int (7 : Int32)), .val (.ref sa6)] [(.int (7 : Int32))])) _
                refine Goes.by (fun _ k => XS.iloadN X14.here hx rfl (hb hby d1_10) rfl k) ?_
                show Goes p.tables e below (T14.setTop (mkF m 11 #[.val (.int pc0), .val (.ref ob_1), .val (.int (7 : Int32)), .val (.int (7 : Int32)), .val (.ref sa6)] [(.int (7 : Int32)), (.int (7 : Int32))])) _
                refine Goes.by (fun _ k => XS.icmpYes X14.here hx rfl (pc0 := 11) (pc' := 37) rfl (hb hby d1_11) rfl (flt (by decide : ¬ ((7 : Int32) < (7 : Int32)))).2.1 (by decide) (by decide) k) ?_
                show Goes p.tables e below (T14.setTop (mkF m 37 #[.val (.int pc0), .val (.ref ob_1), .val (.int (7 : Int32)), .val (.int (7 : Int32)), .val (.ref sa6)] [])) _
                refine Goes.by (fun _ k => XS.aconstNull X14.here hx rfl (hb hby d1_37) k) ?_
                show Goes p.tables e below (T14.setTop (mkF m 38 #[.val (.int pc0), .val (.ref ob_1), .val (.int (7 : Int32)), .val (.int (7 : Int32)), .val (.ref sa6)] [.null])) _
                obtain ⟨fs, hr, hrun, hended, hW, hsame⟩ := X14.leave (v := some .null) (fun h => by rw [Bd.returns] at h; cases h)
                refine ⟨_, _, retOut X14 hx Bd.returns (i := .areturn) (narR rfl) (Or.inr (Or.inr (Or.inr (Or.inr ⟨rfl, rfl, rfl⟩)))) (hb hby d1_38) hr, hrun, hended, _, _, rfl, ?_, ⟨_, rfl⟩, hW, hsame.mono (by decide) (by decide)⟩
                show Q1 Z pc0 av sa0 sa1 sa2 sa3 sa4 sa5 sa6 h0 n0 _ T14.heap _
                rw [e14]
                exact ⟨(by rw [own_of, if_neg hc3, if_neg hc5, if_neg hc7, if_neg hc9, if_neg hc11, if_neg hc13, if_neg hc15]), N1, K1⟩
theorem d3_0 : decode method_2_code 0 = .ok (.iload_n 0, 1) := by decide +kernel
theorem d3_1 : decode method_2_code 1 = .ok (.ifCond .ne 7, 3) := by decide +kernel
theorem d3_4 : decode method_2_code 4 = .ok (.getstatic 7, 3) := by decide +kernel
theorem d3_7 : decode method_2_code 7 = .ok (.areturn, 1) := by decide +kernel
theorem d3_8 : decode method_2_code 8 = .ok (.iload_n 0, 1) := by decide +kernel
theorem d3_9 : decode method_2_code 9 = .ok (.iconst 1, 1) := by decide +kernel
theorem d3_10 : decode method_2_code 10 = .ok (.if_icmp .ne 7, 3) := by decide +kernel
theorem d3_13 : decode method_2_code 13 = .ok (.getstatic 13, 3) := by decide +kernel
theorem d3_16 : decode method_2_code 16 = .ok (.areturn, 1) := by decide +kernel
theorem d3_17 : decode method_2_code 17 = .ok (.iload_n 0, 1) := by decide +kernel
theorem d3_18 : decode method_2_code 18 = .ok (.iconst 2, 1) := by decide +kernel
theorem d3_19 : decode method_2_code 19 = .ok (.if_icmp .ne 7, 3) := by decide +kernel
theorem d3_22 : decode method_2_code 22 = .ok (.getstatic 16, 3) := by decide +kernel
theorem d3_25 : decode method_2_code 25 = .ok (.areturn, 1) := by decide +kernel
theorem d3_26 : decode method_2_code 26 = .ok (.iload_n 0, 1) := by decide +kernel
theorem d3_27 : decode method_2_code 27 = .ok (.iconst 3, 1) := by decide +kernel
theorem d3_28 : decode method_2_code 28 = .ok (.if_icmp .ne 7, 3) := by decide +kernel
theorem d3_31 : decode method_2_code 31 = .ok (.getstatic 19, 3) := by decide +kernel
theorem d3_34 : decode method_2_code 34 = .ok (.areturn, 1) := by decide +kernel
theorem d3_35 : decode method_2_code 35 = .ok (.iload_n 0, 1) := by decide +kernel
theorem d3_36 : decode method_2_code 36 = .ok (.iconst 4, 1) := by decide +kernel
theorem d3_37 : decode method_2_code 37 = .ok (.if_icmp .ne 7, 3) := by decide +kernel
theorem d3_40 : decode method_2_code 40 = .ok (.getstatic 22, 3) := by decide +kernel
theorem d3_43 : decode method_2_code 43 = .ok (.areturn, 1) := by decide +kernel
theorem d3_44 : decode method_2_code 44 = .ok (.iload_n 0, 1) := by decide +kernel
theorem d3_45 : decode method_2_code 45 = .ok (.iconst 5, 1) := by decide +kernel
theorem d3_46 : decode method_2_code 46 = .ok (.if_icmp .ne 7, 3) := by decide +kernel
theorem d3_49 : decode method_2_code 49 = .ok (.getstatic 25, 3) := by decide +kernel
theorem d3_52 : decode method_2_code 52 = .ok (.areturn, 1) := by decide +kernel
theorem d3_53 : decode method_2_code 53 = .ok (.iload_n 0, 1) := by decide +kernel
theorem d3_54 : decode method_2_code 54 = .ok (.bipush 6, 2) := by decide +kernel
theorem d3_56 : decode method_2_code 56 = .ok (.if_icmp .ne 7, 3) := by decide +kernel
theorem d3_59 : decode method_2_code 59 = .ok (.getstatic 28, 3) := by decide +kernel
theorem d3_62 : decode method_2_code 62 = .ok (.areturn, 1) := by decide +kernel
theorem d3_63 : decode method_2_code 63 = .ok (.aconst_null, 1) := by decide +kernel
theorem d3_64 : decode method_2_code 64 = .ok (.areturn, 1) := by decide +kernel
theorem pn_1 : plainName "com/example/gongshu/gongshu/protocol/StatusOfPinLaw" = true := by first | (simp [plainName, overriddenIn]; done) | decide +kernel
theorem ef3 (m : MethodId) (pc0 : Int32) : entryFrame m #[(.int pc0)] 1 = mkF m 0 #[.val (.int pc0)] [] := by first | (simp [entryFrame, mkF, argsToLocals, Value.category]; done) | rfl
def Q3 (Z : State) (pc0 : Int32) (av : Addr) (sa0 : Addr) (sa1 : Addr) (sa2 : Addr) (sa3 : Addr) (sa4 : Addr) (sa5 : Addr) (sa6 : Addr) (h0 : Heap) (n0 : Nat) (v : Option Value) (h : Heap) (L : List Loc) : Prop := v = some (own_ex sa0 sa1 sa2 sa3 sa4 sa5 sa6 pc0) ∧ Fr n0 L ∧ h = h0
set_option maxRecDepth 65536 in
set_option maxHeartbeats 40000000 in
theorem rm3 (l : Launch) (Z : State) (a0 : Array Value) (hw : ∀ d ∈ tables_1, d.before a0 Z = true) (ws : List Jvm.Cond) (pc0 : Int32) (av : Addr) (sa0 : Addr) (sa1 : Addr) (sa2 : Addr) (sa3 : Addr) (sa4 : Addr) (sa5 : Addr) (sa6 : Addr) (h0 : Heap) (n0 : Nat) (Z0 : n0 ≤ h0.size) (O : Old Z n0 h0) (S_s0 : Sta Z Z.heap "com/example/gongshu/gongshu/protocol/Status" "OK" "Lcom/example/gongshu/gongshu/protocol/Status;" (.ref sa0)) (S_s1 : Sta Z Z.heap "com/example/gongshu/gongshu/protocol/Status" "BAD_REQUEST" "Lcom/example/gongshu/gongshu/protocol/Status;" (.ref sa1)) (S_s2 : Sta Z Z.heap "com/example/gongshu/gongshu/protocol/Status" "UNSUPPORTED_VERSION" "Lcom/example/gongshu/gongshu/protocol/Status;" (.ref sa2)) (S_s3 : Sta Z Z.heap "com/example/gongshu/gongshu/protocol/Status" "UNKNOWN_KIND" "Lcom/example/gongshu/gongshu/protocol/Status;" (.ref sa3)) (S_s4 : Sta Z Z.heap "com/example/gongshu/gongshu/protocol/Status" "NO_SUCH_TOPIC" "Lcom/example/gongshu/gongshu/protocol/Status;" (.ref sa4)) (S_s5 : Sta Z Z.heap "com/example/gongshu/gongshu/protocol/Status" "TOPIC_EXISTS" "Lcom/example/gongshu/gongshu/protocol/Status;" (.ref sa5)) (S_s6 : Sta Z Z.heap "com/example/gongshu/gongshu/protocol/Status" "BROKER_ERROR" "Lcom/example/gongshu/gongshu/protocol/Status;" (.ref sa6)) :
    MetFree l (⟨"com/example/gongshu/gongshu/protocol/StatusOfPinLaw", "expected", "(I)Lcom/example/gongshu/gongshu/protocol/Status;"⟩ : MethodName) (head1 (Jvm.Cond.code (⟨"com/example/gongshu/gongshu/protocol/StatusOfPinLaw", "expected", "(I)Lcom/example/gongshu/gongshu/protocol/Status;"⟩ : MethodName) method_2_code 1 (some (.object "com/example/gongshu/gongshu/protocol/Status")) :: ws) ({ frames := 0, cells := 0, slots := 0, locals := 0 } : Room)) (fun a U => a = #[(.int pc0)] ∧ Z.Warmed39 U.vm ∧ U.heap = h0) (fun _ _ _ _ _ => True) (fun _ U o U' => ∃ v L, o = .returned v ∧ Q3 Z pc0 av sa0 sa1 sa2 sa3 sa4 sa5 sa6 h0 n0 v U'.heap L ∧ FrameEnd U o U' L ({ frames := 0, cells := 0, slots := 0, locals := 0 } : Room).cells ({ frames := 0, cells := 0, slots := 0, locals := 0 } : Room).slots) := by
  refine MetFree.of_bodySF (plainFor_of_name pn_1) hisR ?_
  intro p e s m args below meth c s₁ Bd hml0 hP hK
  obtain ⟨rfl, hZ, hh⟩ := hP
  have hx := Bd.exec
  have hby := Bd.bytes
  have hml : c.maxLocals = 1 := hml0
  have hown : s.vm.findClass "com/example/gongshu/gongshu/protocol/StatusOfPinLaw" = some m.cls := findClass_of_methodNamed Bd.named
  have hnm := (name_of_methodNamed Bd.named Bd.method).1
  have X0 : Stand p l e ({ frames := 0, cells := 0, slots := 0, locals := 0 } : Room) s m #[(.int pc0)] below meth c s₁ [] 0 0 := Stand.of_body Bd
  have e0 : s₁.heap = h0 := by rw [← hh, Bd.state]; rfl
  have N0 := Fr.nil n0
  refine Goes.by (fun _ k => castTop (ef3 m pc0) k) ?_
  show Goes p.tables e below (s₁.setTop (mkF m 0 #[.val (.int pc0)] [])) _
  refine Goes.by (fun _ k => XS.iloadN X0.here hx rfl (hb hby d3_0) rfl k) ?_
  show Goes p.tables e below (s₁.setTop (mkF m 1 #[.val (.int pc0)] [(.int pc0)])) _
  by_cases hc1 : pc0 = (0 : Int32)
  · refine Goes.by (fun _ k => XS.ifNo X0.here hx rfl (hb hby d3_1) rfl ((if0 _ _).trans (teq hc1).2) k) ?_
    show Goes p.tables e below (s₁.setTop (mkF m 4 #[.val (.int pc0)] [])) _
    obtain ⟨T2, X2, e2, st2⟩ := getS2 X0 hx hZ hown (host := "") (Or.inl (hw _ (List.mem_of_getElem? (i := 32) rfl))) Via.refl e0 (S_s0.ext O.2) (g := (mkF m 4 #[.val (.int pc0)] [])) rfl (hb hby d3_4)
    refine Goes.by st2 ?_
    show Goes p.tables e below (T2.setTop (mkF m 7 #[.val (.int pc0)] [(.ref sa0)])) _
    obtain ⟨fs, hr, hrun, hended, hW, hsame⟩ := X2.leave (v := some (.ref sa0)) (fun h => by rw [Bd.returns] at h; cases h)
    refine ⟨_, _, retOut X2 hx Bd.returns (i := .areturn) (narR rfl) (Or.inr (Or.inr (Or.inr (Or.inr ⟨rfl, rfl, rfl⟩)))) (hb hby d3_7) hr, hrun, hended, _, _, rfl, ?_, ⟨_, rfl⟩, hW, hsame.mono (by decide) (by decide)⟩
    show Q3 Z pc0 av sa0 sa1 sa2 sa3 sa4 sa5 sa6 h0 n0 _ T2.heap _
    rw [e2]
    exact ⟨(by rw [own_ex, if_pos hc1]), N0, rfl⟩
  · refine Goes.by (fun _ k => XS.ifYes X0.here hx rfl (pc0 := 1) (pc' := 8) rfl (hb hby d3_1) rfl ((if0 _ _).trans (feq hc1).2) (by decide) (by decide) k) ?_
    show Goes p.tables e below (s₁.setTop (mkF m 8 #[.val (.int pc0)] [])) _
    refine Goes.by (fun _ k => XS.iloadN X0.here hx rfl (hb hby d3_8) rfl k) ?_
    show Goes p.tables e below (s₁.setTop (mkF m 9 #[.val (.int pc0)] [(.int pc0)])) _
    refine Goes.by (fun _ k => XS.iconst X0.here hx rfl (hb hby d3_9) k) ?_
    show Goes p.tables e below (s₁.setTop (mkF m 10 #[.val (.int pc0)] [(.int (1 : Int32)), (.int pc0)])) _
    by_cases hc3 : pc0 = (1 : Int32)
    · refine Goes.by (fun _ k => XS.icmpNo X0.here hx rfl (hb hby d3_10) rfl (teq hc3).2 k) ?_
      show Goes p.tables e below (s₁.setTop (mkF m 13 #[.val (.int pc0)] [])) _
      obtain ⟨T4, X4, e4, st4⟩ := getS2 X0 hx hZ hown (host := "") (Or.inl (hw _ (List.mem_of_getElem? (i := 35) rfl))) Via.refl e0 (S_s1.ext O.2) (g := (mkF m 13 #[.val (.int pc0)] [])) rfl (hb hby d3_13)
      refine Goes.by st4 ?_
      show Goes p.tables e below (T4.setTop (mkF m 16 #[.val (.int pc0)] [(.ref sa1)])) _
      obtain ⟨fs, hr, hrun, hended, hW, hsame⟩ := X4.leave (v := some (.ref sa1)) (fun h => by rw [Bd.returns] at h; cases h)
      refine ⟨_, _, retOut X4 hx Bd.returns (i := .areturn) (narR rfl) (Or.inr (Or.inr (Or.inr (Or.inr ⟨rfl, rfl, rfl⟩)))) (hb hby d3_16) hr, hrun, hended, _, _, rfl, ?_, ⟨_, rfl⟩, hW, hsame.mono (by decide) (by decide)⟩
      show Q3 Z pc0 av sa0 sa1 sa2 sa3 sa4 sa5 sa6 h0 n0 _ T4.heap _
      rw [e4]
      exact ⟨(by rw [own_ex, if_neg hc1, if_pos hc3]), N0, rfl⟩
    · refine Goes.by (fun _ k => XS.icmpYes X0.here hx rfl (pc0 := 10) (pc' := 17) rfl (hb hby d3_10) rfl (feq hc3).2 (by decide) (by decide) k) ?_
      show Goes p.tables e below (s₁.setTop (mkF m 17 #[.val (.int pc0)] [])) _
      refine Goes.by (fun _ k => XS.iloadN X0.here hx rfl (hb hby d3_17) rfl k) ?_
      show Goes p.tables e below (s₁.setTop (mkF m 18 #[.val (.int pc0)] [(.int pc0)])) _
      refine Goes.by (fun _ k => XS.iconst X0.here hx rfl (hb hby d3_18) k) ?_
      show Goes p.tables e below (s₁.setTop (mkF m 19 #[.val (.int pc0)] [(.int (2 : Int32)), (.int pc0)])) _
      by_cases hc5 : pc0 = (2 : Int32)
      · refine Goes.by (fun _ k => XS.icmpNo X0.here hx rfl (hb hby d3_19) rfl (teq hc5).2 k) ?_
        show Goes p.tables e below (s₁.setTop (mkF m 22 #[.val (.int pc0)] [])) _
        obtain ⟨T6, X6, e6, st6⟩ := getS2 X0 hx hZ hown (host := "") (Or.inl (hw _ (List.mem_of_getElem? (i := 38) rfl))) Via.refl e0 (S_s2.ext O.2) (g := (mkF m 22 #[.val (.int pc0)] [])) rfl (hb hby d3_22)
        refine Goes.by st6 ?_
        show Goes p.tables e below (T6.setTop (mkF m 25 #[.val (.int pc0)] [(.ref sa2)])) _
        obtain ⟨fs, hr, hrun, hended, hW, hsame⟩ := X6.leave (v := some (.ref sa2)) (fun h => by rw [Bd.returns] at h; cases h)
        refine ⟨_, _, retOut X6 hx Bd.returns (i := .areturn) (narR rfl) (Or.inr (Or.inr (Or.inr (Or.inr ⟨rfl, rfl, rfl⟩)))) (hb hby d3_25) hr, hrun, hended, _, _, rfl, ?_, ⟨_, rfl⟩, hW, hsame.mono (by decide) (by decide)⟩
        show Q3 Z pc0 av sa0 sa1 sa2 sa3 sa4 sa5 sa6 h0 n0 _ T6.heap _
        rw [e6]
        exact ⟨(by rw [own_ex, if_neg hc1, if_neg hc3, if_pos hc5]), N0, rfl⟩
      · refine Goes.by (fun _ k => XS.icmpYes X0.here hx rfl (pc0 := 19) (pc' := 26) rfl (hb hby d3_19) rfl (feq hc5).2 (by decide) (by decide) k) ?_
        show Goes p.tables e below (s₁.setTop (mkF m 26 #[.val (.int pc0)] [])) _
        refine Goes.by (fun _ k => XS.iloadN X0.here hx rfl (hb hby d3_26) rfl k) ?_
        show Goes p.tables e below (s₁.setTop (mkF m 27 #[.val (.int pc0)] [(.int pc0)])) _
        refine Goes.by (fun _ k => XS.iconst X0.here hx rfl (hb hby d3_27) k) ?_
        show Goes p.tables e below (s₁.setTop (mkF m 28 #[.val (.int pc0)] [(.int (3 : Int32)), (.int pc0)])) _
        by_cases hc7 : pc0 = (3 : Int32)
        · refine Goes.by (fun _ k => XS.icmpNo X0.here hx rfl (hb hby d3_28) rfl (teq hc7).2 k) ?_
          show Goes p.tables e below (s₁.setTop (mkF m 31 #[.val (.int pc0)] [])) _
          obtain ⟨T8, X8, e8, st8⟩ := getS2 X0 hx hZ hown (host := "") (Or.inl (hw _ (List.mem_of_getElem? (i := 34) rfl))) Via.refl e0 (S_s3.ext O.2) (g := (mkF m 31 #[.val (.int pc0)] [])) rfl (hb hby d3_31)
          refine Goes.by st8 ?_
          show Goes p.tables e below (T8.setTop (mkF m 34 #[.val (.int pc0)] [(.ref sa3)])) _
          obtain ⟨fs, hr, hrun, hended, hW, hsame⟩ := X8.leave (v := some (.ref sa3)) (fun h => by rw [Bd.returns] at h; cases h)
          refine ⟨_, _, retOut X8 hx Bd.returns (i := .areturn) (narR rfl) (Or.inr (Or.inr (Or.inr (Or.inr ⟨rfl, rfl, rfl⟩)))) (hb hby d3_34) hr, hrun, hended, _, _, rfl, ?_, ⟨_, rfl⟩, hW, hsame.mono (by decide) (by decide)⟩
          show Q3 Z pc0 av sa0 sa1 sa2 sa3 sa4 sa5 sa6 h0 n0 _ T8.heap _
          rw [e8]
          exact ⟨(by rw [own_ex, if_neg hc1, if_neg hc3, if_neg hc5, if_pos hc7]), N0, rfl⟩
        · refine Goes.by (fun _ k => XS.icmpYes X0.here hx rfl (pc0 := 28) (pc' := 35) rfl (hb hby d3_28) rfl (feq hc7).2 (by decide) (by decide) k) ?_
          show Goes p.tables e below (s₁.setTop (mkF m 35 #[.val (.int pc0)] [])) _
          refine Goes.by (fun _ k => XS.iloadN X0.here hx rfl (hb hby d3_35) rfl k) ?_
          show Goes p.tables e below (s₁.setTop (mkF m 36 #[.val (.int pc0)] [(.int pc0)])) _
          refine Goes.by (fun _ k => XS.iconst X0.here hx rfl (hb hby d3_36) k) ?_
          show Goes p.tables e below (s₁.setTop (mkF m 37 #[.val (.int pc0)] [(.int (4 : Int32)), (.int pc0)])) _
          by_cases hc9 : pc0 = (4 : Int32)
          · refine Goes.by (fun _ k => XS.icmpNo X0.here hx rfl (hb hby d3_37) rfl (teq hc9).2 k) ?_
            show Goes p.tables e below (s₁.setTop (mkF m 40 #[.val (.int pc0)] [])) _
            obtain ⟨T10, X10, e10, st10⟩ := getS2 X0 hx hZ hown (host := "") (Or.inl (hw _ (List.mem_of_getElem? (i := 36) rfl))) Via.refl e0 (S_s4.ext O.2) (g := (mkF m 40 #[.val (.int pc0)] [])) rfl (hb hby d3_40)
            refine Goes.by st10 ?_
            show Goes p.tables e below (T10.setTop (mkF m 43 #[.val (.int pc0)] [(.ref sa4)])) _
            obtain ⟨fs, hr, hrun, hended, hW, hsame⟩ := X10.leave (v := some (.ref sa4)) (fun h => by rw [Bd.returns] at h; cases h)
            refine ⟨_, _, retOut X10 hx Bd.returns (i := .areturn) (narR rfl) (Or.inr (Or.inr (Or.inr (Or.inr ⟨rfl, rfl, rfl⟩)))) (hb hby d3_43) hr, hrun, hended, _, _, rfl, ?_, ⟨_, rfl⟩, hW, hsame.mono (by decide) (by decide)⟩
            show Q3 Z pc0 av sa0 sa1 sa2 sa3 sa4 sa5 sa6 h0 n0 _ T10.heap _
            rw [e10]
            exact ⟨(by rw [own_ex, if_neg hc1, if_neg hc3, if_neg hc5, if_neg hc7, if_pos hc9]), N0, rfl⟩
          · refine Goes.by (fun _ k => XS.icmpYes X0.here hx rfl (pc0 := 37) (pc' := 44) rfl (hb hby d3_37) rfl (feq hc9).2 (by decide) (by decide) k) ?_
            show Goes p.tables e below (s₁.setTop (mkF m 44 #[.val (.int pc0)] [])) _
            refine Goes.by (fun _ k => XS.iloadN X0.here hx rfl (hb hby d3_44) rfl k) ?_
            show Goes p.tables e below (s₁.setTop (mkF m 45 #[.val (.int pc0)] [(.int pc0)])) _
            refine Goes.by (fun _ k => XS.iconst X0.here hx rfl (hb hby d3_45) k) ?_
            show Goes p.tables e below (s₁.setTop (mkF m 46 #[.val (.int pc0)] [(.int (5 : Int32)), (.int pc0)])) _
            by_cases hc11 : pc0 = (5 : Int32)
            · refine Goes.by (fun _ k => XS.icmpNo X0.here hx rfl (hb hby d3_46) rfl (teq hc11).2 k) ?_
              show Goes p.tables e below (s₁.setTop (mkF m 49 #[.val (.int pc0)] [])) _
              obtain ⟨T12, X12, e12, st12⟩ := getS2 X0 hx hZ hown (host := "") (Or.inl (hw _ (List.mem_of_getElem? (i := 37) rfl))) Via.refl e0 (S_s5.ext O.2) (g := (mkF m 49 #[.val (.int pc0)] [])) rfl (hb hby d3_49)
              refine Goes.by st12 ?_
              show Goes p.tables e below (T12.setTop (mkF m 52 #[.val (.int pc0)] [(.ref sa5)])) _
              obtain ⟨fs, hr, hrun, hended, hW, hsame⟩ := X12.leave (v := some (.ref sa5)) (fun h => by rw [Bd.returns] at h; cases h)
              refine ⟨_, _, retOut X12 hx Bd.returns (i := .areturn) (narR rfl) (Or.inr (Or.inr (Or.inr (Or.inr ⟨rfl, rfl, rfl⟩)))) (hb hby d3_52) hr, hrun, hended, _, _, rfl, ?_, ⟨_, rfl⟩, hW, hsame.mono (by decide) (by decide)⟩
              show Q3 Z pc0 av sa0 sa1 sa2 sa3 sa4 sa5 sa6 h0 n0 _ T12.heap _
              rw [e12]
              exact ⟨(by rw [own_ex, if_neg hc1, if_neg hc3, if_neg hc5, if_neg hc7, if_neg hc9, if_pos hc11]), N0, rfl⟩
            · refine Goes.by (fun _ k => XS.icmpYes X0.here hx rfl (pc0 := 46) (pc' := 53) rfl (hb hby d3_46) rfl (feq hc11).2 (by decide) (by decide) k) ?_
              show Goes p.tables e below (s₁.setTop (mkF m 53 #[.val (.int pc0)] [])) _
              refine Goes.by (fun _ k => XS.iloadN X0.here hx rfl (hb hby d3_53) rfl k) ?_
              show Goes p.tables e below (s₁.setTop (mkF m 54 #[.val (.int pc0)] [(.int pc0)])) _
              refine Goes.by (fun _ k => XS.bipush X0.here hx rfl (hb hby d3_54) k) ?_
              show Goes p.tables e below (s₁.setTop (mkF m 56 #[.val (.int pc0)] [(.int (6 : Int32)), (.int pc0)])) _
              by_cases hc13 : pc0 = (6 : Int32)
              · refine Goes.by (fun _ k => XS.icmpNo X0.here hx rfl (hb hby d3_56) rfl (teq hc13).2 k) ?_
                show Goes p.tables e below (s₁.setTop (mkF m 59 #[.val (.int pc0)] [])) _
                obtain ⟨T14, X14, e14, st14⟩ := getS2 X0 hx hZ hown (host := "") (Or.inl (hw _ (List.mem_of_getElem? (i := 33) rfl))) Via.refl e0 (S_s6.ext O.2) (g := (mkF m 59 #[.val (.int pc0)] [])) rfl (hb hby d3_59)
                refine Goes.by st14 ?_
                show Goes p.tables e below (T14.setTop (mkF m 62 #[.val (.int pc0)] [(.ref sa6)])) _
                obtain ⟨fs, hr, hrun, hended, hW, hsame⟩ := X14.leave (v := some (.ref sa6)) (fun h => by rw [Bd.returns] at h; cases h)
                refine ⟨_, _, retOut X14 hx Bd.returns (i := .areturn) (narR rfl) (Or.inr (Or.inr (Or.inr (Or.inr ⟨rfl, rfl, rfl⟩)))) (hb hby d3_62) hr, hrun, hended, _, _, rfl, ?_, ⟨_, rfl⟩, hW, hsame.mono (by decide) (by decide)⟩
                show Q3 Z pc0 av sa0 sa1 sa2 sa3 sa4 sa5 sa6 h0 n0 _ T14.heap _
                rw [e14]
                exact ⟨(by rw [own_ex, if_neg hc1, if_neg hc3, if_neg hc5, if_neg hc7, if_neg hc9, if_neg hc11, if_pos hc13]), N0, rfl⟩
              · refine Goes.by (fun _ k => XS.icmpYes X0.here hx rfl (pc0 := 56) (pc' := 63) rfl (hb hby d3_56) rfl (feq hc13).2 (by decide) (by decide) k) ?_
                show Goes p.tables e below (s₁.setTop (mkF m 63 #[.val (.int pc0)] [])) _
                refine Goes.by (fun _ k => XS.aconstNull X0.here hx rfl (hb hby d3_63) k) ?_
                show Goes p.tables e below (s₁.setTop (mkF m 64 #[.val (.int pc0)] [.null])) _
                obtain ⟨fs, hr, hrun, hended, hW, hsame⟩ := X0.leave (v := some .null) (fun h => by rw [Bd.returns] at h; cases h)
                refine ⟨_, _, retOut X0 hx Bd.returns (i := .areturn) (narR rfl) (Or.inr (Or.inr (Or.inr (Or.inr ⟨rfl, rfl, rfl⟩)))) (hb hby d3_64) hr, hrun, hended, _, _, rfl, ?_, ⟨_, rfl⟩, hW, hsame.mono (by decide) (by decide)⟩
                show Q3 Z pc0 av sa0 sa1 sa2 sa3 sa4 sa5 sa6 h0 n0 _ s₁.heap _
                rw [e0]
                exact ⟨(by rw [own_ex, if_neg hc1, if_neg hc3, if_neg hc5, if_neg hc7, if_neg hc9, if_neg hc11, if_neg hc13]), N0, rfl⟩
theorem pd_1 : parseMethodDescriptor "(I)Lcom/example/gongshu/gongshu/protocol/Status;" = some ⟨[.int], some (.object "com/example/gongshu/gongshu/protocol/Status")⟩ := by decide +kernel
theorem ef0 (m : MethodId) (pr : Int32) (pp : Int32) : entryFrame m #[(.int pr), (.int pp)] maxLocals = mkF m 0 #[.val (.int pr), .val (.int pp), .unset, .unset, .unset] [] := by first | (simp [entryFrame, mkF, argsToLocals, Value.category, maxLocals]; done) | rfl
def Q0 (Z : State) (pr : Int32) (pp : Int32) (av : Addr) (sa0 : Addr) (sa1 : Addr) (sa2 : Addr) (sa3 : Addr) (sa4 : Addr) (sa5 : Addr) (sa6 : Addr) (h0 : Heap) (n0 : Nat) (v : Option Value) (h : Heap) (L : List Loc) : Prop := v = some (.int (1 : Int32)) ∧ Fr n0 L
set_option maxRecDepth 65536 in
set_option maxHeartbeats 40000000 in
theorem rm0 (l : Launch) (Z : State) (a0 : Array Value) (hw : ∀ d ∈ tables_1, d.before a0 Z = true) (ws : List Jvm.Cond) (pr : Int32) (pp : Int32) (av : Addr) (sa0 : Addr) (sa1 : Addr) (sa2 : Addr) (sa3 : Addr) (sa4 : Addr) (sa5 : Addr) (sa6 : Addr) (h0 : Heap) (n0 : Nat) (Z0 : n0 ≤ h0.size) (O : Old Z n0 h0) (S_vals : Sta Z Z.heap "com/example/gongshu/gongshu/protocol/Status" "$VALUES" "[Lcom/example/gongshu/gongshu/protocol/Status;" (.ref av)) (A_av : Ar Z h0 av (.object "com/example/gongshu/gongshu/protocol/Status") 7 (own_sv sa0 sa1 sa2 sa3 sa4 sa5 sa6)) (E_av : Exa Z h0 av "[Lcom/example/gongshu/gongshu/protocol/Status;") (S_s0 : Sta Z Z.heap "com/example/gongshu/gongshu/protocol/Status" "OK" "Lcom/example/gongshu/gongshu/protocol/Status;" (.ref sa0)) (S_s1 : Sta Z Z.heap "com/example/gongshu/gongshu/protocol/Status" "BAD_REQUEST" "Lcom/example/gongshu/gongshu/protocol/Status;" (.ref sa1)) (S_s2 : Sta Z Z.heap "com/example/gongshu/gongshu/protocol/Status" "UNSUPPORTED_VERSION" "Lcom/example/gongshu/gongshu/protocol/Status;" (.ref sa2)) (S_s3 : Sta Z Z.heap "com/example/gongshu/gongshu/protocol/Status" "UNKNOWN_KIND" "Lcom/example/gongshu/gongshu/protocol/Status;" (.ref sa3)) (S_s4 : Sta Z Z.heap "com/example/gongshu/gongshu/protocol/Status" "NO_SUCH_TOPIC" "Lcom/example/gongshu/gongshu/protocol/Status;" (.ref sa4)) (S_s5 : Sta Z Z.heap "com/example/gongshu/gongshu/protocol/Status" "TOPIC_EXISTS" "Lcom/example/gongshu/gongshu/protocol/Status;" (.ref sa5)) (S_s6 : Sta Z Z.heap "com/example/gongshu/gongshu/protocol/Status" "BROKER_ERROR" "Lcom/example/gongshu/gongshu/protocol/Status;" (.ref sa6)) (F_sa0_code : Fld Z h0 sa0 "com/example/gongshu/gongshu/protocol/Status" "code" "I" (.int (0 : Int32))) (F_sa1_code : Fld Z h0 sa1 "com/example/gongshu/gongshu/protocol/Status" "code" "I" (.int (1 : Int32))) (F_sa2_code : Fld Z h0 sa2 "com/example/gongshu/gongshu/protocol/Status" "code" "I" (.int (2 : Int32))) (F_sa3_code : Fld Z h0 sa3 "com/example/gongshu/gongshu/protocol/Status" "code" "I" (.int (3 : Int32))) (F_sa4_code : Fld Z h0 sa4 "com/example/gongshu/gongshu/protocol/Status" "code" "I" (.int (4 : Int32))) (F_sa5_code : Fld Z h0 sa5 "com/example/gongshu/gongshu/protocol/Status" "code" "I" (.int (5 : Int32))) (F_sa6_code : Fld Z h0 sa6 "com/example/gongshu/gongshu/protocol/Status" "code" "I" (.int (6 : Int32))) :
    MetFree l x (head1 (Jvm.Cond.code x code maxLocals ret :: ws) room_1) (fun a U => a = #[(.int pr), (.int pp)] ∧ Z.Warmed39 U.vm ∧ U.heap = h0) (fun _ _ _ _ _ => True) (fun _ U o U' => ∃ v L, o = .returned v ∧ Q0 Z pr pp av sa0 sa1 sa2 sa3 sa4 sa5 sa6 h0 n0 v U'.heap L ∧ FrameEnd U o U' L room_1.cells room_1.slots) := by
  refine MetFree.of_bodySF (plainFor_of_name pn_1) hisR ?_
  intro p e s m args below meth c s₁ Bd hml0 hP hK
  obtain ⟨rfl, hZ, hh⟩ := hP
  have hx := Bd.exec
  have hby := Bd.bytes
  have hml : c.maxLocals = 5 := hml0
  have hown : s.vm.findClass "com/example/gongshu/gongshu/protocol/StatusOfPinLaw" = some m.cls := findClass_of_methodNamed Bd.named
  have hnm := (name_of_methodNamed Bd.named Bd.method).1
  have X0 : Stand p l e room_1 s m #[(.int pr), (.int pp)] below meth c s₁ [] 0 0 := Stand.of_body Bd
  have e0 : s₁.heap = h0 := by rw [← hh, Bd.state]; rfl
  have N0 := Fr.nil n0
  refine Goes.by (fun _ k => castTop (ef0 m pr pp) k) ?_
  show Goes p.tables e below (s₁.setTop (mkF m 0 #[.val (.int pr), .val (.int pp), .unset, .unset, .unset] [])) _
  refine Goes.by (fun _ k => XS.iloadN X0.here hx rfl (hb hby at_0) rfl k) ?_
  show Goes p.tables e below (s₁.setTop (mkF m 1 #[.val (.int pr), .val (.int pp), .unset, .unset, .unset] [(.int pp)])) _
  refine Goes.by (fun _ k => XS.iconst X0.here hx rfl (hb hby at_1) k) ?_
  show Goes p.tables e below (s₁.setTop (mkF m 2 #[.val (.int pr), .val (.int pp), .unset, .unset, .unset] [(.int (1 : Int32)), (.int pp)])) _
  refine Goes.by (fun _ k => XS.iand X0.here hx rfl (hb hby at_2) rfl k) ?_
  show Goes p.tables e below (s₁.setTop (mkF m 3 #[.val (.int pr), .val (.int pp), .unset, .unset, .unset] [(.int (pp &&& (1 : Int32)))])) _
  obtain ⟨v1, hv1⟩ : ∃ z : Int32, z = (if (pp &&& (1 : Int32)) = (0 : Int32) then (0 : Int32) else (1 : Int32)) := ⟨_, rfl⟩
  refine Goes.by (t' := s₁.setTop (mkF m 11 #[.val (.int pr), .val (.int pp), .unset, .unset, .unset] [(.int v1)])) (fun u k => ?_) ?_
  · show Steps p.tables e below (s₁.setTop (mkF m 3 #[.val (.int pr), .val (.int pp), .unset, .unset, .unset] [(.int (pp &&& (1 : Int32)))])) _
    by_cases hc2 : (pp &&& (1 : Int32)) = (0 : Int32)
    · refine XS.ifYes X0.here hx rfl (pc0 := 3) (pc' := 10) rfl (hb hby at_3) rfl ((if0 _ _).trans (teq hc2).1) (by decide) (by decide) ?_
      show Steps p.tables e below (s₁.setTop (mkF m 10 #[.val (.int pr), .val (.int pp), .unset, .unset, .unset] [])) _
      refine XS.iconst X0.here hx rfl (hb hby at_10) ?_
      show Steps p.tables e below (s₁.setTop (mkF m 11 #[.val (.int pr), .val (.int pp), .unset, .unset, .unset] [(.int (0 : Int32))])) _
      have qv1 : v1 = (0 : Int32) := by rw [hv1, if_pos hc2]
      subst qv1
      exact k
    · refine XS.ifNo X0.here hx rfl (hb hby at_3) rfl ((if0 _ _).trans (feq hc2).1) ?_
      show Steps p.tables e below (s₁.setTop (mkF m 6 #[.val (.int pr), .val (.int pp), .unset, .unset, .unset] [])) _
      refine XS.iconst X0.here hx rfl (hb hby at_6) ?_
      show Steps p.tables e below (s₁.setTop (mkF m 7 #[.val (.int pr), .val (.int pp), .unset, .unset, .unset] [(.int (1 : Int32))])) _
      refine XS.goto X0.here hx rfl (pc0 := 7) (pc' := 11) rfl (hb hby at_7) (by decide) (by decide) ?_
      show Steps p.tables e below (s₁.setTop (mkF m 11 #[.val (.int pr), .val (.int pp), .unset, .unset, .unset] [(.int (1 : Int32))])) _
      have qv1 : v1 = (1 : Int32) := by rw [hv1, if_neg hc2]
      subst qv1
      exact k
  show Goes p.tables e below (s₁.setTop (mkF m 11 #[.val (.int pr), .val (.int pp), .unset, .unset, .unset] [(.int v1)])) _
  refine Goes.by (fun _ k => XS.istoreN X0.here hx rfl (hb hby at_11) rfl (l' := #[.val (.int pr), .val (.int pp), .val (.int v1), .unset, .unset]) rfl k) ?_
  show Goes p.tables e below (s₁.setTop (mkF m 12 #[.val (.int pr), .val (.int pp), .val (.int v1), .unset, .unset] [])) _
  refine Goes.by (fun _ k => XS.iloadN X0.here hx rfl (hb hby at_12) rfl k) ?_
  show Goes p.tables e below (s₁.setTop (mkF m 13 #[.val (.int pr), .val (.int pp), .val (.int v1), .unset, .unset] [(.int v1)])) _
  obtain ⟨v3, hv3⟩ : ∃ z : Int32, z = (if v1 = (0 : Int32) then ((((pp.toUInt32 >>> ((1 : Int32) &&& 31).toUInt32).toInt32) &&& (15 : Int32)) - (4 : Int32)) else pr) := ⟨_, rfl⟩
  refine Goes.by (t' := s₁.setTop (mkF m 28 #[.val (.int pr), .val (.int pp), .val (.int v1), .unset, .unset] [(.int v3)])) (fun u k => ?_) ?_
  · show Steps p.tables e below (s₁.setTop (mkF m 13 #[.val (.int pr), .val (.int pp), .val (.int v1), .unset, .unset] [(.int v1)])) _
    by_cases hc4 : v1 = (0 : Int32)
    · refine XS.ifYes X0.here hx rfl (pc0 := 13) (pc' := 20) rfl (hb hby at_13) rfl ((if0 _ _).trans (teq hc4).1) (by decide) (by decide) ?_
      show Steps p.tables e below (s₁.setTop (mkF m 20 #[.val (.int pr), .val (.int pp), .val (.int v1), .unset, .unset] [])) _
      refine XS.iloadN X0.here hx rfl (hb hby at_20) rfl ?_
      show Steps p.tables e below (s₁.setTop (mkF m 21 #[.val (.int pr), .val (.int pp), .val (.int v1), .unset, .unset] [(.int pp)])) _
      refine XS.iconst X0.here hx rfl (hb hby at_21) ?_
      show Steps p.tables e below (s₁.setTop (mkF m 22 #[.val (.int pr), .val (.int pp), .val (.int v1), .unset, .unset] [(.int (1 : Int32)), (.int pp)])) _
      refine XS.iushr X0.here hx rfl (hb hby at_22) rfl ?_
      show Steps p.tables e below (s₁.setTop (mkF m 23 #[.val (.int pr), .val (.int pp), .val (.int v1), .unset, .unset] [(.int ((pp.toUInt32 >>> ((1 : Int32) &&& 31).toUInt32).toInt32))])) _
      refine XS.bipush X0.here hx rfl (hb hby at_23) ?_
      show Steps p.tables e below (s₁.setTop (mkF m 25 #[.val (.int pr), .val (.int pp), .val (.int v1), .unset, .unset] [(.int (15 : Int32)), (.int ((pp.toUInt32 >>> ((1 : Int32) &&& 31).toUInt32).toInt32))])) _
      refine XS.iand X0.here hx rfl (hb hby at_25) rfl ?_
      show Steps p.tables e below (s₁.setTop (mkF m 26 #[.val (.int pr), .val (.int pp), .val (.int v1), .unset, .unset] [(.int (((pp.toUInt32 >>> ((1 : Int32) &&& 31).toUInt32).toInt32) &&& (15 : Int32)))])) _
      refine XS.iconst X0.here hx rfl (hb hby at_26) ?_
      show Steps p.tables e below (s₁.setTop (mkF m 27 #[.val (.int pr), .val (.int pp), .val (.int v1), .unset, .unset] [(.int (4 : Int32)), (.int (((pp.toUInt32 >>> ((1 : Int32) &&& 31).toUInt32).toInt32) &&& (15 : Int32)))])) _
      refine XS.isub X0.here hx rfl (hb hby at_27) rfl ?_
      show Steps p.tables e below (s₁.setTop (mkF m 28 #[.val (.int pr), .val (.int pp), .val (.int v1), .unset, .unset] [(.int ((((pp.toUInt32 >>> ((1 : Int32) &&& 31).toUInt32).toInt32) &&& (15 : Int32)) - (4 : Int32)))])) _
      have qv3 : v3 = ((((pp.toUInt32 >>> ((1 : Int32) &&& 31).toUInt32).toInt32) &&& (15 : Int32)) - (4 : Int32)) := by rw [hv3, if_pos hc4]
      subst qv3
      exact k
    · refine XS.ifNo X0.here hx rfl (hb hby at_13) rfl ((if0 _ _).trans (feq hc4).1) ?_
      show Steps p.tables e below (s₁.setTop (mkF m 16 #[.val (.int pr), .val (.int pp), .val (.int v1), .unset, .unset] [])) _
      refine XS.iloadN X0.here hx rfl (hb hby at_16) rfl ?_
      show Steps p.tables e below (s₁.setTop (mkF m 17 #[.val (.int pr), .val (.int pp), .val (.int v1), .unset, .unset] [(.int pr)])) _
      refine XS.goto X0.here hx rfl (pc0 := 17) (pc' := 28) rfl (hb hby at_17) (by decide) (by decide) ?_
      show Steps p.tables e below (s₁.setTop (mkF m 28 #[.val (.int pr), .val (.int pp), .val (.int v1), .unset, .unset] [(.int pr)])) _
      have qv3 : v3 = pr := by rw [hv3, if_neg hc4]
      subst qv3
      exact k
  show Goes p.tables e below (s₁.setTop (mkF m 28 #[.val (.int pr), .val (.int pp), .val (.int v1), .unset, .unset] [(.int v3)])) _
  refine Goes.by (fun _ k => XS.istoreN X0.here hx rfl (hb hby at_28) rfl (l' := #[.val (.int pr), .val (.int pp), .val (.int v1), .val (.int v3), .unset]) rfl k) ?_
  show Goes p.tables e below (s₁.setTop (mkF m 29 #[.val (.int pr), .val (.int pp), .val (.int v1), .val (.int v3), .unset] [])) _
  refine Goes.by (fun _ k => XS.iloadN X0.here hx rfl (hb hby at_29) rfl k) ?_
  show Goes p.tables e below (s₁.setTop (mkF m 30 #[.val (.int pr), .val (.int pp), .val (.int v1), .val (.int v3), .unset] [(.int v3)])) _
  obtain ⟨_, _, ⟨T5, L5, k5, n5⟩, -, X5, ⟨Lc5, hQ5, l5, y5, z5⟩, st5⟩ := Jvm.LawKit.callS X0 hx (y := (⟨"com/example/gongshu/gongshu/protocol/Status", "of", "(I)Lcom/example/gongshu/gongshu/protocol/Status;"⟩ : MethodName)) hown (mvT hZ (hw _ (List.mem_of_getElem? (i := 0) rfl))) (mvT hZ (hw _ (List.mem_of_getElem? (i := 1) rfl))) (mvT hZ (hw _ (List.mem_of_getElem? (i := 2) rfl))) (mvT hZ (hw _ (List.mem_of_getElem? (i := 3) rfl))) (by decide) (backOf (W := 0) (rm1 l Z a0 hw [] v3 av sa0 sa1 sa2 sa3 sa4 sa5 sa6 h0 n0 Z0 O S_vals A_av E_av F_sa0_code F_sa1_code F_sa2_code F_sa3_code F_sa4_code F_sa5_code F_sa6_code) hZ (hw _ (List.mem_of_getElem? (i := 3) rfl)) (hw _ (List.mem_of_getElem? (i := 2) rfl)) (by decide) (by decide)) (g := (mkF m 30 #[.val (.int pr), .val (.int pp), .val (.int v1), .val (.int v3), .unset] [(.int v3)])) rfl (by rw [hml]; rfl) (argsL := [(.int v3)]) (rest := []) (lenOf pd_1 rfl) rfl (by show 2 * 0 + _ ≤ _; exact Nat.le_of_eq rfl) (hb hby at_30) (fun _ _ => ⟨rfl, e0, (by decide : 0 + 1 ≤ _), (by decide : 0 + 7 ≤ _)⟩)
  dsimp only [Pt.U, Pt.locs, Pt.cells, Pt.slots] at X5 l5 y5 z5 st5 hQ5
  subst l5 y5 z5
  obtain ⟨rfl, N5q, Kq5⟩ := hQ5
  have N5 := Fr.app N0 N5q
  refine Goes.by st5 ?_
  have Zs5 : n0 ≤ T5.heap.size := Nat.le_trans Z0 Kq5.1
  have K5 : Keep h0 T5.heap [] := (Keep.refl h0 []).trans Kq5 all0
  have O : Old Z n0 T5.heap := O.keep Kq5 all0
  have A_av : Ar Z T5.heap av (.object "com/example/gongshu/gongshu/protocol/Status") 7 (own_sv sa0 sa1 sa2 sa3 sa4 sa5 sa6) := A_av.keep Kq5 nin0
  have E_av : Exa Z T5.heap av "[Lcom/example/gongshu/gongshu/protocol/Status;" := E_av.keep Kq5
  have F_sa0_code : Fld Z T5.heap sa0 "com/example/gongshu/gongshu/protocol/Status" "code" "I" (.int (0 : Int32)) := F_sa0_code.keep Kq5 nin0
  have F_sa1_code : Fld Z T5.heap sa1 "com/example/gongshu/gongshu/protocol/Status" "code" "I" (.int (1 : Int32)) := F_sa1_code.keep Kq5 nin0
  have F_sa2_code : Fld Z T5.heap sa2 "com/example/gongshu/gongshu/protocol/Status" "code" "I" (.int (2 : Int32)) := F_sa2_code.keep Kq5 nin0
  have F_sa3_code : Fld Z T5.heap sa3 "com/example/gongshu/gongshu/protocol/Status" "code" "I" (.int (3 : Int32)) := F_sa3_code.keep Kq5 nin0
  have F_sa4_code : Fld Z T5.heap sa4 "com/example/gongshu/gongshu/protocol/Status" "code" "I" (.int (4 : Int32)) := F_sa4_code.keep Kq5 nin0
  have F_sa5_code : Fld Z T5.heap sa5 "com/example/gongshu/gongshu/protocol/Status" "code" "I" (.int (5 : Int32)) := F_sa5_code.keep Kq5 nin0
  have F_sa6_code : Fld Z T5.heap sa6 "com/example/gongshu/gongshu/protocol/Status" "code" "I" (.int (6 : Int32)) := F_sa6_code.keep Kq5 nin0
  show Goes p.tables e below (T5.setTop (mkF m 33 #[.val (.int pr), .val (.int pp), .val (.int v1), .val (.int v3), .unset] [(own_of sa0 sa1 sa2 sa3 sa4 sa5 sa6 v3)])) _
  refine Goes.by (fun _ k => XS.astore X5.here hx rfl (hb hby at_33) rfl (own_isr _ _ _ _ _ _ _ _) (l' := #[.val (.int pr), .val (.int pp), .val (.int v1), .val (.int v3), .val (own_of sa0 sa1 sa2 sa3 sa4 sa5 sa6 v3)]) (XS.store1 (o := .unset) rfl (Or.inl rfl) (catR (own_isr _ _ _ _ _ _ _ _))) k) ?_
  show Goes p.tables e below (T5.setTop (mkF m 35 #[.val (.int pr), .val (.int pp), .val (.int v1), .val (.int v3), .val (own_of sa0 sa1 sa2 sa3 sa4 sa5 sa6 v3)] [])) _
  refine Goes.by (fun _ k => XS.aload X5.here hx rfl (hb hby at_35) rfl (own_isr _ _ _ _ _ _ _ _) k) ?_
  show Goes p.tables e below (T5.setTop (mkF m 37 #[.val (.int pr), .val (.int pp), .val (.int v1), .val (.int v3), .val (own_of sa0 sa1 sa2 sa3 sa4 sa5 sa6 v3)] [(own_of sa0 sa1 sa2 sa3 sa4 sa5 sa6 v3)])) _
  refine Goes.by (fun _ k => XS.iloadN X5.here hx rfl (hb hby at_37) rfl k) ?_
  show Goes p.tables e below (T5.setTop (mkF m 38 #[.val (.int pr), .val (.int pp), .val (.int v1), .val (.int v3), .val (own_of sa0 sa1 sa2 sa3 sa4 sa5 sa6 v3)] [(.int v3), (own_of sa0 sa1 sa2 sa3 sa4 sa5 sa6 v3)])) _
  obtain ⟨_, _, ⟨T6, L6, k6, n6⟩, -, X6, ⟨Lc6, hQ6, l6, y6, z6⟩, st6⟩ := Jvm.LawKit.callS X5 hx (y := (⟨"com/example/gongshu/gongshu/protocol/StatusOfPinLaw", "expected", "(I)Lcom/example/gongshu/gongshu/protocol/Status;"⟩ : MethodName)) hown (mvT hZ (hw _ (List.mem_of_getElem? (i := 28) rfl))) (mvT hZ (hw _ (List.mem_of_getElem? (i := 29) rfl))) (mvT hZ (hw _ (List.mem_of_getElem? (i := 30) rfl))) (mvT hZ (hw _ (List.mem_of_getElem? (i := 31) rfl))) (by decide) (backOf (W := 1) (rm3 l Z a0 hw [] v3 av sa0 sa1 sa2 sa3 sa4 sa5 sa6 T5.heap n0 Zs5 O S_s0 S_s1 S_s2 S_s3 S_s4 S_s5 S_s6) hZ (hw _ (List.mem_of_getElem? (i := 31) rfl)) (hw _ (List.mem_of_getElem? (i := 30) rfl)) (by decide) (by decide)) (g := (mkF m 38 #[.val (.int pr), .val (.int pp), .val (.int v1), .val (.int v3), .val (own_of sa0 sa1 sa2 sa3 sa4 sa5 sa6 v3)] [(.int v3), (own_of sa0 sa1 sa2 sa3 sa4 sa5 sa6 v3)])) rfl (by rw [hml]; rfl) (argsL := [(.int v3)]) (rest := [(own_of sa0 sa1 sa2 sa3 sa4 sa5 sa6 v3)]) (lenOf pd_1 rfl) rfl (by show 2 * 0 + (((own_of sa0 sa1 sa2 sa3 sa4 sa5 sa6 v3)).category + 0) ≤ _; have qw0 := catR (v := (own_of sa0 sa1 sa2 sa3 sa4 sa5 sa6 v3)) (own_isr _ _ _ _ _ _ _ _); omega) (hb hby at_38) (fun _ _ => ⟨rfl, rfl, (by decide : 1 + 0 ≤ _), (by decide : 7 + 0 ≤ _)⟩)
  dsimp only [Pt.U, Pt.locs, Pt.cells, Pt.slots] at X6 l6 y6 z6 st6 hQ6
  subst l6 y6 z6
  obtain ⟨rfl, N6q, e6⟩ := hQ6
  have N6 := Fr.app N5 N6q
  refine Goes.by st6 ?_
  show Goes p.tables e below (T6.setTop (mkF m 41 #[.val (.int pr), .val (.int pp), .val (.int v1), .val (.int v3), .val (own_of sa0 sa1 sa2 sa3 sa4 sa5 sa6 v3)] [(own_ex sa0 sa1 sa2 sa3 sa4 sa5 sa6 v3), (own_of sa0 sa1 sa2 sa3 sa4 sa5 sa6 v3)])) _
  refine Goes.by (fun _ k => Jvm.RoadKit.acmp (g := (mkF m 41 #[.val (.int pr), .val (.int pp), .val (.int v1), .val (.int v3), .val (own_of sa0 sa1 sa2 sa3 sa4 sa5 sa6 v3)] [(own_ex sa0 sa1 sa2 sa3 sa4 sa5 sa6 v3), (own_of sa0 sa1 sa2 sa3 sa4 sa5 sa6 v3)])) X6 hx rfl (own_isr _ _ _ _ _ _ _ _) (own_isx _ _ _ _ _ _ _ _) (pc0 := 41) (pc' := 44) (same := true) rfl (hb hby at_41) rfl (decide_eq_true (own_eq _ _ _ _ _ _ _ _)) (by decide) (by decide) k) ?_
  show Goes p.tables e below (T6.setTop (mkF m 44 #[.val (.int pr), .val (.int pp), .val (.int v1), .val (.int v3), .val (own_of sa0 sa1 sa2 sa3 sa4 sa5 sa6 v3)] [])) _
  refine Goes.by (fun _ k => XS.iconst X6.here hx rfl (hb hby at_44) k) ?_
  show Goes p.tables e below (T6.setTop (mkF m 45 #[.val (.int pr), .val (.int pp), .val (.int v1), .val (.int v3), .val (own_of sa0 sa1 sa2 sa3 sa4 sa5 sa6 v3)] [(.int (1 : Int32))])) _
  refine Goes.by (fun _ k => XS.goto X6.here hx rfl (pc0 := 45) (pc' := 49) rfl (hb hby at_45) (by decide) (by decide) k) ?_
  show Goes p.tables e below (T6.setTop (mkF m 49 #[.val (.int pr), .val (.int pp), .val (.int v1), .val (.int v3), .val (own_of sa0 sa1 sa2 sa3 sa4 sa5 sa6 v3)] [(.int (1 : Int32))])) _
  obtain ⟨fs, hr, hrun, hended, hW, hsame⟩ := X6.leave (v := some (.int (1 : Int32))) (fun h => by rw [Bd.returns] at h; cases h)
  refine ⟨_, _, retN X6 hx (t := .boolean) Bd.returns (by simp) (hb hby at_49) hr, hrun, hended, _, _, rfl, ?_, ⟨_, rfl⟩, hW, hsame.mono (by decide) (by decide)⟩
  show Q0 Z pr pp av sa0 sa1 sa2 sa3 sa4 sa5 sa6 h0 n0 _ T6.heap _
  rw [e6]
  exact ⟨rfl, N6⟩
set_option maxRecDepth 65536 in
set_option maxHeartbeats 40000000 in
theorem comes_1 {Post : Tables → Env → Array Value → State → Outcome → State → Prop} (hpost : ∀ tb e args s v u, (limb_1_1.after args s (.returned v) u = true ∧ limb_1_2.after args s (.returned v) u = true ∧ True) → FrameEnd s (.returned v) u (Jvm.fieldLocs frame_1_writes args s ++ Jvm.arrayLocs frame_1_arrays args s ++ Jvm.staticLocs frame_1_statics s) 16 128 → Post tb e args s (.returned v) u) :
    ArmFor flags0 classFile x code maxLocals ret World_1 tables_1 room_1 Calls_1 rest_1 Pre_1 Post := by
  intro l hfl _ _ p e ha hc hk s m args below hf hA hF happ hP
  obtain ⟨hcalls, hrest, hpre⟩ := hP
  obtain ⟨-, -, -, hnamed, -, -, -, hat⟩ := (Spec.applies_iff hf).mp happ
  obtain ⟨hg, hn⟩ := and_e (Cond.before_iff.mp (show (Jvm.Cond.and given_1 narrow_1).before args s = true from hpre))
  obtain ⟨g1, g2⟩ := and_e hg
  obtain ⟨g3, g4⟩ := and_e g2
  obtain ⟨w0, w1, rfl⟩ : ∃ w0 w1 : Value, args = #[w0, w1] := by
    have hs : args.size = 2 := by simpa [Cond.value, given_1] using g1
    obtain ⟨L⟩ := args
    match L, hs with
    | [w0, w1], _ => exact ⟨w0, w1, rfl⟩
  have hw := fun d (hd : d ∈ tables_1) => atoms_spec (ws := Jvm.Cond.code x code maxLocals ret :: tables_1) hat d (List.mem_cons_of_mem _ hd)
  have hfit : Fit s := fun {y c} hc i hi => by
    obtain ⟨ha, rfl⟩ := Array.getElem?_eq_some_iff.mp hc
    have q := List.all_eq_true.mp ((Array.all_eq_true_iff_forall_mem.mp hF) _ (Array.getElem_mem ha)) i (List.mem_range.mpr hi)
    simpa [Array.getElem?_eq_getElem hi] using q
  obtain ⟨i0, ei0⟩ := is_v g3
  obtain rfl : w0 = (.int i0) := Option.some.inj ei0
  obtain ⟨i1, ei1⟩ := is_v g4
  obtain rfl : w1 = (.int i1) := Option.some.inj ei1
  obtain ⟨nr0, nx0⟩ := and_e hn
  obtain ⟨nr1, nx1⟩ := and_e nx0
  obtain ⟨nr2, nx2⟩ := and_e nx1
  obtain ⟨nr3, nx3⟩ := and_e nx2
  obtain ⟨nr4, nx4⟩ := and_e nx3
  obtain ⟨nr5, nx5⟩ := and_e nx4
  obtain ⟨nr6, nx6⟩ := and_e nx5
  obtain ⟨nr7, nx7⟩ := and_e nx6
  obtain ⟨nr8, nx8⟩ := and_e nx7
  obtain ⟨nr9, nx9⟩ := and_e nx8
  obtain ⟨nr10, nx10⟩ := and_e nx9
  obtain ⟨nr11, nx11⟩ := and_e nx10
  obtain ⟨nr12, nx12⟩ := and_e nx11
  obtain ⟨nr13, nx13⟩ := and_e nx12
  obtain ⟨nr14, nx14⟩ := and_e nx13
  obtain ⟨nr15, nx15⟩ := and_e nx14
  obtain ⟨nr16, nx16⟩ := and_e nx15
  obtain ⟨nr17, nx17⟩ := and_e nx16
  obtain ⟨nr18, nx18⟩ := and_e nx17
  obtain ⟨nr19, nx19⟩ := and_e nx18
  obtain ⟨nr20, nx20⟩ := and_e nx19
  obtain ⟨nr21, nx21⟩ := and_e nx20
  obtain ⟨nr22, nx22⟩ := and_e nx21
  have nr23 := nx22
  obtain ⟨av, eV⟩ := arr_v nr0
  obtain ⟨cv, AV⟩ := Arr.start eV nr0
  have S_vals : Sta s s.heap "com/example/gongshu/gongshu/protocol/Status" "$VALUES" "[Lcom/example/gongshu/gongshu/protocol/Status;" (.ref av) := Sta.start eV (Or.inl (hw _ (List.mem_of_getElem? (i := 23) rfl)))
  have E_av := Exa.start eV nr1
  have hAf := AV.fin (Vm.Alike.refl _)
  have hsz : cv.slots.size = 7 := own_sized eV hAf (eqv_i (Term.int_eval (7)) nr2) rfl
  obtain ⟨sa0, es0⟩ := exa_v nr3
  have S_s0 : Sta s s.heap "com/example/gongshu/gongshu/protocol/Status" "OK" "Lcom/example/gongshu/gongshu/protocol/Status;" (.ref sa0) := Sta.start es0 (Or.inr ⟨hw _ (List.mem_of_getElem? (i := 2) rfl), hw _ (List.mem_of_getElem? (i := 16) rfl)⟩)
  have el0 : cv.slots[0]? = some (.ref sa0) := (elem_f eV (Term.int_eval (0)) hAf (by decide)).symm.trans (eqv_r es0 nr4)
  have F_code_sa0 : Fld s s.heap sa0 "com/example/gongshu/gongshu/protocol/Status" "code" "I" (.int (0 : Int32)) := Fld.start ((fld_at es0).symm.trans (eqv_i (Term.int_eval (0)) nr17))
  obtain ⟨sa1, es1⟩ := exa_v nr5
  have S_s1 : Sta s s.heap "com/example/gongshu/gongshu/protocol/Status" "BAD_REQUEST" "Lcom/example/gongshu/gongshu/protocol/Status;" (.ref sa1) := Sta.start es1 (Or.inr ⟨hw _ (List.mem_of_getElem? (i := 2) rfl), hw _ (List.mem_of_getElem? (i := 17) rfl)⟩)
  have el1 : cv.slots[1]? = some (.ref sa1) := (elem_f eV (Term.int_eval (1)) hAf (by decide)).symm.trans (eqv_r es1 nr6)
  have F_code_sa1 : Fld s s.heap sa1 "com/example/gongshu/gongshu/protocol/Status" "code" "I" (.int (1 : Int32)) := Fld.start ((fld_at es1).symm.trans (eqv_i (Term.int_eval (1)) nr18))
  obtain ⟨sa2, es2⟩ := exa_v nr7
  have S_s2 : Sta s s.heap "com/example/gongshu/gongshu/protocol/Status" "UNSUPPORTED_VERSION" "Lcom/example/gongshu/gongshu/protocol/Status;" (.ref sa2) := Sta.start es2 (Or.inr ⟨hw _ (List.mem_of_getElem? (i := 2) rfl), hw _ (List.mem_of_getElem? (i := 18) rfl)⟩)
  have el2 : cv.slots[2]? = some (.ref sa2) := (elem_f eV (Term.int_eval (2)) hAf (by decide)).symm.trans (eqv_r es2 nr8)
  have F_code_sa2 : Fld s s.heap sa2 "com/example/gongshu/gongshu/protocol/Status" "code" "I" (.int (2 : Int32)) := Fld.start ((fld_at es2).symm.trans (eqv_i (Term.int_eval (2)) nr19))
  obtain ⟨sa3, es3⟩ := exa_v nr9
  have S_s3 : Sta s s.heap "com/example/gongshu/gongshu/protocol/Status" "UNKNOWN_KIND" "Lcom/example/gongshu/gongshu/protocol/Status;" (.ref sa3) := Sta.start es3 (Or.inr ⟨hw _ (List.mem_of_getElem? (i := 2) rfl), hw _ (List.mem_of_getElem? (i := 19) rfl)⟩)
  have el3 : cv.slots[3]? = some (.ref sa3) := (elem_f eV (Term.int_eval (3)) hAf (by decide)).symm.trans (eqv_r es3 nr10)
  have F_code_sa3 : Fld s s.heap sa3 "com/example/gongshu/gongshu/protocol/Status" "code" "I" (.int (3 : Int32)) := Fld.start ((fld_at es3).symm.trans (eqv_i (Term.int_eval (3)) nr20))
  obtain ⟨sa4, es4⟩ := exa_v nr11
  have S_s4 : Sta s s.heap "com/example/gongshu/gongshu/protocol/Status" "NO_SUCH_TOPIC" "Lcom/example/gongshu/gongshu/protocol/Status;" (.ref sa4) := Sta.start es4 (Or.inr ⟨hw _ (List.mem_of_getElem? (i := 2) rfl), hw _ (List.mem_of_getElem? (i := 20) rfl)⟩)
  have el4 : cv.slots[4]? = some (.ref sa4) := (elem_f eV (Term.int_eval (4)) hAf (by decide)).symm.trans (eqv_r es4 nr12)
  have F_code_sa4 : Fld s s.heap sa4 "com/example/gongshu/gongshu/protocol/Status" "code" "I" (.int (4 : Int32)) := Fld.start ((fld_at es4).symm.trans (eqv_i (Term.int_eval (4)) nr21))
  obtain ⟨sa5, es5⟩ := exa_v nr13
  have S_s5 : Sta s s.heap "com/example/gongshu/gongshu/protocol/Status" "TOPIC_EXISTS" "Lcom/example/gongshu/gongshu/protocol/Status;" (.ref sa5) := Sta.start es5 (Or.inr ⟨hw _ (List.mem_of_getElem? (i := 2) rfl), hw _ (List.mem_of_getElem? (i := 21) rfl)⟩)
  have el5 : cv.slots[5]? = some (.ref sa5) := (elem_f eV (Term.int_eval (5)) hAf (by decide)).symm.trans (eqv_r es5 nr14)
  have F_code_sa5 : Fld s s.heap sa5 "com/example/gongshu/gongshu/protocol/Status" "code" "I" (.int (5 : Int32)) := Fld.start ((fld_at es5).symm.trans (eqv_i (Term.int_eval (5)) nr22))
  obtain ⟨sa6, es6⟩ := exa_v nr15
  have S_s6 : Sta s s.heap "com/example/gongshu/gongshu/protocol/Status" "BROKER_ERROR" "Lcom/example/gongshu/gongshu/protocol/Status;" (.ref sa6) := Sta.start es6 (Or.inr ⟨hw _ (List.mem_of_getElem? (i := 2) rfl), hw _ (List.mem_of_getElem? (i := 22) rfl)⟩)
  have el6 : cv.slots[6]? = some (.ref sa6) := (elem_f eV (Term.int_eval (6)) hAf (by decide)).symm.trans (eqv_r es6 nr16)
  have F_code_sa6 : Fld s s.heap sa6 "com/example/gongshu/gongshu/protocol/Status" "code" "I" (.int (6 : Int32)) := Fld.start ((fld_at es6).symm.trans (eqv_i (Term.int_eval (6)) nr23))
  have A_av : Ar s s.heap av (.object "com/example/gongshu/gongshu/protocol/Status") 7 (own_sv sa0 sa1 sa2 sa3 sa4 sa5 sa6) := ⟨cv, AV, hsz, by decide, fun j hj => by
    match j, hj with
    | 0, _ => exact ⟨el0, rfl⟩
    | 1, _ => exact ⟨el1, rfl⟩
    | 2, _ => exact ⟨el2, rfl⟩
    | 3, _ => exact ⟨el3, rfl⟩
    | 4, _ => exact ⟨el4, rfl⟩
    | 5, _ => exact ⟨el5, rfl⟩
    | 6, _ => exact ⟨el6, rfl⟩
    | j + 7, hj => exact absurd hj (by omega)⟩
  obtain ⟨n, o, h1, h2, h3, _, L, rfl, ⟨hv0, N⟩, hq⟩ := rm0 l s _ hw tables_1 i0 i1 av sa0 sa1 sa2 sa3 sa4 sa5 sa6 s.heap s.heap.size (Nat.le_refl _) (Old.start s) S_vals A_av E_av S_s0 S_s1 S_s2 S_s3 S_s4 S_s5 S_s6 F_code_sa0 F_code_sa1 F_code_sa2 F_code_sa3 F_code_sa4 F_code_sa5 F_code_sa6 p e ha hc hk s m _ below hf ((Spec.applies_iff_loose hf).mp happ).1 ⟨rfl, State.Warmed39.refl s, rfl⟩ trivial
  subst hv0
  refine ⟨n, _, h1, h2, h3, hpost _ _ _ _ _ _ ⟨Cond.after_iff.mpr rfl, Cond.after_iff.mpr (eq_i res_at (Term.int_eval (1)) rfl), trivial⟩ ⟨hq.1, hq.2.1, (hq.2.2.sift fun y hy => Or.inr (N y hy)).mono (by decide) (by decide)⟩⟩
theorem main_1_1 : Claimed_1_1 := comes_1 fun _ _ _ _ _ _ h hF => ⟨h.1, hF⟩
theorem main_1_2 : Claimed_1_2 := comes_1 fun _ _ _ _ _ _ h hF => ⟨h.2.1, hF⟩
end Jvm.Pilot.@@N@@
namespace Jvm.Pilot.@@N@@
open Jvm Jvm.ClassFile Sem Op Lib Jvm.Free Jvm.Stand Jvm.Pilot.@@N@@.Jvm.D
/-! MADE BY PROGRAM (witnessworld.py) out of the Statement's table words and the real class files: 13 classes; the members and pool entries that the words name. The judged class is class 1, her method 2. -/
namespace start1
open Jvm.ClassFile
def u (s : String) : CpInfo := .utf8 (stringToUtf16 s)
/-- a pool by its gaps: so many unusable entries, then the entry; so many at the end -/
def gap : Nat → List CpInfo → List CpInfo
  | 0, r => r
  | n + 1, r => .unusable :: gap n r
def poolList (es : List (Nat × CpInfo)) (last : Nat) : List CpInfo := es.foldr (fun e r => gap e.1 (e.2 :: r)) (gap last [])
def pool (es : List (Nat × CpInfo)) (last : Nat) : Array CpInfo := ⟨poolList es last⟩
def fileOf (pool : Array CpInfo) (this : Nat) (attrs : Array Attribute := #[]) (ms : Array MethodInfo := #[]) (fl : Nat := 33) (sup : Nat := 0) (ifs : Array Nat := #[]) (fds : Array FieldInfo := #[]) : ClassFile where
  minorVersion := 0
  majorVersion := 65
  constantPool := pool
  accessFlags := fl
  thisClass := this
  superClass := sup
  interfaces := ifs
  fields := fds
  methods := ms
  attributes := attrs
def plain (name : String) (sup : Option ClassId) : Class where
  name := name
  kind := .ordinary
  loader := none
  accessFlags := 33
  super := sup
  interfaces := #[]
  cf := none
  fields := #[]
  methods := #[]
  instanceTypes := #[]
  staticTypes := #[]
  resolved := #[]
  callSites := []
  init := .initialized
  statics := none
  mirror := none

def pool0 : Array CpInfo := pool [(5, u "<init>"), (0, u "()V"), (1, .class_ 10), (1, u "java/lang/Object"), (85, u "clone"), (0, u "()Ljava/lang/Object;")] 26

def k0m0 : Method := { name := "<init>", desc := "()V", sig := { parameters := [], returnType := none }, accessFlags := 1, code := none }
def k0m1 : Method := { name := "clone", desc := "()Ljava/lang/Object;", sig := { parameters := [], returnType := some (.object "java/lang/Object") }, accessFlags := 260, code := none }
/-- java/lang/Object -/
def k0 : Class := { plain "java/lang/Object" none with
  accessFlags := 33
  interfaces := #[]
  cf := some (fileOf pool0 8 #[] #[{ accessFlags := 1, nameIndex := 5, descriptorIndex := 6, attributes := #[] }, { accessFlags := 260, nameIndex := 96, descriptorIndex := 97, attributes := #[] }] 33 0 #[] #[])
  fields := #[]
  methods := #[k0m0, k0m1]
  instanceTypes := #[]
  staticTypes := #[]
  resolved := Array.replicate 124 none
  statics := none }

def pool1 : Array CpInfo := pool [(2, .class_ 4), (1, u "java/lang/Object"), (0, u "<init>"), (0, u "()V"), (0, .fieldref 8 9), (0, .class_ 10), (0, .nameAndType 11 12), (0, u "com/example/gongshu/gongshu/protocol/Status"), (0, u "OK"), (0, u "Lcom/example/gongshu/gongshu/protocol/Status;"), (0, .fieldref 8 14), (0, .nameAndType 15 12), (0, u "BAD_REQUEST"), (0, .fieldref 8 17), (0, .nameAndType 18 12), (0, u "UNSUPPORTED_VERSION"), (0, .fieldref 8 20), (0, .nameAndType 21 12), (0, u "UNKNOWN_KIND"), (0, .fieldref 8 23), (0, .nameAndType 24 12), (0, u "NO_SUCH_TOPIC"), (0, .fieldref 8 26), (0, .nameAndType 27 12), (0, u "TOPIC_EXISTS"), (0, .fieldref 8 29), (0, .nameAndType 30 12), (0, u "BROKER_ERROR"), (0, .methodref 8 32), (0, .nameAndType 33 34), (0, u "of"), (0, u "(I)Lcom/example/gongshu/gongshu/protocol/Status;"), (0, .methodref 36 37), (0, .class_ 38), (0, .nameAndType 39 34), (0, u "com/example/gongshu/gongshu/protocol/StatusOfPinLaw"), (0, u "expected"), (3, u "law"), (0, u "(II)Z")] 2

def k1m0 : Method := { name := "<init>", desc := "()V", sig := { parameters := [], returnType := none }, accessFlags := 1, code := none }
def k1c1 : Code := { maxStack := 2, maxLocals := 1, code := method_2_code, exceptionTable := #[], attributes := #[] }
def k1m1 : Method := { name := "expected", desc := "(I)Lcom/example/gongshu/gongshu/protocol/Status;", sig := { parameters := [.int], returnType := some (.object "com/example/gongshu/gongshu/protocol/Status") }, accessFlags := 10, code := some k1c1 }
def k1c2 : Code := { maxStack := 2, maxLocals := 5, code := code, exceptionTable := #[], attributes := #[] }
def k1m2 : Method := { name := "law", desc := "(II)Z", sig := { parameters := [.int, .int], returnType := some .boolean }, accessFlags := 9, code := some k1c2 }
/-- com/example/gongshu/gongshu/protocol/StatusOfPinLaw -/
def k1 : Class := { plain "com/example/gongshu/gongshu/protocol/StatusOfPinLaw" (some 0) with
  accessFlags := 49
  interfaces := #[]
  cf := some (fileOf pool1 36 #[] #[{ accessFlags := 1, nameIndex := 5, descriptorIndex := 6, attributes := #[] }, { accessFlags := 10, nameIndex := 39, descriptorIndex := 34, attributes := #[] }, { accessFlags := 9, nameIndex := 43, descriptorIndex := 44, attributes := #[] }] 49 2 #[] #[])
  fields := #[]
  methods := #[k1m0, k1m1, k1m2]
  instanceTypes := #[]
  staticTypes := #[]
  resolved := Array.replicate 47 none
  statics := none }

def pool2 : Array CpInfo := pool [(1, .class_ 2), (0, u "java/lang/constant/Constable"), (0, .class_ 4), (0, u "java/lang/Object")] 6

/-- java/lang/constant/Constable -/
def k2 : Class := { plain "java/lang/constant/Constable" (some 0) with
  accessFlags := 1537
  interfaces := #[]
  cf := some (fileOf pool2 1 #[] #[] 1537 3 #[] #[])
  fields := #[]
  methods := #[]
  instanceTypes := #[]
  staticTypes := #[]
  resolved := Array.replicate 11 none
  statics := none }

def pool3 : Array CpInfo := pool [(1, .class_ 2), (0, u "java/lang/Comparable"), (0, .class_ 4), (0, u "java/lang/Object")] 7

/-- java/lang/Comparable -/
def k3 : Class := { plain "java/lang/Comparable" (some 0) with
  accessFlags := 1537
  interfaces := #[]
  cf := some (fileOf pool3 1 #[] #[] 1537 3 #[] #[])
  fields := #[]
  methods := #[]
  instanceTypes := #[]
  staticTypes := #[]
  resolved := Array.replicate 12 none
  statics := none }

def pool4 : Array CpInfo := pool [(1, .class_ 2), (0, u "java/io/Serializable"), (0, .class_ 4), (0, u "java/lang/Object")] 2

/-- java/io/Serializable -/
def k4 : Class := { plain "java/io/Serializable" (some 0) with
  accessFlags := 1537
  interfaces := #[]
  cf := some (fileOf pool4 1 #[] #[] 1537 3 #[] #[])
  fields := #[]
  methods := #[]
  instanceTypes := #[]
  staticTypes := #[]
  resolved := Array.replicate 7 none
  statics := none }

def pool5 : Array CpInfo := pool [(2, .class_ 4), (1, u "java/lang/Enum"), (0, u "name"), (0, u "Ljava/lang/String;"), (2, u "ordinal"), (0, u "I"), (1, .class_ 14), (1, u "java/lang/Object"), (4, u "hash"), (86, .class_ 108), (1, u "java/lang/Enum$EnumDesc"), (2, .class_ 112), (0, u "java/lang/constant/Constable"), (0, .class_ 114), (0, u "java/lang/Comparable"), (0, .class_ 116), (0, u "java/io/Serializable")] 87

/-- java/lang/Enum -/
def k5 : Class := { plain "java/lang/Enum" (some 0) with
  accessFlags := 1057
  interfaces := #[2, 3, 4]
  cf := some (fileOf pool5 2 #[.nestMembers #[106]] #[] 1057 12 #[111, 113, 115] #[{ accessFlags := 18, nameIndex := 5, descriptorIndex := 6, attributes := #[] }, { accessFlags := 18, nameIndex := 9, descriptorIndex := 10, attributes := #[] }, { accessFlags := 2, nameIndex := 19, descriptorIndex := 10, attributes := #[] }])
  fields := #[{ name := "name", type := (.object "java/lang/String"), accessFlags := 18, slot := 0, constantValue := 0 }, { name := "ordinal", type := .int, accessFlags := 18, slot := 1, constantValue := 0 }, { name := "hash", type := .int, accessFlags := 2, slot := 2, constantValue := 0 }]
  methods := #[]
  instanceTypes := #[(.object "java/lang/String"), .int, .int]
  staticTypes := #[]
  resolved := Array.replicate 204 none
  statics := none }

def pool6 : Array CpInfo := pool [(1, .class_ 2), (0, u "com/example/gongshu/gongshu/protocol/Status"), (2, u "OK"), (0, u "Lcom/example/gongshu/gongshu/protocol/Status;"), (2, u "BAD_REQUEST"), (2, u "UNSUPPORTED_VERSION"), (2, u "UNKNOWN_KIND"), (2, u "NO_SUCH_TOPIC"), (2, u "TOPIC_EXISTS"), (2, u "BROKER_ERROR"), (0, .fieldref 1 26), (0, .nameAndType 27 28), (0, u "$VALUES"), (0, u "[Lcom/example/gongshu/gongshu/protocol/Status;"), (0, .methodref 30 31), (0, .class_ 28), (0, .nameAndType 32 33), (0, u "clone"), (0, u "()Ljava/lang/Object;"), (1, .class_ 37), (1, u "java/lang/Enum"), (6, .fieldref 1 45), (0, .nameAndType 46 47), (0, u "code"), (0, u "I"), (2, u "refusal"), (0, u "Z"), (0, .methodref 1 53), (0, .nameAndType 54 55), (0, u "values"), (0, u "()[Lcom/example/gongshu/gongshu/protocol/Status;"), (21, u "of"), (0, u "(I)Lcom/example/gongshu/gongshu/protocol/Status;")] 6

def k6c0 : Code := { maxStack := 1, maxLocals := 0, code := prog_27_method_1_code, exceptionTable := #[], attributes := #[] }
def k6m0 : Method := { name := "values", desc := "()[Lcom/example/gongshu/gongshu/protocol/Status;", sig := { parameters := [], returnType := some (.array (.object "com/example/gongshu/gongshu/protocol/Status")) }, accessFlags := 9, code := some k6c0 }
def k6c1 : Code := { maxStack := 2, maxLocals := 5, code := prog_27_method_6_code, exceptionTable := #[], attributes := #[] }
def k6m1 : Method := { name := "of", desc := "(I)Lcom/example/gongshu/gongshu/protocol/Status;", sig := { parameters := [.int], returnType := some (.object "com/example/gongshu/gongshu/protocol/Status") }, accessFlags := 9, code := some k6c1 }
/-- com/example/gongshu/gongshu/protocol/Status -/
def k6 : Class := { plain "com/example/gongshu/gongshu/protocol/Status" (some 5) with
  accessFlags := 16433
  interfaces := #[]
  cf := some (fileOf pool6 1 #[] #[{ accessFlags := 9, nameIndex := 54, descriptorIndex := 55, attributes := #[] }, { accessFlags := 9, nameIndex := 77, descriptorIndex := 78, attributes := #[] }] 16433 35 #[] #[{ accessFlags := 16409, nameIndex := 5, descriptorIndex := 6, attributes := #[] }, { accessFlags := 16409, nameIndex := 9, descriptorIndex := 6, attributes := #[] }, { accessFlags := 16409, nameIndex := 12, descriptorIndex := 6, attributes := #[] }, { accessFlags := 16409, nameIndex := 15, descriptorIndex := 6, attributes := #[] }, { accessFlags := 16409, nameIndex := 18, descriptorIndex := 6, attributes := #[] }, { accessFlags := 16409, nameIndex := 21, descriptorIndex := 6, attributes := #[] }, { accessFlags := 16409, nameIndex := 24, descriptorIndex := 6, attributes := #[] }, { accessFlags := 18, nameIndex := 46, descriptorIndex := 47, attributes := #[] }, { accessFlags := 18, nameIndex := 50, descriptorIndex := 51, attributes := #[] }, { accessFlags := 4122, nameIndex := 27, descriptorIndex := 28, attributes := #[] }])
  fields := #[{ name := "OK", type := (.object "com/example/gongshu/gongshu/protocol/Status"), accessFlags := 16409, slot := 0, constantValue := 0 }, { name := "BAD_REQUEST", type := (.object "com/example/gongshu/gongshu/protocol/Status"), accessFlags := 16409, slot := 1, constantValue := 0 }, { name := "UNSUPPORTED_VERSION", type := (.object "com/example/gongshu/gongshu/protocol/Status"), accessFlags := 16409, slot := 2, constantValue := 0 }, { name := "UNKNOWN_KIND", type := (.object "com/example/gongshu/gongshu/protocol/Status"), accessFlags := 16409, slot := 3, constantValue := 0 }, { name := "NO_SUCH_TOPIC", type := (.object "com/example/gongshu/gongshu/protocol/Status"), accessFlags := 16409, slot := 4, constantValue := 0 }, { name := "TOPIC_EXISTS", type := (.object "com/example/gongshu/gongshu/protocol/Status"), accessFlags := 16409, slot := 5, constantValue := 0 }, { name := "BROKER_ERROR", type := (.object "com/example/gongshu/gongshu/protocol/Status"), accessFlags := 16409, slot := 6, constantValue := 0 }, { name := "code", type := .int, accessFlags := 18, slot := 3, constantValue := 0 }, { name := "refusal", type := .boolean, accessFlags := 18, slot := 4, constantValue := 0 }, { name := "$VALUES", type := (.array (.object "com/example/gongshu/gongshu/protocol/Status")), accessFlags := 4122, slot := 7, constantValue := 0 }]
  methods := #[k6m0, k6m1]
  instanceTypes := #[(.object "java/lang/String"), .int, .int, .int, .boolean]
  staticTypes := #[(.object "com/example/gongshu/gongshu/protocol/Status"), (.object "com/example/gongshu/gongshu/protocol/Status"), (.object "com/example/gongshu/gongshu/protocol/Status"), (.object "com/example/gongshu/gongshu/protocol/Status"), (.object "com/example/gongshu/gongshu/protocol/Status"), (.object "com/example/gongshu/gongshu/protocol/Status"), (.object "com/example/gongshu/gongshu/protocol/Status"), (.array (.object "com/example/gongshu/gongshu/protocol/Status"))]
  resolved := Array.replicate 85 none
  statics := some 0 }

def pool7 : Array CpInfo := pool [(1, .class_ 2), (0, u "java/lang/Cloneable"), (0, .class_ 4), (0, u "java/lang/Object")] 2

/-- java/lang/Cloneable -/
def k7 : Class := { plain "java/lang/Cloneable" (some 0) with
  accessFlags := 1537
  interfaces := #[]
  cf := some (fileOf pool7 1 #[] #[] 1537 3 #[] #[])
  fields := #[]
  methods := #[]
  instanceTypes := #[]
  staticTypes := #[]
  resolved := Array.replicate 7 none
  statics := none }

/-- the primitive byte -/
def k8 : Class := { plain "byte" none with kind := .primitive 'B', accessFlags := 0x411 }
/-- [B -/
def k9 : Class := { plain "[B" (some 0) with kind := .array 8 .byte, interfaces := #[7, 4], accessFlags := 1041 }

/-- the primitive int -/
def k10 : Class := { plain "int" none with kind := .primitive 'I', accessFlags := 0x411 }
/-- [I -/
def k11 : Class := { plain "[I" (some 0) with kind := .array 10 .int, interfaces := #[7, 4], accessFlags := 1041 }

/-- [Lcom/example/gongshu/gongshu/protocol/Status; -/
def k12 : Class := { plain "[Lcom/example/gongshu/gongshu/protocol/Status;" (some 0) with kind := .array 6 (.object "com/example/gongshu/gongshu/protocol/Status"), interfaces := #[7, 4], accessFlags := 1041 }

def heap : Heap := #[{ cls := 6, slots := #[.ref 2, .ref 3, .ref 4, .ref 5, .ref 6, .ref 7, .ref 8, .ref 1], vm := .statics 6 },
  { cls := 12, slots := #[.ref 2, .ref 3, .ref 4, .ref 5, .ref 6, .ref 7, .ref 8], vm := .none },
  { cls := 6, slots := #[.null, .int 0, .int 0, .int 0, .int 0], vm := .none },
  { cls := 6, slots := #[.null, .int 1, .int 0, .int 1, .int 0], vm := .none },
  { cls := 6, slots := #[.null, .int 2, .int 0, .int 2, .int 0], vm := .none },
  { cls := 6, slots := #[.null, .int 3, .int 0, .int 3, .int 0], vm := .none },
  { cls := 6, slots := #[.null, .int 4, .int 0, .int 4, .int 0], vm := .none },
  { cls := 6, slots := #[.null, .int 5, .int 0, .int 5, .int 0], vm := .none },
  { cls := 6, slots := #[.null, .int 6, .int 0, .int 6, .int 0], vm := .none }]
def classes : Array Class := #[k0, k1, k2, k3, k4, k5, k6, k7, k8, k9, k10, k11, k12]
def interned : List (Array UInt16 × Addr) := []
def slotsUsed : Nat := 50
def theMethod : MethodId := ⟨1, 2⟩
def args0 : Array Value := #[.int 5, .int 6]
def aboutOver (below : List Frame) : State where
  vm := { classes := classes, interned := interned.toArray }
  heap := heap
  slotsUsed := slotsUsed
  threads := #[{ frames := .invoking theMethod args0 :: below }]
def below0 : List Frame := [.native { method := ⟨0, 0⟩, args := #[] }]
def about1 : State := aboutOver below0
def p0 : Program := .bare "" "" ""
def e0 : Env := launch0.env 0 0 0
theorem w_frames : about1.frames = Frame.invoking theMethod args0 :: below0 := rfl
set_option maxRecDepth 65536 in
theorem w_args : argsFit about1.vm theMethod args0 = true := by decide +kernel
set_option maxRecDepth 65536 in
theorem w_heap : heapFits about1 = true := by decide +kernel
set_option maxRecDepth 65536 in
theorem w_runnable : about1.curStatus? = some .runnable := by decide +kernel
set_option maxRecDepth 65536 in
theorem w_alone : about1.alone = true := by decide +kernel
set_option maxRecDepth 65536 in
theorem w_named : about1.methodNamed? x = some theMethod := by decide +kernel
set_option maxRecDepth 65536 in
theorem w_hears : about1.hears theMethod below0 = true := by decide +kernel
set_option maxRecDepth 65536 in
theorem w_ripe : about1.ripe theMethod args0 below0 = true := by decide +kernel
theorem w_running : about1.status = .running := rfl
set_option maxRecDepth 65536 in
theorem w_room : about1.hasRoom e0.platform room_1 = true :=
  launch0.hasRoom_least _ room_1 (by decide +kernel) (by decide +kernel) (by decide +kernel) (by decide +kernel) (by decide +kernel) (by decide +kernel)
theorem allAtoms_all (ts : List Jvm.Cond) (a : Array Jvm.Value) (st : Jvm.State) : (allAtoms ts).before a st = ts.all (fun c => c.before a st) := by
  induction ts with
  | nil => rfl
  | cons c t ih =>
    show (Jvm.Cond.and c (allAtoms t)).before a st = _
    rw [Jvm.Cond.before_and, ih, List.all_cons]
def words1 : List Jvm.Cond := Jvm.Cond.code x code maxLocals ret :: tables_1
/-- a 'code' word, met by the world's own term for the bytes: nothing is compared byte by byte -/
theorem code_word {y : MethodName} {bytes : ByteArray} {mx : Nat} {rt : Option FieldType} {a : Array Value} {s : State} {m : MethodId} {meth : Method} {c : Code} (h1 : s.methodNamed? y = some m) (h2 : s.vm.method? m = some meth) (h3 : meth.code = some c) (h4 : c.code = bytes)
    (h5 : (c.maxLocals == mx && c.exceptionTable.isEmpty && decide (c.maxStack ≤ mostOperands) && decide (meth.sig.returnType = rt) && !meth.locks && decide (parseMethodDescriptor y.desc = some meth.sig)) = true) : (Jvm.Cond.code y bytes mx rt).before a s = true := by
  simp only [Bool.and_eq_true, beq_iff_eq, Bool.not_eq_true', decide_eq_true_eq] at h5
  obtain ⟨⟨⟨⟨⟨g1, g2⟩, g3⟩, g4⟩, g5⟩, g6⟩ := h5
  simp [Cond.before, Cond.holds, Cond.value, h1, h2, h3, h4, g1, g2, g3, g4, g5, g6]
def isCode : Jvm.Cond → Bool
  | .code _ _ _ _ => true
  | _ => false
theorem all_split {L : List Jvm.Cond} {P : Jvm.Cond → Bool} (h1 : L.all (fun c => isCode c || P c) = true) (h2 : ∀ c ∈ L.filter isCode, P c = true) : L.all P = true := by
  refine List.all_eq_true.mpr fun c hc => ?_
  have h := List.all_eq_true.mp h1 c hc
  rcases Bool.eq_false_or_eq_true (isCode c) with hi | hi
  · exact h2 c (List.mem_filter.mpr ⟨hc, hi⟩)
  · simpa [hi] using h
set_option maxRecDepth 65536 in
theorem w_c0 : (Jvm.Cond.code x code maxLocals ret).before args0 about1 = true := code_word (m := ⟨1, 2⟩) (meth := k1m2) (c := k1c2) (by decide +kernel) rfl rfl rfl (by decide +kernel)
set_option maxRecDepth 65536 in
theorem w_c1 : (Jvm.Cond.code ({ cls := "com/example/gongshu/gongshu/protocol/Status", name := "of", desc := "(I)Lcom/example/gongshu/gongshu/protocol/Status;" } : Jvm.MethodName) prog_27_method_6_code (5 : Nat) (Option.some (Jvm.ClassFile.FieldType.object "com/example/gongshu/gongshu/protocol/Status"))).before args0 about1 = true := code_word (m := ⟨6, 1⟩) (meth := k6m1) (c := k6c1) (by decide +kernel) rfl rfl rfl (by decide +kernel)
set_option maxRecDepth 65536 in
theorem w_c2 : (Jvm.Cond.code ({ cls := "com/example/gongshu/gongshu/protocol/Status", name := "values", desc := "()[Lcom/example/gongshu/gongshu/protocol/Status;" } : Jvm.MethodName) prog_27_method_1_code (0 : Nat) (Option.some (Jvm.ClassFile.FieldType.array (Jvm.ClassFile.FieldType.object "com/example/gongshu/gongshu/protocol/Status")))).before args0 about1 = true := code_word (m := ⟨6, 0⟩) (meth := k6m0) (c := k6c0) (by decide +kernel) rfl rfl rfl (by decide +kernel)
set_option maxRecDepth 65536 in
theorem w_c3 : (Jvm.Cond.code ({ cls := "com/example/gongshu/gongshu/protocol/StatusOfPinLaw", name := "expected", desc := "(I)Lcom/example/gongshu/gongshu/protocol/Status;" } : Jvm.MethodName) method_2_code (1 : Nat) (Option.some (Jvm.ClassFile.FieldType.object "com/example/gongshu/gongshu/protocol/Status"))).before args0 about1 = true := code_word (m := ⟨1, 1⟩) (meth := k1m1) (c := k1c1) (by decide +kernel) rfl rfl rfl (by decide +kernel)
def codes1 : List Jvm.Cond := [Jvm.Cond.code x code maxLocals ret, Jvm.Cond.code ({ cls := "com/example/gongshu/gongshu/protocol/Status", name := "of", desc := "(I)Lcom/example/gongshu/gongshu/protocol/Status;" } : Jvm.MethodName) prog_27_method_6_code (5 : Nat) (Option.some (Jvm.ClassFile.FieldType.object "com/example/gongshu/gongshu/protocol/Status")), Jvm.Cond.code ({ cls := "com/example/gongshu/gongshu/protocol/Status", name := "values", desc := "()[Lcom/example/gongshu/gongshu/protocol/Status;" } : Jvm.MethodName) prog_27_method_1_code (0 : Nat) (Option.some (Jvm.ClassFile.FieldType.array (Jvm.ClassFile.FieldType.object "com/example/gongshu/gongshu/protocol/Status"))), Jvm.Cond.code ({ cls := "com/example/gongshu/gongshu/protocol/StatusOfPinLaw", name := "expected", desc := "(I)Lcom/example/gongshu/gongshu/protocol/Status;" } : Jvm.MethodName) method_2_code (1 : Nat) (Option.some (Jvm.ClassFile.FieldType.object "com/example/gongshu/gongshu/protocol/Status"))]
set_option maxRecDepth 65536 in
theorem codes_eq : words1.filter isCode = codes1 := rfl
theorem w_codes : ∀ c ∈ words1.filter isCode, c.before args0 about1 = true := by
  rw [codes_eq]
  intro c hc
  simp only [codes1, List.mem_cons, List.not_mem_nil, or_false] at hc
  rcases hc with rfl | rfl | rfl | rfl
  · exact w_c0
  · exact w_c1
  · exact w_c2
  · exact w_c3
set_option maxRecDepth 65536 in
theorem w_t1 : (words1.take 24).all (fun c => isCode c || c.before args0 about1) = true := by decide +kernel
set_option maxRecDepth 65536 in
theorem w_t2 : (words1.drop 24).all (fun c => isCode c || c.before args0 about1) = true := by decide +kernel
theorem w_tables : (allAtoms (Jvm.Cond.code x code maxLocals ret :: tables_1)).before args0 about1 = true := by
  rw [allAtoms_all]
  show words1.all (fun c => c.before args0 about1) = true
  refine all_split ?_ w_codes
  rw [← List.take_append_drop 24 words1, List.all_append, w_t1, w_t2]
  rfl
set_option maxRecDepth 65536 in
theorem w_case : (Jvm.Cond.and given_1 narrow_1).before args0 about1 = true := by decide +kernel
theorem w_applies : (headSpec (Jvm.Cond.code x code maxLocals ret :: tables_1) room_1).applies x e0.platform about1 = true :=
  (Spec.applies_iff w_frames).mpr ⟨w_running, w_runnable, w_alone, w_named, w_hears, w_ripe, w_room, w_tables⟩
theorem atStart : AtStart classFile x code maxLocals ret World_1 tables_1 room_1 Calls_1 rest_1 Pre_1 launch0 p0 e0 about1 theMethod args0 below0 :=
  ⟨lists_1, trivial, launch0.admits_env _ _ _, launch0.least_env, fairChoices_fair.cas, fairChoices_fair.clock, w_frames, w_args, w_heap, w_applies, trivial, trivial, w_case⟩
end start1
theorem witness_1 : WitnessClaimed_1 := ⟨start1.p0, start1.e0, start1.about1, start1.theMethod, start1.args0, start1.below0, start1.atStart⟩
end Jvm.Pilot.@@N@@
