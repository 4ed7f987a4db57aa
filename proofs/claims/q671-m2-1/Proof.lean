import JvmDerived
import JvmDerived.Pilot.@@N@@Statement
import JvmDerived.Pilot.@@N@@Code
set_option linter.unusedVariables false
set_option linter.unusedSimpArgs false
namespace Jvm.Pilot.@@N@@.OwnKit
open Jvm Sem ClassFile Op Lib Jvm.Stand Jvm.Free Jvm.LawKit Jvm.RoadKit
section New
variable {p : Program} {l : Launch} {e : Env} {R : Room} {s : State} {m : MethodId} {args : Array Value} {below : List Frame} {meth : Method} {c : Code} {T : State} {locs : List Loc} {cells slots : Nat}
theorem retI (X : Stand p l e R s m args below meth c T locs cells slots) (hx : p.tables.exec = Jvm.exec) {pc : Nat} {Ls : Array Slot} {z : Int32} {rest : List Value} (hret : meth.sig.returnType = some .int) (hd : decode c.code pc = .ok (.ireturn, 1)) {fs : List Frame}
    (hl : ∀ (f : JFrame) (acts : List Action), f.method = m → f.locked = none → f.entered = [] → (doReturn e (T.setTop f) acts (some (.int z))).1 = T.setFrames fs) : Steps p.tables e below (T.setTop (mkF m pc Ls (.int z :: rest))) (T.setFrames fs) :=
  retOut X hx hret rfl (Or.inl ⟨rfl, Or.inl rfl, _, rfl⟩) hd hl
theorem lremM {g : JFrame} {target : State} (X : Stand p l e R s m args below meth c T locs cells slots) (hx : p.tables.exec = Jvm.exec) (hg : g.method = m) {x y : Int64} {rest : List Value} (hd : decode c.code g.pc = .ok (.lrem, 1)) (hs : g.stack = .long y :: .long x :: rest) (hy : y ≠ 0)
    (hr : Steps p.tables e below (T.setTop { g with pc := g.pc + 1, stack := .long (x % y) :: rest }) target) : Steps p.tables e below (T.setTop g) target := by
  have q : x - x / y * y = x % y := by
    have g1 := rng64 (x % y)
    have g2 : (x % y).toInt = x.toInt.tmod y.toInt := Int64.toInt_mod x y
    have g3 := Int.tmod_def x.toInt y.toInt
    have g4 : (x / y).toInt = (x.toInt.tdiv y.toInt).bmod (2 ^ 64) := Int64.toInt_div x y
    apply Int64.toInt_inj.mp
    rw [Int64.toInt_sub, Int64.toInt_mul, g4, Int.bmod_mul_bmod, Int.sub_bmod_bmod, Int.mul_comm (x.toInt.tdiv y.toInt), ← g3, ← g2]
    exact Int.bmod_eq_of_le_mul_two (by omega) (by omega)
  exact XS.lrem X.here hx hg hd hs hy (by rw [q]; exact hr)
end New
/-- from here the run ends, and as G says -/
def Goes (tb : Tables) (e : Env) (below : List Frame) (t : State) (G : State → Outcome → Prop) : Prop := ∃ s₂ o, Steps tb e below t s₂ ∧ s₂.status = .running ∧ Ended s₂ below o ∧ G s₂ o
variable {tb : Tables} {e : Env} {below : List Frame} {t t' : State} {G : State → Outcome → Prop}
theorem Goes.by (k : ∀ u, Steps tb e below t' u → Steps tb e below t u) (h : Goes tb e below t' G) : Goes tb e below t G := by
  obtain ⟨s₂, o, h1, h2⟩ := h; exact ⟨s₂, o, k _ h1, h2⟩
theorem Goes.via (k : Steps tb e below t t') (h : Goes tb e below t' G) : Goes tb e below t G := by
  obtain ⟨s₂, o, h1, h2⟩ := h; exact ⟨s₂, o, k.trans h1, h2⟩
theorem Goes.cut {α : Type} {K : α → State} {C : α → Prop} (h1 : (∀ x, C x → Goes tb e below (K x) G) → Goes tb e below t G) (h2 : ∀ x, C x → Goes tb e below (K x) G) : Goes tb e below t G := h1 h2
theorem Goes.loop {α : Type} (μ : α → Nat) {K : α → State} {C : α → Prop} (step : ∀ x, C x → (∀ y, μ y < μ x → C y → Goes tb e below (K y) G) → Goes tb e below (K x) G) : ∀ x, C x → Goes tb e below (K x) G := by
  intro x
  induction hn : μ x using Nat.strongRecOn generalizing x with
  | _ n ih => intro hC; exact step x hC (fun y hy hCy => ih (μ y) (hn ▸ hy) y rfl hCy)
theorem jl_t {x y : Int64} (h : x < y) : ifCond.holds .lt (lcmpW x y) = true ∧ ifCond.holds .ge (lcmpW x y) = false := ⟨(if0 _ _).trans (tlt ((lw_lt x y).mpr h)).1, (if0 _ _).trans (tlt ((lw_lt x y).mpr h)).2.1⟩
theorem jl_f {x y : Int64} (h : ¬ x < y) : ifCond.holds .lt (lcmpW x y) = false ∧ ifCond.holds .ge (lcmpW x y) = true := ⟨(if0 _ _).trans (flt (fun q => h ((lw_lt x y).mp q))).1, (if0 _ _).trans (flt (fun q => h ((lw_lt x y).mp q))).2.1⟩
theorem jg_t {x y : Int64} (h : y < x) : ifCond.holds .gt (lcmpW x y) = true ∧ ifCond.holds .le (lcmpW x y) = false := ⟨(if0 _ _).trans (tlt ((lw_gt x y).mpr h)).2.2.1, (if0 _ _).trans (tlt ((lw_gt x y).mpr h)).2.2.2⟩
theorem jg_f {x y : Int64} (h : ¬ y < x) : ifCond.holds .gt (lcmpW x y) = false ∧ ifCond.holds .le (lcmpW x y) = true := ⟨(if0 _ _).trans (flt (fun q => h ((lw_gt x y).mp q))).2.2.1, (if0 _ _).trans (flt (fun q => h ((lw_gt x y).mp q))).2.2.2⟩
theorem je_t {x y : Int64} (h : x = y) : ifCond.holds .eq (lcmpW x y) = true ∧ ifCond.holds .ne (lcmpW x y) = false := ⟨(if0 _ _).trans (teq ((lw_eq x y).mpr h)).1, (if0 _ _).trans (teq ((lw_eq x y).mpr h)).2⟩
theorem je_f {x y : Int64} (h : ¬ x = y) : ifCond.holds .eq (lcmpW x y) = false ∧ ifCond.holds .ne (lcmpW x y) = true := ⟨(if0 _ _).trans (feq (fun q => h ((lw_eq x y).mp q))).1, (if0 _ _).trans (feq (fun q => h ((lw_eq x y).mp q))).2⟩
theorem selP {Z s : State} {a0 args : Array Value} {y : MethodName} {n : Nat} (hZ : Z.Warmed39 s.vm) (wi : (Cond.instantiable y.cls n).before a0 Z = true) (wp : (Cond.privateMethod y).before a0 Z = true) (win : (Cond.instanceMethod y).before a0 Z = true) (hy : y.cls ≠ "java/lang/invoke/MethodHandle" ∧ y.cls ≠ "java/lang/invoke/VarHandle") : (Cond.selects y.cls y y).before args s = true := by
  have w1 : (Cond.instantiable y.cls n).before args s = true := mv hZ wi
  obtain ⟨c, k, h1, h2, -, h4, -⟩ := Cond.instantiable_spec w1
  rw [Bool.or_eq_false_iff] at h4
  exact selects_self_of_private h1 h2 h4.1 (Cond.privateMethod_at (mvP hZ wp (args := args))) (mv hZ win) hy
theorem catR {v : Value} (h : v.isRef = true) : v.category = 1 := by cases v <;> first | rfl | (cases h)
theorem narR {t : FieldType} {w : Value} (h : t.isReference = true) : narrow t w = w := by cases t <;> first | (cases h; done) | (cases w <;> rfl)
end Jvm.Pilot.@@N@@.OwnKit
namespace Jvm.Pilot.@@N@@.OwnKit
open Jvm Sem ClassFile Op Lib Jvm.Stand Jvm.Free Jvm.LawKit Jvm.RoadKit
/-- one place of a function turned -/
def up {α : Type} (f : Nat → α) (i : Nat) (v : α) : Nat → α := fun j => if j = i then v else f j
/-- an array of n places; place j holds f j -/
def Ar (Z : State) (h : Heap) (a : Addr) (ty : FieldType) (n : Nat) (f : Nat → Value) : Prop := ∃ c : Cell, Arr Z h a c ty ∧ c.slots.size = n ∧ n < 2 ^ 31 ∧ ∀ j, j < n → c.slots[j]? = some (f j) ∧ fits ty (f j) = true
def AI (Z : State) (h : Heap) (a : Addr) (ty : FieldType) (n : Nat) (f : Nat → Int32) : Prop := Ar Z h a ty n (fun j => .int (f j))
def AJ (Z : State) (h : Heap) (a : Addr) (n : Nat) (f : Nat → Int64) : Prop := Ar Z h a .long n (fun j => .long (f j))
section Facts
variable {Z : State} {h h' : Heap} {a b : Addr} {ty : FieldType} {n sl : Nat} {f : Nat → Value} {g : Nat → Int32} {k : Nat → Int64} {v : Value} {ws : List Addr}
theorem up_at {α : Type} (f : Nat → α) (i : Nat) (v : α) : up f i v i = v := if_pos rfl
theorem up_ne {α : Type} (f : Nat → α) {i j : Nat} (v : α) (q : j ≠ i) : up f i v j = f j := if_neg q
theorem Ar.lt (A : Ar Z h a ty n f) : a < h.size := by obtain ⟨c, A, -⟩ := A; exact A.lt
theorem Ar.ext (A : Ar Z h a ty n f) (E : Ext h h') : Ar Z h' a ty n f := by obtain ⟨c, A, r⟩ := A; exact ⟨c, A.ext E, r⟩
theorem Ar.other (A : Ar Z h b ty n f) (W : Wr h h' a sl v) (q : b ≠ a) : Ar Z h' b ty n f := by obtain ⟨c, A, r⟩ := A; exact ⟨c, A.other W q, r⟩
theorem Ar.keep (A : Ar Z h a ty n f) (K : Keep h h' ws) (q : a ∉ ws) : Ar Z h' a ty n f := by obtain ⟨c, A, r⟩ := A; exact ⟨c, ⟨K.2.1 a c A.1 q, A.2⟩, r⟩
theorem own_setSlot (c : Cell) (i : Nat) (v : Value) : (c.setSlot i v).slots = c.slots.setIfInBounds i v := rfl
theorem Ar.wr (A : Ar Z h a ty n f) (W : Wr h h' a sl v) (hf : fits ty v = true) : Ar Z h' a ty n (up f sl v) := by
  obtain ⟨c, A, S, M, G⟩ := A
  refine ⟨c.setSlot sl v, A.same W, by rw [sz_set]; exact S, M, fun j hj => ?_⟩
  by_cases q : j = sl
  · subst q; rw [up_at, own_setSlot, Array.getElem?_setIfInBounds_self_of_lt (by omega)]; exact ⟨rfl, hf⟩
  · rw [up_ne f v q, own_setSlot, Array.getElem?_setIfInBounds_ne (Ne.symm q)]; exact G j hj
theorem Ar.congr {f' : Nat → Value} (A : Ar Z h a ty n f) (q : ∀ j, j < n → f j = f' j) : Ar Z h a ty n f' := by
  obtain ⟨c, A, S, M, G⟩ := A; exact ⟨c, A, S, M, fun j hj => by rw [← q j hj]; exact G j hj⟩
theorem AI.lt (A : AI Z h a ty n g) : a < h.size := Ar.lt A
theorem AI.ext (A : AI Z h a ty n g) (E : Ext h h') : AI Z h' a ty n g := Ar.ext A E
theorem AI.other (A : AI Z h b ty n g) (W : Wr h h' a sl v) (q : b ≠ a) : AI Z h' b ty n g := Ar.other A W q
theorem AI.keep (A : AI Z h a ty n g) (K : Keep h h' ws) (q : a ∉ ws) : AI Z h' a ty n g := Ar.keep A K q
theorem AI.wr {x : Int32} (A : AI Z h a ty n g) (W : Wr h h' a sl (.int x)) (hf : fits ty (.int x) = true) : AI Z h' a ty n (up g sl x) :=
  (Ar.wr A W hf).congr fun j _ => by simp only [up]; split <;> rfl
theorem AI.congr {g' : Nat → Int32} (A : AI Z h a ty n g) (q : ∀ j, j < n → g j = g' j) : AI Z h a ty n g' := Ar.congr A fun j hj => by rw [q j hj]
theorem AJ.lt (A : AJ Z h a n k) : a < h.size := Ar.lt A
theorem AJ.ext (A : AJ Z h a n k) (E : Ext h h') : AJ Z h' a n k := Ar.ext A E
theorem AJ.other (A : AJ Z h b n k) (W : Wr h h' a sl v) (q : b ≠ a) : AJ Z h' b n k := Ar.other A W q
theorem AJ.keep (A : AJ Z h a n k) (K : Keep h h' ws) (q : a ∉ ws) : AJ Z h' a n k := Ar.keep A K q
theorem AJ.wr {x : Int64} (A : AJ Z h a n k) (W : Wr h h' a sl (.long x)) : AJ Z h' a n (up k sl x) :=
  (Ar.wr A W rfl).congr fun j _ => by simp only [up]; split <;> rfl
theorem AJ.congr {k' : Nat → Int64} (A : AJ Z h a n k) (q : ∀ j, j < n → k j = k' j) : AJ Z h a n k' := Ar.congr A fun j hj => by rw [q j hj]
theorem Ar.bound (A : Ar Z h a ty n f) : n < 2 ^ 31 := by obtain ⟨c, A, S, M, G⟩ := A; exact M
theorem eqv_r {Z : State} {args : Array Value} {X F : Term} {idx : List Nat} {y : Addr} (hF : F.eval args Z none idx Z = some (.ref y)) (h : (Cond.eq X F).value args Z none Z idx = some true) : X.eval args Z none idx Z = some (.ref y) := by
  obtain ⟨x, y', e1, e2, k1, k2⟩ := cmp_v (Or.inl h)
  cases hF.symm.trans e2
  exact e1.trans (congrArg some (gotT (eq_R e1 hF k2.2 rfl) h))
theorem own_lenA (t : Term) (args : Array Value) (first s : State) (o : Option Outcome) (idx : List Nat) : (Term.length t).eval args first o idx s = ((t.eval args first o idx s).bind fun v => match v with | .ref a => ((s.arrayAt? a).bind fun c => if c.slots.size < 2 ^ 31 then some (.int c.slots.size.toInt32) else none) | _ => none) := rfl
theorem own_sized {t : Term} {args : Array Value} {s : State} {a : Addr} {c : Cell} {z : Int32} {n : Nat} (ht : t.eval args s none [] s = some (.ref a)) (ha : s.arrayAt? a = some c) (h : (Term.length t).eval args s none [] s = some (.int z)) (hz : z.toInt = (n : Int)) : c.slots.size = n := by
  rw [own_lenA, ht, Option.bind_some] at h
  dsimp only at h
  rw [ha, Option.bind_some] at h
  by_cases q : c.slots.size < 2 ^ 31
  · rw [if_pos q] at h
    have e5 := Value.int.inj (Option.some.inj h)
    have e6 := len_toInt q
    rw [e5] at e6
    omega
  · rw [if_neg q] at h; cases h
theorem ixo {j : Int32} {i n : Nat} (hj : j.toInt = (i : Int)) (hi : i < n) : ¬ (j < 0 ∨ n ≤ j.toNatClampNeg) ∧ j.toNatClampNeg = i := by
  have e0 : (0 : Int32).toInt = 0 := rfl
  have q : j.toNatClampNeg = i := by rw [Int32.toNatClampNeg, hj]; rfl
  refine ⟨fun z => z.elim (fun u => ?_) fun u => ?_, q⟩
  · rw [Int32.lt_iff_toInt_lt] at u; omega
  · omega
theorem lenI {n : Nat} {z : Int32} (hz : z.toInt = (n : Int)) : n.toInt32 = z := by
  apply Int32.toInt_inj.mp
  have r := rng32 z
  rw [hz]; exact Int32.toInt_ofNat_of_lt (by omega)
theorem Ar.arv (A : Ar Z h a ty n f) : ∃ k, Arv Z h a k ty (Int32.ofNat n) ((List.range n).map f) (f 0) := by
  obtain ⟨c, A, S, M, G⟩ := A
  have e0 : (0 : Int32).toInt = 0 := rfl
  have hz : (Int32.ofNat n).toInt = (n : Int) := Int32.toInt_ofNat_of_lt (by omega)
  have hq : (Int32.ofNat n).toNatClampNeg = n := by rw [Int32.toNatClampNeg, hz]; rfl
  have hg : ∀ i, i < n → ((List.range n).map f).getD i (f 0) = f i := fun i hi => by
    rw [List.getD_eq_getElem?_getD, List.getElem?_map, List.getElem?_range hi]; rfl
  refine ⟨c.cls, c, A, rfl, by rw [hq]; exact S, by rw [Int32.lt_iff_toInt_lt, hz]; omega, fun i hi => ?_, fun i hi => ?_⟩
  · rw [hg i (by omega)]; exact (G i (by omega)).1
  · rw [hg i (by omega)]; exact (G i (by omega)).2
theorem Ar.of_arv {k : ClassId} {z : Int32} {vs : List Value} {d : Value} (A : Arv Z h a k ty z vs d) (hz : z.toInt = (n : Int)) : Ar Z h a ty n (fun j => vs.getD j d) := by
  obtain ⟨c, A, q, S, N, H, G⟩ := A
  have hq : z.toNatClampNeg = n := by rw [Int32.toNatClampNeg, hz]; rfl
  have r := rng32 z
  exact ⟨c, A, by rw [S, hq], by omega, fun j hj => ⟨H j (by omega), G j (by omega)⟩⟩
end Facts
section Steps
variable {p : Program} {l : Launch} {e : Env} {R : Room} {s : State} {m : MethodId} {args : Array Value} {below : List Frame} {meth : Method} {c : Code} {T : State} {locs : List Loc} {cells slots : Nat} {Z : State} {h : Heap} {a : Addr} {n i : Nat} {j : Int32} {rest : List Value} {fr : JFrame} {target : State}
theorem ldI {f : Nat → Int32} {v : Int32} (X : Stand p l e R s m args below meth c T locs cells slots) (hx : p.tables.exec = Jvm.exec) (hZ : Z.Warmed39 s.vm) (eT : T.heap = h) (A : AI Z h a .int n f) (hj : j.toInt = (i : Int)) (hi : i < n) (hv : v = f i) (hg : fr.method = m) (hs : fr.stack = .int j :: .ref a :: rest) (hd : decode c.code fr.pc = .ok (.iaload, 1))
    (hr : Steps p.tables e below (T.setTop { fr with pc := fr.pc + 1, stack := .int v :: rest }) target) : Steps p.tables e below (T.setTop fr) target := by
  obtain ⟨cl, A, S, M, G⟩ := A
  obtain ⟨q1, q2⟩ := ixo hj hi
  exact X.iaload hx (j := j) (v := .int v) (by rw [eT]; exact A.1) (State.isArrayOf_alike hZ.alike A.2.1) A.2.2 (by rw [S]; exact q1) (by rw [q2, hv]; exact (G i hi).1) hg hs hd _ hr
theorem ldB {f : Nat → Int32} {v : Int32} (X : Stand p l e R s m args below meth c T locs cells slots) (hx : p.tables.exec = Jvm.exec) (hZ : Z.Warmed39 s.vm) (eT : T.heap = h) (A : AI Z h a .byte n f) (hj : j.toInt = (i : Int)) (hi : i < n) (hv : v = f i) (hg : fr.method = m) (hs : fr.stack = .int j :: .ref a :: rest) (hd : decode c.code fr.pc = .ok (.baload, 1))
    (hr : Steps p.tables e below (T.setTop { fr with pc := fr.pc + 1, stack := .int v :: rest }) target) : Steps p.tables e below (T.setTop fr) target := by
  obtain ⟨cl, A, S, M, G⟩ := A
  obtain ⟨q1, q2⟩ := ixo hj hi
  exact X.baloadBytes hx (j := j) (v := .int v) (by rw [eT]; exact A.1) (State.isArrayOf_alike hZ.alike A.2.1) A.2.2 (by rw [S]; exact q1) (by rw [q2, hv]; exact (G i hi).1) hg hs hd _ hr
theorem ldJ {f : Nat → Int64} {v : Int64} (X : Stand p l e R s m args below meth c T locs cells slots) (hx : p.tables.exec = Jvm.exec) (hZ : Z.Warmed39 s.vm) (eT : T.heap = h) (A : AJ Z h a n f) (hj : j.toInt = (i : Int)) (hi : i < n) (hv : v = f i) (hg : fr.method = m) (hs : fr.stack = .int j :: .ref a :: rest) (hd : decode c.code fr.pc = .ok (.laload, 1))
    (hr : Steps p.tables e below (T.setTop { fr with pc := fr.pc + 1, stack := .long v :: rest }) target) : Steps p.tables e below (T.setTop fr) target := by
  obtain ⟨cl, A, S, M, G⟩ := A
  obtain ⟨q1, q2⟩ := ixo hj hi
  exact X.laload hx (j := j) (v := .long v) (by rw [eT]; exact A.1) (State.isArrayOf_alike hZ.alike A.2.1) A.2.2 (by rw [S]; exact q1) (by rw [q2, hv]; exact (G i hi).1) hg hs hd _ hr
theorem ldR {ty : FieldType} {f : Nat → Value} {v : Value} (X : Stand p l e R s m args below meth c T locs cells slots) (hx : p.tables.exec = Jvm.exec) (hZ : Z.Warmed39 s.vm) (eT : T.heap = h) (A : Ar Z h a ty n f) (hty : ty.isReference = true) (hj : j.toInt = (i : Int)) (hi : i < n) (hv : v = f i) (hg : fr.method = m) (hs : fr.stack = .int j :: .ref a :: rest) (hd : decode c.code fr.pc = .ok (.aaload, 1))
    (hr : Steps p.tables e below (T.setTop { fr with pc := fr.pc + 1, stack := v :: rest }) target) : Steps p.tables e below (T.setTop fr) target := by
  obtain ⟨cl, A, S, M, G⟩ := A
  obtain ⟨q1, q2⟩ := ixo hj hi
  exact X.aaload hx (j := j) (v := v) (by rw [eT]; exact A.1) (State.isArrayOf_alike hZ.alike A.2.1) hty A.2.2 (by rw [S]; exact q1) (by rw [q2, hv]; exact (G i hi).1) hg hs hd _ hr
/-- an array's clone -/
theorem cloneAr {a0 : Array Value} {own ad : String} {index : Nat} {ty : FieldType} {f : Nat → Value} {W cap : Nat} (X : Stand p l e R s m args below meth c T locs cells slots) (hx : p.tables.exec = Jvm.exec) (hZ : Z.Warmed39 s.vm) (hown : s.vm.findClass own = some m.cls)
    (w1 : (Cond.methodLink own index ⟨ad, "clone", "()Ljava/lang/Object;"⟩).before a0 Z = true) (w2 : (Cond.sameMethod ad "java/lang/Object" "clone" "()Ljava/lang/Object;").before a0 Z = true) (w3 : (Cond.native ⟨"java/lang/Object", "clone", "()Ljava/lang/Object;"⟩).before a0 Z = true)
    (w4 : (Cond.instanceMethod ⟨"java/lang/Object", "clone", "()Ljava/lang/Object;"⟩).before a0 Z = true) (w5 : (Cond.selects ad ⟨ad, "clone", "()Ljava/lang/Object;"⟩ ⟨"java/lang/Object", "clone", "()Ljava/lang/Object;"⟩).before a0 Z = true) (w6 : (Cond.castable ad "java/lang/Cloneable").before a0 Z = true)
    (eT : T.heap = h) (A : Ar Z h a ty n f) (E : Exa Z h a ad) (hg : fr.method = m) (hsize : fr.locals.size = c.maxLocals) (hs : fr.stack = .ref a :: rest) (hd : decode c.code fr.pc = .ok (.invokevirtual index, 3))
    (hf : 1 ≤ R.frames) (hW : 2 * fr.monitorRoom + (rest.map fun v => v.category).sum ≤ W) (hl : W + 14 ≤ R.locals) (hcap : n ≤ cap) (hc : cells + 1 ≤ R.cells) (hsl : slots + cap ≤ R.slots) :
    ∃ T' h', Stand p l e R s m args below meth c T' locs (cells + 1) (slots + cap) ∧ T'.heap = h' ∧ Ext h h' ∧ Ar Z h' h.size ty n f ∧ Exa Z h' h.size ad ∧
      ∀ target, Steps p.tables e below (T'.setTop { fr with pc := fr.pc + 3, stack := .ref h.size :: rest }) target → Steps p.tables e below (T.setTop fr) target := by
  obtain ⟨cl, A, S, M, G⟩ := A
  have FC : FitC Z cl := fitC_of A fun i hi v hv => by
    have q := G i (by omega)
    rw [q.1] at hv; cases hv; exact q.2
  obtain ⟨T', h', X', e', ex, A', E', st⟩ := cloneA X hx hZ hown w1 w2 w3 w4 w5 w6 eT A E FC hg hsize hs hd hf hW hl (by omega) hc hsl
  exact ⟨T', h', X', e', ex, ⟨cloneOf cl, A', S, M, G⟩, E', st⟩
theorem alen {ty : FieldType} {f : Nat → Value} {z : Int32} (X : Stand p l e R s m args below meth c T locs cells slots) (hx : p.tables.exec = Jvm.exec) (hZ : Z.Warmed39 s.vm) (eT : T.heap = h) (A : Ar Z h a ty n f) (hz : z.toInt = (n : Int)) (hg : fr.method = m) (hs : fr.stack = .ref a :: rest) (hd : decode c.code fr.pc = .ok (.arraylength, 1))
    (hr : Steps p.tables e below (T.setTop { fr with pc := fr.pc + 1, stack := .int z :: rest }) target) : Steps p.tables e below (T.setTop fr) target := by
  obtain ⟨cl, A, S, M, G⟩ := A
  exact X.arraylength hx (by rw [eT]; exact A.1) (State.isArrayOf_alike hZ.alike A.2.1) hg hs hd _ (by rw [S, lenI hz]; exact hr)
theorem stAI {f : Nat → Int32} {x : Int32} (X : Stand p l e R s m args below meth c T locs cells slots) (hx : p.tables.exec = Jvm.exec) (hZ : Z.Warmed39 s.vm) (eT : T.heap = h) (A : AI Z h a .int n f) (hj : j.toInt = (i : Int)) (hi : i < n) (hg : fr.method = m) (hs : fr.stack = .int x :: .int j :: .ref a :: rest) (hd : decode c.code fr.pc = .ok (.iastore, 1)) :
    ∃ T' h', Stand p l e R s m args below meth c T' (locs ++ [⟨a, i⟩]) cells slots ∧ T'.heap = h' ∧ Wr h h' a i (.int x) ∧ AI Z h' a .int n (up f i x) ∧ ∀ target, Steps p.tables e below (T'.setTop { fr with pc := fr.pc + 1, stack := rest }) target → Steps p.tables e below (T.setTop fr) target := by
  have A0 := A
  obtain ⟨cl, A, S, M, G⟩ := A
  obtain ⟨q1, q2⟩ := ixo hj hi
  obtain ⟨T', h', X', e', W', st⟩ := stI X hx hZ eT A (j := j) (by rw [S]; exact q1) hg hs hd
  rw [q2] at X' W'
  exact ⟨T', h', X', e', W', A0.wr W' rfl, st⟩
theorem stAB {f : Nat → Int32} {x : Int32} (X : Stand p l e R s m args below meth c T locs cells slots) (hx : p.tables.exec = Jvm.exec) (hZ : Z.Warmed39 s.vm) (eT : T.heap = h) (A : AI Z h a .byte n f) (hj : j.toInt = (i : Int)) (hi : i < n) (hg : fr.method = m) (hs : fr.stack = .int x :: .int j :: .ref a :: rest) (hd : decode c.code fr.pc = .ok (.bastore, 1)) :
    ∃ T' h', Stand p l e R s m args below meth c T' (locs ++ [⟨a, i⟩]) cells slots ∧ T'.heap = h' ∧ Wr h h' a i (.int x.toInt8.toInt32) ∧ AI Z h' a .byte n (up f i x.toInt8.toInt32) ∧ ∀ target, Steps p.tables e below (T'.setTop { fr with pc := fr.pc + 1, stack := rest }) target → Steps p.tables e below (T.setTop fr) target := by
  have A0 := A
  obtain ⟨cl, A, S, M, G⟩ := A
  obtain ⟨q1, q2⟩ := ixo hj hi
  obtain ⟨T', h', X', e', W', st⟩ := stB X hx hZ eT A (j := j) (by rw [S]; exact q1) hg hs hd
  rw [q2] at X' W'
  exact ⟨T', h', X', e', W', A0.wr W' (fits_nar_byte x), st⟩
theorem stAC {f : Nat → Int32} {x : Int32} (X : Stand p l e R s m args below meth c T locs cells slots) (hx : p.tables.exec = Jvm.exec) (hZ : Z.Warmed39 s.vm) (eT : T.heap = h) (A : AI Z h a .char n f) (hj : j.toInt = (i : Int)) (hi : i < n) (hg : fr.method = m) (hs : fr.stack = .int x :: .int j :: .ref a :: rest) (hd : decode c.code fr.pc = .ok (.castore, 1)) :
    ∃ T' h', Stand p l e R s m args below meth c T' (locs ++ [⟨a, i⟩]) cells slots ∧ T'.heap = h' ∧ Wr h h' a i (.int (nar .char x)) ∧ AI Z h' a .char n (up f i (nar .char x)) ∧ ∀ target, Steps p.tables e below (T'.setTop { fr with pc := fr.pc + 1, stack := rest }) target → Steps p.tables e below (T.setTop fr) target := by
  have A0 := A
  obtain ⟨cl, A, S, M, G⟩ := A
  obtain ⟨q1, q2⟩ := ixo hj hi
  obtain ⟨T', h', X', e', W', st⟩ := stC X hx hZ eT A (j := j) (by rw [S]; exact q1) hg hs hd
  rw [q2] at X' W'
  exact ⟨T', h', X', e', W', A0.wr W' (fits_nar_char x), st⟩
theorem stAJ {f : Nat → Int64} {x : Int64} (X : Stand p l e R s m args below meth c T locs cells slots) (hx : p.tables.exec = Jvm.exec) (hZ : Z.Warmed39 s.vm) (eT : T.heap = h) (A : AJ Z h a n f) (hj : j.toInt = (i : Int)) (hi : i < n) (hg : fr.method = m) (hs : fr.stack = .long x :: .int j :: .ref a :: rest) (hd : decode c.code fr.pc = .ok (.lastore, 1)) :
    ∃ T' h', Stand p l e R s m args below meth c T' (locs ++ [⟨a, i⟩]) cells slots ∧ T'.heap = h' ∧ Wr h h' a i (.long x) ∧ AJ Z h' a n (up f i x) ∧ ∀ target, Steps p.tables e below (T'.setTop { fr with pc := fr.pc + 1, stack := rest }) target → Steps p.tables e below (T.setTop fr) target := by
  have A0 := A
  obtain ⟨cl, A, S, M, G⟩ := A
  obtain ⟨q1, q2⟩ := ixo hj hi
  obtain ⟨T', h', X', e', W', st⟩ := stJ X hx hZ eT A (j := j) (by rw [S]; exact q1) hg hs hd
  rw [q2] at X' W'
  exact ⟨T', h', X', e', W', A0.wr W', st⟩
theorem nwA {a0 : Array Value} {aty : ArrayType} {z : Int32} {cap : Nat} (X : Stand p l e R s m args below meth c T locs cells slots) (hx : p.tables.exec = Jvm.exec) (hZ : Z.Warmed39 s.vm) (w : (Cond.arrayClass (newarray.typeOf aty)).before a0 Z = true) (eT : T.heap = h) (hz : z.toInt = (n : Int)) (hcap : n ≤ cap) (hb : cap * 8 ≤ 536870912) (hc : cells + 1 ≤ R.cells) (hl : slots + cap ≤ R.slots) (hg : fr.method = m) (hs : fr.stack = .int z :: rest) (hd : decode c.code fr.pc = .ok (.newarray aty, 2)) :
    ∃ T' h', Stand p l e R s m args below meth c T' locs (cells + 1) (slots + cap) ∧ T'.heap = h' ∧ Ext h h' ∧ Ar Z h' h.size (newarray.typeOf aty) n (fun _ => defaultValue (newarray.typeOf aty)) ∧ ∀ target, Steps p.tables e below (T'.setTop { fr with pc := fr.pc + 2, stack := .ref h.size :: rest }) target → Steps p.tables e below (T.setTop fr) target := by
  have e0 : (0 : Int32).toInt = 0 := rfl
  have q : z.toNatClampNeg = n := by rw [Int32.toNatClampNeg, hz]; rfl
  have qn : ¬ z < 0 := by rw [Int32.lt_iff_toInt_lt]; omega
  have r := rng32 z
  obtain ⟨T', h', cA, X', e', E', A', st⟩ := newP X hx hZ w eT hg hd hs qn (cap := cap) (by omega) hb hc hl
  refine ⟨T', h', X', e', E', ⟨_, A', by rw [sz_new, q], by omega, fun i hi => ⟨?_, by cases aty <;> rfl⟩⟩, st⟩
  simp [newA, q, hi]
/-- System.arraycopy of the first k places -/
theorem cpAr {a0 : Array Value} {own : String} {index : Nat} {b : Addr} {ty : FieldType} {n1 n2 k : Nat} {f1 f2 : Nat → Value} {nn : Int32} {n0 W : Nat} (X : Stand p l e R s m args below meth c T locs cells slots) (hx : p.tables.exec = Jvm.exec) (hZ : Z.Warmed39 s.vm) (hown : s.vm.findClass own = some m.cls)
    (w1 : (Cond.methodLink own index Jvm.Stand.acN).before a0 Z = true) (w2 : (Cond.native Jvm.Stand.acN).before a0 Z = true) (w3 : (Cond.static Jvm.Stand.acN).before a0 Z = true) (w4 : (Cond.initialized "java/lang/System").before a0 Z = true) (eT : T.heap = h)
    (A : Ar Z h a ty n1 f1) (B : Ar Z h b ty n2 f2) (hty : refKind ty = false) (hk : nn.toInt = (k : Int)) (h4 : k ≤ n1) (h5 : k ≤ n2) (N : Fr n0 locs) (ge : n0 ≤ b)
    (hg : fr.method = m) (hsize : fr.locals.size = c.maxLocals) (hs : fr.stack = .int nn :: .int 0 :: .ref b :: .int 0 :: .ref a :: rest) (hd : decode c.code fr.pc = .ok (.invokestatic index, 3))
    (hf : 1 ≤ R.frames) (hW : 2 * fr.monitorRoom + (rest.map fun v => v.category).sum ≤ W) (hlo : W + (nativeFrameWords "java/lang/System" "arraycopy" 5 + 11) ≤ R.locals) :
    ∃ T' h' L, Stand p l e R s m args below meth c T' L cells slots ∧ T'.heap = h' ∧ Fr n0 L ∧ Keep h h' [b] ∧ Ar Z h' b ty n2 (fun j => if j < k then f1 j else f2 j) ∧
      ∀ target, Steps p.tables e below (T'.setTop { fr with pc := fr.pc + 3, stack := rest }) target → Steps p.tables e below (T.setTop fr) target := by
  obtain ⟨ka, A'⟩ := A.arv
  obtain ⟨kb, B'⟩ := B.arv
  have m1 := A.bound
  have m2 := B.bound
  have e0 : (0 : Int32).toInt = 0 := rfl
  have z0 : (0 : Int32).toNatClampNeg = 0 := rfl
  have hkk : nn.toNatClampNeg = k := by rw [Int32.toNatClampNeg, hk]; rfl
  have q1 : (Int32.ofNat n1).toInt = (n1 : Int) := Int32.toInt_ofNat_of_lt (by omega)
  have q2 : (Int32.ofNat n2).toInt = (n2 : Int) := Int32.toInt_ofNat_of_lt (by omega)
  have p1 : (Int32.ofNat n1).toNatClampNeg = n1 := by rw [Int32.toNatClampNeg, q1]; rfl
  have p2 : (Int32.ofNat n2).toNatClampNeg = n2 := by rw [Int32.toNatClampNeg, q2]; rfl
  obtain ⟨T', h', L', X', e', N', K', B2, st⟩ := cpA X hx hZ hown w1 w2 w3 w4 eT A' B' (Or.inl ⟨rfl, hty⟩) (sp := 0) (dp := 0) (nn := nn) (by decide) (by decide) (by rw [Int32.lt_iff_toInt_lt]; omega) (by rw [z0, hkk, p1]; omega) (by rw [z0, hkk, p2]; omega) rfl (by rw [z0, hkk, List.length_map, List.length_range]; omega) N ge hg hsize hs hd hf hW hlo
  refine ⟨T', h', L', X', e', N', K', (Ar.of_arv B2 q2).congr fun j hj => ?_, st⟩
  simp only [z0, hkk, List.take_zero, List.nil_append, Nat.zero_add, List.getD_eq_getElem?_getD]
  by_cases c1 : j < k
  · rw [if_pos c1, List.getElem?_append_left (by simpa using c1)]
    simp [c1, show j < n1 by omega]
  · rw [if_neg c1, List.getElem?_append_right (by simpa using c1)]
    simp [show k + (j - k) = j by omega, hj]
end Steps
end Jvm.Pilot.@@N@@.OwnKit
namespace Jvm.Pilot.@@N@@.OwnKit
open Jvm Sem ClassFile Op Lib Jvm.Stand Jvm.Free Jvm.LawKit Jvm.RoadKit Jvm.Free.Fl
section Quot
open Jvm.FP.Core
theorem own_pw (q r : Int) : (q - r).toNat + ((-q).toNat + r.toNat) = (-(q - r)).toNat + (q.toNat + (-r).toNat) := by omega
/-- the quotient of two whole numbers is rounded by the ratio of their magnitudes -/
theorem own_ratio {f : Fmt} {s t sg : Bool} {c d : Nat} {q r i j : Int} (hx : Whole i (.fin s c q)) (hy : Whole j (.fin t d r)) (hj : j ≠ 0) :
    roundRatio f sg c d (q - r) = roundRatio f sg i.natAbs j.natAbs 0 := by
  have h1 := whole_natAbs hx
  have h2 := whole_natAbs hy
  have hd : 0 < d := by have := whole_zero hy; omega
  refine roundRatio_congr hd (by omega) ?_
  have e1 : (q - r - 0).toNat = (q - r).toNat := by omega
  have e2 : (0 - (q - r)).toNat = (-(q - r)).toNat := by omega
  rw [e1, e2]
  have pp : 0 < 2 ^ q.toNat * 2 ^ (-r).toNat := Nat.mul_pos (Nat.two_pow_pos _) (Nat.two_pow_pos _)
  apply Nat.eq_of_mul_eq_mul_right pp
  have ex : 2 ^ (q - r).toNat * (2 ^ (-q).toNat * 2 ^ r.toNat) = 2 ^ (-(q - r)).toNat * (2 ^ q.toNat * 2 ^ (-r).toNat) := by
    rw [← Nat.pow_add, ← Nat.pow_add, ← Nat.pow_add, ← Nat.pow_add, own_pw]
  calc c * j.natAbs * 2 ^ (q - r).toNat * (2 ^ q.toNat * 2 ^ (-r).toNat)
      = (c * 2 ^ q.toNat) * (j.natAbs * 2 ^ (-r).toNat) * 2 ^ (q - r).toNat := by ac_rfl
    _ = (i.natAbs * 2 ^ (-q).toNat) * (d * 2 ^ r.toNat) * 2 ^ (q - r).toNat := by rw [h1, h2]
    _ = i.natAbs * d * (2 ^ (q - r).toNat * (2 ^ (-q).toNat * 2 ^ r.toNat)) := by ac_rfl
    _ = i.natAbs * d * (2 ^ (-(q - r)).toNat * (2 ^ q.toNat * 2 ^ (-r).toNat)) := by rw [ex]
    _ = i.natAbs * d * 2 ^ (-(q - r)).toNat * (2 ^ q.toNat * 2 ^ (-r).toNat) := by ac_rfl
theorem own_val {a b : Int64} (ha : Small53 a) (hb : Small53 b) (zb : b ≠ 0) :
    val64 (ddiv (l2d a) (l2d b)) = roundRatio b64 (decide (a.toInt < 0) != decide (b.toInt < 0)) a.toInt.natAbs b.toInt.natAbs 0 := by
  have wa := l2d_whole ha
  have wb := l2d_whole hb
  obtain ⟨c, q, ea⟩ := l2d_shape a
  obtain ⟨d, r, eb⟩ := l2d_shape b
  rw [val64_ddiv, ea, eb]
  rw [ea] at wa
  rw [eb] at wb
  have hj := int64_ne zb
  have hd : d ≠ 0 := fun h => hj ((whole_zero wb).mp h)
  show (if d = 0 then _ else roundRatio b64 _ c d (q - r)) = _
  rw [if_neg hd, own_ratio wa wb hj]
theorem own_sgn {i j i' j' : Int} (hi : i ≠ 0) (hj : j ≠ 0) (hj' : j' ≠ 0) (h : i * j' = i' * j) : (decide (i < 0) != decide (j < 0)) = (decide (i' < 0) != decide (j' < 0)) := by
  have hi' : i' ≠ 0 := fun q => by
    rw [q, Int.zero_mul] at h
    rcases Int.mul_eq_zero.mp h with h | h
    · exact hi h
    · exact hj' h
  have key : ∀ x : Int, x ≠ 0 → (x < 0 ∧ x.sign = -1) ∨ (¬ x < 0 ∧ x.sign = 1) := fun x hx => by
    by_cases q : x < 0
    · exact Or.inl ⟨q, Int.sign_eq_neg_one_of_neg q⟩
    · exact Or.inr ⟨q, Int.sign_eq_one_of_pos (by omega)⟩
  have hs := congrArg Int.sign h
  rw [Int.sign_mul, Int.sign_mul] at hs
  rcases key i hi with ⟨a1, a2⟩ | ⟨a1, a2⟩ <;> rcases key j hj with ⟨b1, b2⟩ | ⟨b1, b2⟩ <;> rcases key i' hi' with ⟨c1, c2⟩ | ⟨c1, c2⟩ <;> rcases key j' hj' with ⟨d1, d2⟩ | ⟨d1, d2⟩ <;> rw [a2, b2, c2, d2] at hs <;> first | (exfalso; revert hs; decide) | simp [a1, b1, c1, d1]
/-- two quotients of whole numbers that are one ratio compare as equal -/
theorem own_same {a b a' b' : Int64} (ha : Small53 a) (hb : Small53 b) (zb : b ≠ 0) (ha' : Small53 a') (hb' : Small53 b') (zb' : b' ≠ 0) (h : a.toInt * b'.toInt = a'.toInt * b.toInt) :
    dcmp (ddiv (l2d a) (l2d b)) (ddiv (l2d a') (l2d b')) = some .eq := by
  have v1 := own_val ha hb zb
  have v2 := own_val ha' hb' zb'
  show order (val64 _) (val64 _) = _
  rw [v1, v2]
  have hj := int64_ne zb
  have hj' := int64_ne zb'
  by_cases z : a.toInt = 0
  · have z' : a'.toInt = 0 := by
      rw [z, Int.zero_mul] at h
      rcases Int.mul_eq_zero.mp h.symm with h | h
      · exact h
      · exact absurd h hj
    rw [z, z']
    generalize (decide ((0 : Int) < 0) != decide (b.toInt < 0)) = s
    generalize (decide ((0 : Int) < 0) != decide (b'.toInt < 0)) = t
    show order (if (0 : Int).natAbs = 0 then _ else _) (if (0 : Int).natAbs = 0 then _ else _) = _
    rw [if_pos (show (0 : Int).natAbs = 0 from rfl), if_pos (show (0 : Int).natAbs = 0 from rfl)]
    cases s <;> cases t <;> decide +kernel
  · rw [own_sgn z hj hj' h]
    have e : roundRatio b64 (decide (a'.toInt < 0) != decide (b'.toInt < 0)) a.toInt.natAbs b.toInt.natAbs 0 = roundRatio b64 (decide (a'.toInt < 0) != decide (b'.toInt < 0)) a'.toInt.natAbs b'.toInt.natAbs 0 := by
      refine roundRatio_congr (by omega) (by omega) ?_
      have := congrArg Int.natAbs h
      rw [Int.natAbs_mul, Int.natAbs_mul] at this
      show a.toInt.natAbs * b'.toInt.natAbs * 1 = a'.toInt.natAbs * b.toInt.natAbs * 1
      rw [this]
    rw [e]
    have hn := roundRatio_ne_nan b64 (decide (a'.toInt < 0) != decide (b'.toInt < 0)) a'.toInt.natAbs b'.toInt.natAbs 0
    generalize roundRatio b64 (decide (a'.toInt < 0) != decide (b'.toInt < 0)) a'.toInt.natAbs b'.toInt.natAbs 0 = d at hn
    cases d with
    | nan => exact absurd rfl hn
    | inf s => cases s <;> rfl
    | fin s c q =>
      show some (compare _ _) = _
      rw [Option.some.injEq, compare_ite, if_neg (by omega), if_pos rfl]
end Quot
theorem own_sameF {a b a' b' : Int64} (ha : FP.Core.Small53 a) (hb : FP.Core.Small53 b) (zb : b ≠ 0) (ha' : FP.Core.Small53 a') (hb' : FP.Core.Small53 b') (zb' : b' ≠ 0) (h : a.toInt * b'.toInt = a'.toInt * b.toInt) : FP.dcmp (FP.ddiv (FP.l2d a) (FP.l2d b)) (FP.ddiv (FP.l2d a') (FP.l2d b')) = some .eq := own_same ha hb zb ha' hb' zb' h
theorem own_nn {a b : Int64} (zb : b ≠ 0) : NoNaN64 (FP.ddiv (FP.l2d a) (FP.l2d b)) := ddiv_out (l2d_fin a).noNaN (l2d_fin b) (l2d_nz zb)
def own_ten : List Int64 := [1, 10, 100, 1000, 10000, 100000, 1000000, 10000000, 100000000, 1000000000]
def own_p10 (k : Int32) : Int64 := own_ten.getD k.toInt.toNat 0
theorem own_f1 : ∀ d ∈ ([1, 3, 5, 7] : List Int32), ∀ j : Fin 8, ∀ k : Fin 10, (d.toInt64 * ((1 : Int64) <<< (Int32.ofNat j.val &&& 0x3f).toInt64) * own_p10 (Int32.ofNat k.val)).toInt = d.toInt * (2 ^ j.val : Nat) * (10 ^ k.val : Nat) ∧ 0 < d.toInt * (2 ^ j.val : Nat) * (10 ^ k.val : Nat) ∧ d.toInt * (2 ^ j.val : Nat) * (10 ^ k.val : Nat) ≤ 896000000000 := by decide +kernel
theorem own_f2 : ∀ j : Fin 8, ((1 : Int64) <<< (Int32.ofNat j.val &&& 0x3f).toInt64).toInt = (2 ^ j.val : Nat) ∧ 0 < (2 ^ j.val : Nat) ∧ (2 ^ j.val : Nat) ≤ 128 := by decide +kernel
theorem own_f3 : ∀ k : Fin 10, (own_p10 (9 - Int32.ofNat k.val)).toInt = (10 ^ (9 - k.val) : Nat) ∧ (10 ^ k.val : Nat) * (10 ^ (9 - k.val) : Nat) = 1000000000 ∧ (10 ^ (9 - k.val) : Nat) ≤ 1000000000 := by decide +kernel
theorem own_f4 : ∀ d ∈ ([1, 3, 5, 7] : List Int32), 1 ≤ d.toInt ∧ d.toInt ≤ 7 := by decide
theorem own_k1 : (4741671816366391296 : UInt64) = FP.l2d 1000000000 := by decide +kernel
theorem own_k2 : -1000000000 ≤ (1000000000 : Int64).toInt ∧ (1000000000 : Int64).toInt ≤ 1000000000 ∧ ¬ (1000000000 : Int64) < 0 ∧ ¬ (1000000000 : Int64) = 0 := by decide +kernel
theorem own_k3 : (1000000000 : Int64).toInt = 1000000000 := by decide +kernel
theorem own_nat {k : Int32} {n : Nat} (h : 0 ≤ k.toInt ∧ k.toInt < n) (hn : n ≤ 100) : ∃ m : Fin n, k = Int32.ofNat m.val := by
  refine ⟨⟨k.toInt.toNat, by omega⟩, ?_⟩
  apply Int32.toInt_inj.mp
  show k.toInt = (Int32.ofNat k.toInt.toNat).toInt
  rw [Int32.toInt_ofNat_of_lt (by omega)]
  omega
theorem own_bd {x y : Int} {A B : Nat} (hx : x.natAbs ≤ A) (hy : y.natAbs ≤ B) : (x * y).natAbs ≤ A * B := by rw [Int.natAbs_mul]; exact Nat.mul_le_mul hx hy
theorem own_all {q : Int64} {d j k n : Int32} {c m na nu nv : Int64} (hq : -262144 < q.toInt ∧ q.toInt < 262144) (hd : d ∈ ([1, 3, 5, 7] : List Int32)) (hj : 0 ≤ j.toInt ∧ j.toInt < 8) (hk : 0 ≤ k.toInt ∧ k.toInt < 10)
    (hc : c = q * d.toInt64) (hm : m = d.toInt64 * ((1 : Int64) <<< (j &&& 0x3f).toInt64) * own_p10 k) (hna : na = if n = 0 then m else -m) (hnu : nu = q * own_p10 (9 - k)) (hnv : nv = if n = 0 then nu else -nu) :
    FP.dmul (FP.l2d c) 4741671816366391296 = FP.l2d (c * 1000000000) ∧ na ≠ 0 ∧ ((1 : Int64) <<< (j &&& 0x3f).toInt64) ≠ 0 ∧ FP.dcmp (FP.ddiv (FP.l2d (c * 1000000000)) (FP.l2d na)) (FP.ddiv (FP.l2d nv) (FP.l2d ((1 : Int64) <<< (j &&& 0x3f).toInt64))) = some .eq := by
  obtain ⟨jn, rfl⟩ := own_nat (n := 8) hj (by decide)
  obtain ⟨kn, rfl⟩ := own_nat (n := 10) hk (by decide)
  obtain ⟨m1, m2, m3⟩ := own_f1 d hd jn kn
  obtain ⟨j1, j2, j3⟩ := own_f2 jn
  obtain ⟨p1, p2, p3⟩ := own_f3 kn
  obtain ⟨d1, d2⟩ := own_f4 d hd
  rw [← hm] at m1
  generalize (1 : Int64) <<< (Int32.ofNat jn.val &&& 0x3f).toInt64 = J at *
  generalize own_p10 (9 - Int32.ofNat kn.val) = P' at *
  generalize (10 ^ kn.val : Nat) = A at *
  generalize (10 ^ (9 - kn.val) : Nat) = B at *
  generalize (2 ^ jn.val : Nat) = E at *
  have bq : q.toInt.natAbs ≤ 262144 := by omega
  have bd : d.toInt64.toInt.natAbs ≤ 7 := by rw [Int32.toInt_toInt64]; omega
  have b1 := own_bd bq bd
  have c1 : c.toInt = q.toInt * d.toInt := by
    rw [hc, FP.Core.int64_mul (by omega) (by omega), Int32.toInt_toInt64]
  have b2 : c.toInt.natAbs ≤ 262144 * 7 := by rw [c1, ← Int32.toInt_toInt64]; exact b1
  have c2 : (c * 1000000000).toInt = c.toInt * 1000000000 := by
    rw [FP.Core.int64_mul (by rw [own_k3]; omega) (by rw [own_k3]; omega), own_k3]
  have b3 := own_bd bq (show P'.toInt.natAbs ≤ 1000000000 by omega)
  have n1 : nu.toInt = q.toInt * (B : Int) := by
    rw [hnu, FP.Core.int64_mul (by omega) (by omega), p1]
  have b4 : nu.toInt.natAbs ≤ 262144 * 1000000000 := by rw [n1, ← p1]; exact b3
  have nv1 : nv.toInt = if n = 0 then q.toInt * (B : Int) else -(q.toInt * (B : Int)) := by
    rw [hnv]
    by_cases hn : n = 0
    · rw [if_pos hn, if_pos hn, n1]
    · rw [if_neg hn, if_neg hn, FP.Core.int64_neg (by omega), n1]
  have na1 : na.toInt = if n = 0 then d.toInt * (E : Int) * (A : Int) else -(d.toInt * (E : Int) * (A : Int)) := by
    rw [hna]
    by_cases hn : n = 0
    · rw [if_pos hn, if_pos hn, m1]
    · rw [if_neg hn, if_neg hn, FP.Core.int64_neg (by omega), m1]
  have hAB : (1000000000 : Int) = (A : Int) * (B : Int) := by rw [← Int.natCast_mul, p2]; rfl
  have zna : na ≠ 0 := fun h => by
    rw [h] at na1
    have e0 : (0 : Int64).toInt = 0 := rfl
    rw [e0] at na1
    by_cases hn : n = 0
    · rw [if_pos hn] at na1; omega
    · rw [if_neg hn] at na1; omega
  have zJ : J ≠ 0 := fun h => by
    rw [h] at j1
    have e0 : (0 : Int64).toInt = 0 := rfl
    omega
  refine ⟨?_, zna, zJ, ?_⟩
  · rw [own_k1]
    exact dmul_k (A := 262144 * 7) (B := 1000000000) (by omega) (by omega) own_k2.1 own_k2.2.1 (by omega) (by omega) (by omega) (fun h => own_k2.2.2.1 h.2) (fun h => own_k2.2.2.2 h.1)
  · have s1 : FP.Core.Small53 (c * 1000000000) := by unfold FP.Core.Small53; rw [c2]; omega
    have s4 : FP.Core.Small53 J := by unfold FP.Core.Small53; omega
    refine own_sameF s1 ?_ zna ?_ s4 zJ ?_
    · unfold FP.Core.Small53
      by_cases hn : n = 0
      · rw [if_pos hn] at na1; omega
      · rw [if_neg hn] at na1; omega
    · unfold FP.Core.Small53
      by_cases hn : n = 0
      · rw [if_pos hn, ← n1] at nv1; omega
      · rw [if_neg hn, ← n1] at nv1; omega
    · rw [c2, c1, j1, hAB]
      by_cases hn : n = 0
      · rw [nv1, na1, if_pos hn, if_pos hn]; ac_rfl
      · rw [nv1, na1, if_neg hn, if_neg hn, Int.neg_mul_neg]; ac_rfl
end Jvm.Pilot.@@N@@.OwnKit
namespace Jvm.Pilot.@@N@@
open Jvm Jvm.ClassFile Sem Op Lib Jvm.Free Jvm.Stand Jvm.LawKit Jvm.RoadKit Bundle Jvm.Pilot.@@N@@.Jvm.D Jvm.Pilot.@@N@@.OwnKit
theorem d3_0 : decode jdk_30_method_1_code 0 = .ok (.aload_n 0, 1) := by decide +kernel
theorem d3_1 : decode jdk_30_method_1_code 1 = .ok (.invokespecial 1, 3) := by decide +kernel
theorem d3_4 : decode jdk_30_method_1_code 4 = .ok (.return_, 1) := by decide +kernel
theorem pn_0 : plainName "java/lang/Record" = true := by first | (simp [plainName, overriddenIn]; done) | decide +kernel
theorem ef3 (m : MethodId) (oa : Addr) : entryFrame m #[(.ref oa)] 1 = mkF m 0 #[.val (.ref oa)] [] := by first | (simp [entryFrame, mkF, argsToLocals, Value.category]; done) | rfl
def Q3 (Z : State) (oa : Addr) (h0 : Heap) (n0 : Nat) (v : Option Value) (h : Heap) (L : List Loc) : Prop := v = none ∧ Fr n0 L ∧ h = h0
set_option maxRecDepth 65536 in
set_option maxHeartbeats 40000000 in
theorem rm3 (l : Launch) (Z : State) (a0 : Array Value) (hw : ∀ d ∈ tables_1, d.before a0 Z = true) (ws : List Jvm.Cond) (oa : Addr) (h0 : Heap) (n0 : Nat) (Z0 : n0 ≤ h0.size) :
    MetFree l (⟨"java/lang/Record", "<init>", "()V"⟩ : MethodName) (head1 (Jvm.Cond.code (⟨"java/lang/Record", "<init>", "()V"⟩ : MethodName) jdk_30_method_1_code 1 none :: ws) ({ frames := 1, cells := 0, slots := 0, locals := 12 } : Room)) (fun a U => a = #[(.ref oa)] ∧ Z.Warmed39 U.vm ∧ U.heap = h0) (fun _ _ _ _ _ => True) (fun _ U o U' => ∃ v L, o = .returned v ∧ Q3 Z oa h0 n0 v U'.heap L ∧ FrameEnd U o U' L ({ frames := 1, cells := 0, slots := 0, locals := 12 } : Room).cells ({ frames := 1, cells := 0, slots := 0, locals := 12 } : Room).slots) := by
  refine MetFree.of_bodySF (plainFor_of_name pn_0) hisR ?_
  intro p e s m args below meth c s₁ Bd hml0 hP hK
  obtain ⟨rfl, hZ, hh⟩ := hP
  have hx := Bd.exec
  have hby := Bd.bytes
  have hml : c.maxLocals = 1 := hml0
  have hown : s.vm.findClass "java/lang/Record" = some m.cls := findClass_of_methodNamed Bd.named
  have hnm := (name_of_methodNamed Bd.named Bd.method).1
  have X0 : Stand p l e ({ frames := 1, cells := 0, slots := 0, locals := 12 } : Room) s m #[(.ref oa)] below meth c s₁ [] 0 0 := Stand.of_body Bd
  have e0 : s₁.heap = h0 := by rw [← hh, Bd.state]; rfl
  have N0 := Fr.nil n0
  refine Goes.by (fun _ k => castTop (ef3 m oa) k) ?_
  show Goes p.tables e below (s₁.setTop (mkF m 0 #[.val (.ref oa)] [])) _
  refine Goes.by (fun _ k => XS.aloadN X0.here hx rfl (hb hby d3_0) rfl rfl k) ?_
  show Goes p.tables e below (s₁.setTop (mkF m 1 #[.val (.ref oa)] [(.ref oa)])) _
  obtain ⟨T1, X1, e1, st1⟩ := initO X0 hx hZ hown (hw _ (List.mem_of_getElem? (i := 27) rfl)) (hw _ (List.mem_of_getElem? (i := 28) rfl)) (hw _ (List.mem_of_getElem? (i := 29) rfl)) e0 (g := (mkF m 1 #[.val (.ref oa)] [(.ref oa)])) rfl (by rw [hml]; rfl) rfl (hb hby d3_1) (by decide) (W := 0) (by show 2 * 0 + _ ≤ _; exact Nat.le_of_eq rfl) (by decide)
  refine Goes.by st1 ?_
  show Goes p.tables e below (T1.setTop (mkF m 4 #[.val (.ref oa)] [])) _
  obtain ⟨fs, hr, hrun, hended, hW, hsame⟩ := X1.leave (v := none) (fun _ => rfl)
  refine ⟨_, _, X1.returnOut hx Bd.returns (hb hby d3_4) hr, hrun, hended, _, _, rfl, ?_, ⟨_, rfl⟩, hW, hsame.mono (by decide) (by decide)⟩
  show Q3 Z oa h0 n0 _ T1.heap _
  rw [e1]
  exact ⟨rfl, N0, rfl⟩
theorem d2_0 : decode prog_6_method_1_code 0 = .ok (.aload_n 0, 1) := by decide +kernel
theorem d2_1 : decode prog_6_method_1_code 1 = .ok (.invokespecial 1, 3) := by decide +kernel
theorem pd_0 : parseMethodDescriptor "()V" = some ⟨[], none⟩ := by decide +kernel
theorem d2_4 : decode prog_6_method_1_code 4 = .ok (.aload_n 0, 1) := by decide +kernel
theorem d2_5 : decode prog_6_method_1_code 5 = .ok (.lload_n 1, 1) := by decide +kernel
theorem d2_6 : decode prog_6_method_1_code 6 = .ok (.putfield 7, 3) := by decide +kernel
theorem d2_9 : decode prog_6_method_1_code 9 = .ok (.aload_n 0, 1) := by decide +kernel
theorem d2_10 : decode prog_6_method_1_code 10 = .ok (.lload_n 3, 1) := by decide +kernel
theorem d2_11 : decode prog_6_method_1_code 11 = .ok (.putfield 13, 3) := by decide +kernel
theorem d2_14 : decode prog_6_method_1_code 14 = .ok (.return_, 1) := by decide +kernel
theorem pn_1 : plainName "com/example/firm_quote/firmquote/bench/Rate" = true := by first | (simp [plainName, overriddenIn]; done) | decide +kernel
theorem ef2 (m : MethodId) (oa : Addr) (pcn : Int64) (pna : Int64) : entryFrame m #[(.ref oa), (.long pcn), (.long pna)] 5 = mkF m 0 #[.val (.ref oa), .val (.long pcn), .second, .val (.long pna), .second] [] := by first | (simp [entryFrame, mkF, argsToLocals, Value.category]; done) | rfl
def Q2 (Z : State) (oa : Addr) (pcn : Int64) (pna : Int64) (h0 : Heap) (n0 : Nat) (v : Option Value) (h : Heap) (L : List Loc) : Prop := v = none ∧ Fr n0 L ∧ Keep h0 h [oa] ∧ Exa Z h oa "com/example/firm_quote/firmquote/bench/Rate" ∧ Fld Z h oa "com/example/firm_quote/firmquote/bench/Rate" "count" "J" (.long pcn) ∧ Fld Z h oa "com/example/firm_quote/firmquote/bench/Rate" "nanos" "J" (.long pna)
set_option maxRecDepth 65536 in
set_option maxHeartbeats 40000000 in
theorem rm2 (l : Launch) (Z : State) (a0 : Array Value) (hw : ∀ d ∈ tables_1, d.before a0 Z = true) (ws : List Jvm.Cond) (oa : Addr) (pcn : Int64) (pna : Int64) (h0 : Heap) (n0 : Nat) (Z0 : n0 ≤ h0.size) (E_oa : Exa Z h0 oa "com/example/firm_quote/firmquote/bench/Rate") (F_oa_count : Fld Z h0 oa "com/example/firm_quote/firmquote/bench/Rate" "count" "J" (.long (0 : Int64))) (F_oa_nanos : Fld Z h0 oa "com/example/firm_quote/firmquote/bench/Rate" "nanos" "J" (.long (0 : Int64))) (g_oa : n0 ≤ oa) :
    MetFree l (⟨"com/example/firm_quote/firmquote/bench/Rate", "<init>", "(JJ)V"⟩ : MethodName) (head1 (Jvm.Cond.code (⟨"com/example/firm_quote/firmquote/bench/Rate", "<init>", "(JJ)V"⟩ : MethodName) prog_6_method_1_code 5 none :: ws) ({ frames := 2, cells := 0, slots := 0, locals := 24 } : Room)) (fun a U => a = #[(.ref oa), (.long pcn), (.long pna)] ∧ Z.Warmed39 U.vm ∧ U.heap = h0) (fun _ _ _ _ _ => True) (fun _ U o U' => ∃ v L, o = .returned v ∧ Q2 Z oa pcn pna h0 n0 v U'.heap L ∧ FrameEnd U o U' L ({ frames := 2, cells := 0, slots := 0, locals := 24 } : Room).cells ({ frames := 2, cells := 0, slots := 0, locals := 24 } : Room).slots) := by
  refine MetFree.of_bodySF (plainFor_of_name pn_1) hisR ?_
  intro p e s m args below meth c s₁ Bd hml0 hP hK
  obtain ⟨rfl, hZ, hh⟩ := hP
  have hx := Bd.exec
  have hby := Bd.bytes
  have hml : c.maxLocals = 5 := hml0
  have hown : s.vm.findClass "com/example/firm_quote/firmquote/bench/Rate" = some m.cls := findClass_of_methodNamed Bd.named
  have hnm := (name_of_methodNamed Bd.named Bd.method).1
  have X0 : Stand p l e ({ frames := 2, cells := 0, slots := 0, locals := 24 } : Room) s m #[(.ref oa), (.long pcn), (.long pna)] below meth c s₁ [] 0 0 := Stand.of_body Bd
  have e0 : s₁.heap = h0 := by rw [← hh, Bd.state]; rfl
  have N0 := Fr.nil n0
  refine Goes.by (fun _ k => castTop (ef2 m oa pcn pna) k) ?_
  show Goes p.tables e below (s₁.setTop (mkF m 0 #[.val (.ref oa), .val (.long pcn), .second, .val (.long pna), .second] [])) _
  refine Goes.by (fun _ k => XS.aloadN X0.here hx rfl (hb hby d2_0) rfl rfl k) ?_
  show Goes p.tables e below (s₁.setTop (mkF m 1 #[.val (.ref oa), .val (.long pcn), .second, .val (.long pna), .second] [(.ref oa)])) _
  obtain ⟨_, _, ⟨T1, L1, k1, n1⟩, -, X1, ⟨Lc1, hQ1, l1, y1, z1⟩, st1⟩ := X0.specialBack hx (y := (⟨"java/lang/Record", "<init>", "()V"⟩ : MethodName)) rfl hown (mvT hZ (hw _ (List.mem_of_getElem? (i := 22) rfl))) (mvT hZ (hw _ (List.mem_of_getElem? (i := 23) rfl))) (mvT hZ (hw _ (List.mem_of_getElem? (i := 26) rfl))) (by decide) (backOf (W := 0) (rm3 l Z a0 hw [] oa h0 n0 Z0) hZ (hw _ (List.mem_of_getElem? (i := 26) rfl)) (hw _ (List.mem_of_getElem? (i := 25) rfl)) (by decide) (by decide)) (g := (mkF m 1 #[.val (.ref oa), .val (.long pcn), .second, .val (.long pna), .second] [(.ref oa)])) rfl (by rw [hml]; rfl) (Steps.refl _) (a := oa) (argsL := []) (rest := []) (lenOf pd_0 rfl) rfl (by show 2 * 0 + _ ≤ _; exact Nat.le_of_eq rfl) (hb hby d2_1) (fun _ _ => ⟨rfl, e0, (by decide : 0 + 0 ≤ _), (by decide : 0 + 0 ≤ _)⟩)
  dsimp only [Pt.U, Pt.locs, Pt.cells, Pt.slots] at X1 l1 y1 z1 st1 hQ1
  rw [l1, y1, z1] at X1
  obtain ⟨rfl, N1q, e1⟩ := hQ1
  have N1 := Fr.app N0 N1q
  refine Goes.via st1 ?_
  show Goes p.tables e below (T1.setTop (mkF m 4 #[.val (.ref oa), .val (.long pcn), .second, .val (.long pna), .second] [])) _
  refine Goes.by (fun _ k => XS.aloadN X1.here hx rfl (hb hby d2_4) rfl rfl k) ?_
  show Goes p.tables e below (T1.setTop (mkF m 5 #[.val (.ref oa), .val (.long pcn), .second, .val (.long pna), .second] [(.ref oa)])) _
  refine Goes.by (fun _ k => XS.lloadN X1.here hx rfl (hb hby d2_5) rfl k) ?_
  show Goes p.tables e below (T1.setTop (mkF m 6 #[.val (.ref oa), .val (.long pcn), .second, .val (.long pna), .second] [(.long pcn), (.ref oa)])) _
  obtain ⟨T2, h2, X2, e2, W2, st2⟩ := putF X1 hx hZ hown (host := "") (Or.inl (hw _ (List.mem_of_getElem? (i := 30) rfl))) Via.refl e1 F_oa_count E_oa (Or.inr ⟨(hw _ (List.mem_of_getElem? (i := 31) rfl)), rfl, hnm⟩) (hw _ (List.mem_of_getElem? (i := 17) rfl)) (ty := .long) (by decide) rfl rfl (g := (mkF m 6 #[.val (.ref oa), .val (.long pcn), .second, .val (.long pna), .second] [(.long pcn), (.ref oa)])) rfl rfl (hb hby d2_6)
  refine Goes.by st2 ?_
  have F_oa_count : Fld Z h2 oa "com/example/firm_quote/firmquote/bench/Rate" "count" "J" (.long pcn) := F_oa_count.same W2
  have N2 := Fr.snoc X2 N1 g_oa
  have Zs2 : n0 ≤ h2.size := Nat.le_trans Z0 (Keep.of_wr W2).1
  have K2 : Keep h0 h2 [oa] := (Keep.refl h0 [oa]).wr W2 (Or.inl (List.mem_of_getElem? (i := 0) rfl))
  have E_oa : Exa Z h2 oa "com/example/firm_quote/firmquote/bench/Rate" := E_oa.wr W2
  have F_oa_nanos : Fld Z h2 oa "com/example/firm_quote/firmquote/bench/Rate" "nanos" "J" (.long (0 : Int64)) := F_oa_nanos.other W2 (Or.inr (slot_ne (Or.inr (hw _ (List.mem_of_getElem? (i := 33) rfl))) (Or.inr (hw _ (List.mem_of_getElem? (i := 31) rfl))) (by decide) (t := .long) (t' := .long) (by decide) (by decide)))
  show Goes p.tables e below (T2.setTop (mkF m 9 #[.val (.ref oa), .val (.long pcn), .second, .val (.long pna), .second] [])) _
  refine Goes.by (fun _ k => XS.aloadN X2.here hx rfl (hb hby d2_9) rfl rfl k) ?_
  show Goes p.tables e below (T2.setTop (mkF m 10 #[.val (.ref oa), .val (.long pcn), .second, .val (.long pna), .second] [(.ref oa)])) _
  refine Goes.by (fun _ k => XS.lloadN X2.here hx rfl (hb hby d2_10) rfl k) ?_
  show Goes p.tables e below (T2.setTop (mkF m 11 #[.val (.ref oa), .val (.long pcn), .second, .val (.long pna), .second] [(.long pna), (.ref oa)])) _
  obtain ⟨T3, h3, X3, e3, W3, st3⟩ := putF X2 hx hZ hown (host := "") (Or.inl (hw _ (List.mem_of_getElem? (i := 32) rfl))) Via.refl e2 F_oa_nanos E_oa (Or.inr ⟨(hw _ (List.mem_of_getElem? (i := 33) rfl)), rfl, hnm⟩) (hw _ (List.mem_of_getElem? (i := 17) rfl)) (ty := .long) (by decide) rfl rfl (g := (mkF m 11 #[.val (.ref oa), .val (.long pcn), .second, .val (.long pna), .second] [(.long pna), (.ref oa)])) rfl rfl (hb hby d2_11)
  refine Goes.by st3 ?_
  have F_oa_nanos : Fld Z h3 oa "com/example/firm_quote/firmquote/bench/Rate" "nanos" "J" (.long pna) := F_oa_nanos.same W3
  have N3 := Fr.snoc X3 N2 g_oa
  have Zs3 : n0 ≤ h3.size := Nat.le_trans Zs2 (Keep.of_wr W3).1
  have K3 : Keep h0 h3 [oa] := K2.wr W3 (Or.inl (List.mem_of_getElem? (i := 0) rfl))
  have E_oa : Exa Z h3 oa "com/example/firm_quote/firmquote/bench/Rate" := E_oa.wr W3
  have F_oa_count : Fld Z h3 oa "com/example/firm_quote/firmquote/bench/Rate" "count" "J" (.long pcn) := F_oa_count.other W3 (Or.inr (slot_ne (Or.inr (hw _ (List.mem_of_getElem? (i := 31) rfl))) (Or.inr (hw _ (List.mem_of_getElem? (i := 33) rfl))) (by decide) (t := .long) (t' := .long) (by decide) (by decide)))
  show Goes p.tables e below (T3.setTop (mkF m 14 #[.val (.ref oa), .val (.long pcn), .second, .val (.long pna), .second] [])) _
  obtain ⟨fs, hr, hrun, hended, hW, hsame⟩ := X3.leave (v := none) (fun _ => rfl)
  refine ⟨_, _, X3.returnOut hx Bd.returns (hb hby d2_14) hr, hrun, hended, _, _, rfl, ?_, ⟨_, rfl⟩, hW, hsame.mono (by decide) (by decide)⟩
  show Q2 Z oa pcn pna h0 n0 _ T3.heap _
  rw [e3]
  exact ⟨rfl, N3, K3, E_oa, F_oa_count, F_oa_nanos⟩
theorem d5_0 : decode prog_6_method_2_code 0 = .ok (.aload_n 0, 1) := by decide +kernel
theorem d5_1 : decode prog_6_method_2_code 1 = .ok (.getfield 7, 3) := by decide +kernel
theorem d5_4 : decode prog_6_method_2_code 4 = .ok (.l2d, 1) := by decide +kernel
theorem d5_5 : decode prog_6_method_2_code 5 = .ok (.ldc2_w 16, 3) := by decide +kernel
theorem d5_8 : decode prog_6_method_2_code 8 = .ok (.dmul, 1) := by decide +kernel
theorem d5_9 : decode prog_6_method_2_code 9 = .ok (.aload_n 0, 1) := by decide +kernel
theorem d5_10 : decode prog_6_method_2_code 10 = .ok (.getfield 13, 3) := by decide +kernel
theorem d5_13 : decode prog_6_method_2_code 13 = .ok (.l2d, 1) := by decide +kernel
theorem d5_14 : decode prog_6_method_2_code 14 = .ok (.ddiv, 1) := by decide +kernel
theorem d5_15 : decode prog_6_method_2_code 15 = .ok (.dreturn, 1) := by decide +kernel
theorem ef5 (m : MethodId) (oa : Addr) : entryFrame m #[(.ref oa)] 1 = mkF m 0 #[.val (.ref oa)] [] := by first | (simp [entryFrame, mkF, argsToLocals, Value.category]; done) | rfl
def Q5 (Z : State) (oa : Addr) (uc : Int64) (un : Int64) (h0 : Heap) (n0 : Nat) (v : Option Value) (h : Heap) (L : List Loc) : Prop := v = some (.double (FP.ddiv (FP.dmul (FP.l2d uc) (4741671816366391296 : UInt64)) (FP.l2d un))) ∧ Fr n0 L ∧ h = h0
set_option maxRecDepth 65536 in
set_option maxHeartbeats 40000000 in
theorem rm5 (l : Launch) (Z : State) (a0 : Array Value) (hw : ∀ d ∈ tables_1, d.before a0 Z = true) (ws : List Jvm.Cond) (oa : Addr) (uc : Int64) (un : Int64) (h0 : Heap) (n0 : Nat) (Z0 : n0 ≤ h0.size) (F_oa_count : Fld Z h0 oa "com/example/firm_quote/firmquote/bench/Rate" "count" "J" (.long uc)) (F_oa_nanos : Fld Z h0 oa "com/example/firm_quote/firmquote/bench/Rate" "nanos" "J" (.long un)) (hn1 : Jvm.Free.Fl.NoNaN64 (FP.dmul (FP.l2d uc) (4741671816366391296 : UInt64))) (hn2 : Jvm.Free.Fl.NoNaN64 (FP.ddiv (FP.dmul (FP.l2d uc) (4741671816366391296 : UInt64)) (FP.l2d un))) :
    MetFree l (⟨"com/example/firm_quote/firmquote/bench/Rate", "perSecond", "()D"⟩ : MethodName) (head1 (Jvm.Cond.code (⟨"com/example/firm_quote/firmquote/bench/Rate", "perSecond", "()D"⟩ : MethodName) prog_6_method_2_code 1 (some .double) :: ws) ({ frames := 0, cells := 0, slots := 0, locals := 0 } : Room)) (fun a U => a = #[(.ref oa)] ∧ Z.Warmed39 U.vm ∧ U.heap = h0) (fun _ _ _ _ _ => True) (fun _ U o U' => ∃ v L, o = .returned v ∧ Q5 Z oa uc un h0 n0 v U'.heap L ∧ FrameEnd U o U' L ({ frames := 0, cells := 0, slots := 0, locals := 0 } : Room).cells ({ frames := 0, cells := 0, slots := 0, locals := 0 } : Room).slots) := by
  refine MetFree.of_bodySF (plainFor_of_name pn_1) hisR ?_
  intro p e s m args below meth c s₁ Bd hml0 hP hK
  obtain ⟨rfl, hZ, hh⟩ := hP
  have hx := Bd.exec
  have hby := Bd.bytes
  have hml : c.maxLocals = 1 := hml0
  have hown : s.vm.findClass "com/example/firm_quote/firmquote/bench/Rate" = some m.cls := findClass_of_methodNamed Bd.named
  have hnm := (name_of_methodNamed Bd.named Bd.method).1
  have X0 : Stand p l e ({ frames := 0, cells := 0, slots := 0, locals := 0 } : Room) s m #[(.ref oa)] below meth c s₁ [] 0 0 := Stand.of_body Bd
  have e0 : s₁.heap = h0 := by rw [← hh, Bd.state]; rfl
  have N0 := Fr.nil n0
  refine Goes.by (fun _ k => castTop (ef5 m oa) k) ?_
  show Goes p.tables e below (s₁.setTop (mkF m 0 #[.val (.ref oa)] [])) _
  refine Goes.by (fun _ k => XS.aloadN X0.here hx rfl (hb hby d5_0) rfl rfl k) ?_
  show Goes p.tables e below (s₁.setTop (mkF m 1 #[.val (.ref oa)] [(.ref oa)])) _
  obtain ⟨T1, X1, e1, st1⟩ := getF X0 hx hZ hown (host := "") (Or.inl (hw _ (List.mem_of_getElem? (i := 30) rfl))) Via.refl e0 F_oa_count (g := (mkF m 1 #[.val (.ref oa)] [(.ref oa)])) rfl rfl (hb hby d5_1)
  refine Goes.by st1 ?_
  show Goes p.tables e below (T1.setTop (mkF m 4 #[.val (.ref oa)] [(.long uc)])) _
  refine Goes.by (fun _ k => XS.l2dS X1.here hx rfl (hb hby d5_4) rfl rfl k) ?_
  show Goes p.tables e below (T1.setTop (mkF m 5 #[.val (.ref oa)] [(.double (FP.l2d uc))])) _
  refine Goes.by (fun _ k => X1.ldc2DoubleC hx hown (mvT hZ (hw _ (List.mem_of_getElem? (i := 39) rfl))) (g := (mkF m 5 #[.val (.ref oa)] [(.double (FP.l2d uc))])) rfl (hb hby d5_5) _ k) ?_
  show Goes p.tables e below (T1.setTop (mkF m 8 #[.val (.ref oa)] [(.double (4741671816366391296 : UInt64)), (.double (FP.l2d uc))])) _
  refine Goes.by (fun _ k => XS.dmulS X1.here hx rfl (hb hby d5_8) rfl hn1 rfl k) ?_
  show Goes p.tables e below (T1.setTop (mkF m 9 #[.val (.ref oa)] [(.double (FP.dmul (FP.l2d uc) (4741671816366391296 : UInt64)))])) _
  refine Goes.by (fun _ k => XS.aloadN X1.here hx rfl (hb hby d5_9) rfl rfl k) ?_
  show Goes p.tables e below (T1.setTop (mkF m 10 #[.val (.ref oa)] [(.ref oa), (.double (FP.dmul (FP.l2d uc) (4741671816366391296 : UInt64)))])) _
  obtain ⟨T2, X2, e2, st2⟩ := getF X1 hx hZ hown (host := "") (Or.inl (hw _ (List.mem_of_getElem? (i := 32) rfl))) Via.refl e1 F_oa_nanos (g := (mkF m 10 #[.val (.ref oa)] [(.ref oa), (.double (FP.dmul (FP.l2d uc) (4741671816366391296 : UInt64)))])) rfl rfl (hb hby d5_10)
  refine Goes.by st2 ?_
  show Goes p.tables e below (T2.setTop (mkF m 13 #[.val (.ref oa)] [(.long un), (.double (FP.dmul (FP.l2d uc) (4741671816366391296 : UInt64)))])) _
  refine Goes.by (fun _ k => XS.l2dS X2.here hx rfl (hb hby d5_13) rfl rfl k) ?_
  show Goes p.tables e below (T2.setTop (mkF m 14 #[.val (.ref oa)] [(.double (FP.l2d un)), (.double (FP.dmul (FP.l2d uc) (4741671816366391296 : UInt64)))])) _
  refine Goes.by (fun _ k => XS.ddivS X2.here hx rfl (hb hby d5_14) rfl hn2 rfl k) ?_
  show Goes p.tables e below (T2.setTop (mkF m 15 #[.val (.ref oa)] [(.double (FP.ddiv (FP.dmul (FP.l2d uc) (4741671816366391296 : UInt64)) (FP.l2d un)))])) _
  obtain ⟨fs, hr, hrun, hended, hW, hsame⟩ := X2.leave (v := some (.double (FP.ddiv (FP.dmul (FP.l2d uc) (4741671816366391296 : UInt64)) (FP.l2d un)))) (fun h => by rw [Bd.returns] at h; cases h)
  refine ⟨_, _, retOut X2 hx Bd.returns (i := .dreturn) rfl (Or.inr (Or.inr (Or.inl ⟨rfl, rfl, _, rfl⟩))) (hb hby d5_15) hr, hrun, hended, _, _, rfl, ?_, ⟨_, rfl⟩, hW, hsame.mono (by decide) (by decide)⟩
  show Q5 Z oa uc un h0 n0 _ T2.heap _
  rw [e2]
  exact ⟨rfl, N0, rfl⟩
theorem d1_0 : decode method_2_code 0 = .ok (.bipush 10, 2) := by decide +kernel
theorem d1_2 : decode method_2_code 2 = .ok (.newarray .long, 2) := by decide +kernel
theorem d1_4 : decode method_2_code 4 = .ok (.dup, 1) := by decide +kernel
theorem d1_5 : decode method_2_code 5 = .ok (.iconst 0, 1) := by decide +kernel
theorem d1_6 : decode method_2_code 6 = .ok (.lconst 1, 1) := by decide +kernel
theorem d1_7 : decode method_2_code 7 = .ok (.lastore, 1) := by decide +kernel
theorem d1_8 : decode method_2_code 8 = .ok (.dup, 1) := by decide +kernel
theorem d1_9 : decode method_2_code 9 = .ok (.iconst 1, 1) := by decide +kernel
theorem d1_10 : decode method_2_code 10 = .ok (.ldc2_w 7, 3) := by decide +kernel
theorem d1_13 : decode method_2_code 13 = .ok (.lastore, 1) := by decide +kernel
theorem d1_14 : decode method_2_code 14 = .ok (.dup, 1) := by decide +kernel
theorem d1_15 : decode method_2_code 15 = .ok (.iconst 2, 1) := by decide +kernel
theorem d1_16 : decode method_2_code 16 = .ok (.ldc2_w 9, 3) := by decide +kernel
theorem d1_19 : decode method_2_code 19 = .ok (.lastore, 1) := by decide +kernel
theorem d1_20 : decode method_2_code 20 = .ok (.dup, 1) := by decide +kernel
theorem d1_21 : decode method_2_code 21 = .ok (.iconst 3, 1) := by decide +kernel
theorem d1_22 : decode method_2_code 22 = .ok (.ldc2_w 11, 3) := by decide +kernel
theorem d1_25 : decode method_2_code 25 = .ok (.lastore, 1) := by decide +kernel
theorem d1_26 : decode method_2_code 26 = .ok (.dup, 1) := by decide +kernel
theorem d1_27 : decode method_2_code 27 = .ok (.iconst 4, 1) := by decide +kernel
theorem d1_28 : decode method_2_code 28 = .ok (.ldc2_w 13, 3) := by decide +kernel
theorem d1_31 : decode method_2_code 31 = .ok (.lastore, 1) := by decide +kernel
theorem d1_32 : decode method_2_code 32 = .ok (.dup, 1) := by decide +kernel
theorem d1_33 : decode method_2_code 33 = .ok (.iconst 5, 1) := by decide +kernel
theorem d1_34 : decode method_2_code 34 = .ok (.ldc2_w 15, 3) := by decide +kernel
theorem d1_37 : decode method_2_code 37 = .ok (.lastore, 1) := by decide +kernel
theorem d1_38 : decode method_2_code 38 = .ok (.dup, 1) := by decide +kernel
theorem d1_39 : decode method_2_code 39 = .ok (.bipush 6, 2) := by decide +kernel
theorem d1_41 : decode method_2_code 41 = .ok (.ldc2_w 17, 3) := by decide +kernel
theorem d1_44 : decode method_2_code 44 = .ok (.lastore, 1) := by decide +kernel
theorem d1_45 : decode method_2_code 45 = .ok (.dup, 1) := by decide +kernel
theorem d1_46 : decode method_2_code 46 = .ok (.bipush 7, 2) := by decide +kernel
theorem d1_48 : decode method_2_code 48 = .ok (.ldc2_w 19, 3) := by decide +kernel
theorem d1_51 : decode method_2_code 51 = .ok (.lastore, 1) := by decide +kernel
theorem d1_52 : decode method_2_code 52 = .ok (.dup, 1) := by decide +kernel
theorem d1_53 : decode method_2_code 53 = .ok (.bipush 8, 2) := by decide +kernel
theorem d1_55 : decode method_2_code 55 = .ok (.ldc2_w 21, 3) := by decide +kernel
theorem d1_58 : decode method_2_code 58 = .ok (.lastore, 1) := by decide +kernel
theorem d1_59 : decode method_2_code 59 = .ok (.dup, 1) := by decide +kernel
theorem d1_60 : decode method_2_code 60 = .ok (.bipush 9, 2) := by decide +kernel
theorem d1_62 : decode method_2_code 62 = .ok (.ldc2_w 23, 3) := by decide +kernel
theorem d1_65 : decode method_2_code 65 = .ok (.lastore, 1) := by decide +kernel
theorem d1_66 : decode method_2_code 66 = .ok (.astore_n 1, 1) := by decide +kernel
theorem d1_67 : decode method_2_code 67 = .ok (.aload_n 1, 1) := by decide +kernel
theorem d1_68 : decode method_2_code 68 = .ok (.iload_n 0, 1) := by decide +kernel
theorem own_chain : ∀ i, i < 10 → (up (up (up (up (up (up (up (up (up (up (fun _ => (0 : Int64)) 0 (1 : Int64)) 1 (10 : Int64)) 2 (100 : Int64)) 3 (1000 : Int64)) 4 (10000 : Int64)) 5 (100000 : Int64)) 6 (1000000 : Int64)) 7 (10000000 : Int64)) 8 (100000000 : Int64)) 9 (1000000000 : Int64)) i = own_ten.getD i 0 := by decide +kernel
theorem d1_69 : decode method_2_code 69 = .ok (.laload, 1) := by decide +kernel
theorem d1_70 : decode method_2_code 70 = .ok (.lreturn, 1) := by decide +kernel
theorem pn_2 : plainName "com/example/firm_quote/firmquote/bench/RatePerSecondPinLaw" = true := by first | (simp [plainName, overriddenIn]; done) | decide +kernel
theorem ef1 (m : MethodId) (pk : Int32) : entryFrame m #[(.int pk)] 2 = mkF m 0 #[.val (.int pk), .unset] [] := by first | (simp [entryFrame, mkF, argsToLocals, Value.category]; done) | rfl
def Q1 (Z : State) (pk : Int32) (h0 : Heap) (n0 : Nat) (v : Option Value) (h : Heap) (L : List Loc) : Prop := v = some (.long (own_p10 pk)) ∧ Fr n0 L ∧ Keep h0 h []
set_option maxRecDepth 65536 in
set_option maxHeartbeats 40000000 in
theorem rm1 (l : Launch) (Z : State) (a0 : Array Value) (hw : ∀ d ∈ tables_1, d.before a0 Z = true) (ws : List Jvm.Cond) (pk : Int32) (h0 : Heap) (n0 : Nat) (Z0 : n0 ≤ h0.size) (hpk : 0 ≤ pk.toInt ∧ pk.toInt < 10) :
    MetFree l (⟨"com/example/firm_quote/firmquote/bench/RatePerSecondPinLaw", "pow10", "(I)J"⟩ : MethodName) (head1 (Jvm.Cond.code (⟨"com/example/firm_quote/firmquote/bench/RatePerSecondPinLaw", "pow10", "(I)J"⟩ : MethodName) method_2_code 2 (some .long) :: ws) ({ frames := 0, cells := 1, slots := 10, locals := 0 } : Room)) (fun a U => a = #[(.int pk)] ∧ Z.Warmed39 U.vm ∧ U.heap = h0) (fun _ _ _ _ _ => True) (fun _ U o U' => ∃ v L, o = .returned v ∧ Q1 Z pk h0 n0 v U'.heap L ∧ FrameEnd U o U' L ({ frames := 0, cells := 1, slots := 10, locals := 0 } : Room).cells ({ frames := 0, cells := 1, slots := 10, locals := 0 } : Room).slots) := by
  refine MetFree.of_bodySF (plainFor_of_name pn_2) hisR ?_
  intro p e s m args below meth c s₁ Bd hml0 hP hK
  obtain ⟨rfl, hZ, hh⟩ := hP
  have hx := Bd.exec
  have hby := Bd.bytes
  have hml : c.maxLocals = 2 := hml0
  have hown : s.vm.findClass "com/example/firm_quote/firmquote/bench/RatePerSecondPinLaw" = some m.cls := findClass_of_methodNamed Bd.named
  have hnm := (name_of_methodNamed Bd.named Bd.method).1
  have X0 : Stand p l e ({ frames := 0, cells := 1, slots := 10, locals := 0 } : Room) s m #[(.int pk)] below meth c s₁ [] 0 0 := Stand.of_body Bd
  have e0 : s₁.heap = h0 := by rw [← hh, Bd.state]; rfl
  have N0 := Fr.nil n0
  refine Goes.by (fun _ k => castTop (ef1 m pk) k) ?_
  show Goes p.tables e below (s₁.setTop (mkF m 0 #[.val (.int pk), .unset] [])) _
  refine Goes.by (fun _ k => XS.bipush X0.here hx rfl (hb hby d1_0) k) ?_
  show Goes p.tables e below (s₁.setTop (mkF m 2 #[.val (.int pk), .unset] [(.int (10 : Int32))])) _
  obtain ⟨T1, h1, X1, e1, E1, A1, st1⟩ := nwA (n := 10) (cap := 10) (fr := (mkF m 2 #[.val (.int pk), .unset] [(.int (10 : Int32))])) X0 hx hZ (hw _ (List.mem_of_getElem? (i := 6) rfl)) e0 (by decide) (by decide) (by decide) (by decide) (by decide) rfl rfl (hb hby d1_2)
  obtain ⟨b1, g1⟩ : ∃ z, z = h0.size := ⟨_, rfl⟩
  rw [← g1] at A1 st1
  have g_b1 : n0 ≤ b1 := Nat.le_trans Z0 (Nat.le_of_eq g1.symm)
  have sz_b1 : h0.size ≤ b1 := Nat.le_trans (Keep.refl h0 []).1 (Nat.le_of_eq g1.symm)
  have Zs1 : n0 ≤ h1.size := Nat.le_trans Z0 E1.1
  have K1 : Keep h0 h1 [] := (Keep.refl h0 []).ext E1
  refine Goes.by st1 ?_
  have A_b1 : AJ Z h1 b1 10 (fun _ => (0 : Int64)) := A1
  show Goes p.tables e below (T1.setTop (mkF m 4 #[.val (.int pk), .unset] [(.ref b1)])) _
  refine Goes.by (fun _ k => XS.dup X1.here hx rfl (hb hby d1_4) rfl rfl k) ?_
  show Goes p.tables e below (T1.setTop (mkF m 5 #[.val (.int pk), .unset] [(.ref b1), (.ref b1)])) _
  refine Goes.by (fun _ k => XS.iconst X1.here hx rfl (hb hby d1_5) k) ?_
  show Goes p.tables e below (T1.setTop (mkF m 6 #[.val (.int pk), .unset] [(.int (0 : Int32)), (.ref b1), (.ref b1)])) _
  refine Goes.by (fun _ k => XS.lconst X1.here hx rfl (hb hby d1_6) k) ?_
  show Goes p.tables e below (T1.setTop (mkF m 7 #[.val (.int pk), .unset] [(.long (1 : Int64)), (.int (0 : Int32)), (.ref b1), (.ref b1)])) _
  obtain ⟨T2, h2, X2, e2, W2, A2, st2⟩ := stAJ (fr := (mkF m 7 #[.val (.int pk), .unset] [(.long (1 : Int64)), (.int (0 : Int32)), (.ref b1), (.ref b1)])) X1 hx hZ e1 A_b1 (i := 0) (by decide) (by decide) rfl rfl (hb hby d1_7)
  refine Goes.by st2 ?_
  have A_b1 : AJ Z h2 b1 10 (up (fun _ => (0 : Int64)) 0 (1 : Int64)) := A2
  have N2 := Fr.snoc X2 N0 g_b1
  have Zs2 : n0 ≤ h2.size := Nat.le_trans Zs1 (Keep.of_wr W2).1
  have K2 : Keep h0 h2 [] := K1.wr W2 (Or.inr sz_b1)
  show Goes p.tables e below (T2.setTop (mkF m 8 #[.val (.int pk), .unset] [(.ref b1)])) _
  refine Goes.by (fun _ k => XS.dup X2.here hx rfl (hb hby d1_8) rfl rfl k) ?_
  show Goes p.tables e below (T2.setTop (mkF m 9 #[.val (.int pk), .unset] [(.ref b1), (.ref b1)])) _
  refine Goes.by (fun _ k => XS.iconst X2.here hx rfl (hb hby d1_9) k) ?_
  show Goes p.tables e below (T2.setTop (mkF m 10 #[.val (.int pk), .unset] [(.int (1 : Int32)), (.ref b1), (.ref b1)])) _
  refine Goes.by (fun _ k => X2.ldc2J hx hown (mvT hZ (hw _ (List.mem_of_getElem? (i := 7) rfl))) (g := (mkF m 10 #[.val (.int pk), .unset] [(.int (1 : Int32)), (.ref b1), (.ref b1)])) rfl (hb hby d1_10) k) ?_
  show Goes p.tables e below (T2.setTop (mkF m 13 #[.val (.int pk), .unset] [(.long (10 : Int64)), (.int (1 : Int32)), (.ref b1), (.ref b1)])) _
  obtain ⟨T3, h3, X3, e3, W3, A3, st3⟩ := stAJ (fr := (mkF m 13 #[.val (.int pk), .unset] [(.long (10 : Int64)), (.int (1 : Int32)), (.ref b1), (.ref b1)])) X2 hx hZ e2 A_b1 (i := 1) (by decide) (by decide) rfl rfl (hb hby d1_13)
  refine Goes.by st3 ?_
  have A_b1 : AJ Z h3 b1 10 (up (up (fun _ => (0 : Int64)) 0 (1 : Int64)) 1 (10 : Int64)) := A3
  have N3 := Fr.snoc X3 N2 g_b1
  have Zs3 : n0 ≤ h3.size := Nat.le_trans Zs2 (Keep.of_wr W3).1
  have K3 : Keep h0 h3 [] := K2.wr W3 (Or.inr sz_b1)
  show Goes p.tables e below (T3.setTop (mkF m 14 #[.val (.int pk), .unset] [(.ref b1)])) _
  refine Goes.by (fun _ k => XS.dup X3.here hx rfl (hb hby d1_14) rfl rfl k) ?_
  show Goes p.tables e below (T3.setTop (mkF m 15 #[.val (.int pk), .unset] [(.ref b1), (.ref b1)])) _
  refine Goes.by (fun _ k => XS.iconst X3.here hx rfl (hb hby d1_15) k) ?_
  show Goes p.tables e below (T3.setTop (mkF m 16 #[.val (.int pk), .unset] [(.int (2 : Int32)), (.ref b1), (.ref b1)])) _
  refine Goes.by (fun _ k => X3.ldc2J hx hown (mvT hZ (hw _ (List.mem_of_getElem? (i := 8) rfl))) (g := (mkF m 16 #[.val (.int pk), .unset] [(.int (2 : Int32)), (.ref b1), (.ref b1)])) rfl (hb hby d1_16) k) ?_
  show Goes p.tables e below (T3.setTop (mkF m 19 #[.val (.int pk), .unset] [(.long (100 : Int64)), (.int (2 : Int32)), (.ref b1), (.ref b1)])) _
  obtain ⟨T4, h4, X4, e4, W4, A4, st4⟩ := stAJ (fr := (mkF m 19 #[.val (.int pk), .unset] [(.long (100 : Int64)), (.int (2 : Int32)), (.ref b1), (.ref b1)])) X3 hx hZ e3 A_b1 (i := 2) (by decide) (by decide) rfl rfl (hb hby d1_19)
  refine Goes.by st4 ?_
  have A_b1 : AJ Z h4 b1 10 (up (up (up (fun _ => (0 : Int64)) 0 (1 : Int64)) 1 (10 : Int64)) 2 (100 : Int64)) := A4
  have N4 := Fr.snoc X4 N3 g_b1
  have Zs4 : n0 ≤ h4.size := Nat.le_trans Zs3 (Keep.of_wr W4).1
  have K4 : Keep h0 h4 [] := K3.wr W4 (Or.inr sz_b1)
  show Goes p.tables e below (T4.setTop (mkF m 20 #[.val (.int pk), .unset] [(.ref b1)])) _
  refine Goes.by (fun _ k => XS.dup X4.here hx rfl (hb hby d1_20) rfl rfl k) ?_
  show Goes p.tables e below (T4.setTop (mkF m 21 #[.val (.int pk), .unset] [(.ref b1), (.ref b1)])) _
  refine Goes.by (fun _ k => XS.iconst X4.here hx rfl (hb hby d1_21) k) ?_
  show Goes p.tables e below (T4.setTop (mkF m 22 #[.val (.int pk), .unset] [(.int (3 : Int32)), (.ref b1), (.ref b1)])) _
  refine Goes.by (fun _ k => X4.ldc2J hx hown (mvT hZ (hw _ (List.mem_of_getElem? (i := 9) rfl))) (g := (mkF m 22 #[.val (.int pk), .unset] [(.int (3 : Int32)), (.ref b1), (.ref b1)])) rfl (hb hby d1_22) k) ?_
  show Goes p.tables e below (T4.setTop (mkF m 25 #[.val (.int pk), .unset] [(.long (1000 : Int64)), (.int (3 : Int32)), (.ref b1), (.ref b1)])) _
  obtain ⟨T5, h5, X5, e5, W5, A5, st5⟩ := stAJ (fr := (mkF m 25 #[.val (.int pk), .unset] [(.long (1000 : Int64)), (.int (3 : Int32)), (.ref b1), (.ref b1)])) X4 hx hZ e4 A_b1 (i := 3) (by decide) (by decide) rfl rfl (hb hby d1_25)
  refine Goes.by st5 ?_
  have A_b1 : AJ Z h5 b1 10 (up (up (up (up (fun _ => (0 : Int64)) 0 (1 : Int64)) 1 (10 : Int64)) 2 (100 : Int64)) 3 (1000 : Int64)) := A5
  have N5 := Fr.snoc X5 N4 g_b1
  have Zs5 : n0 ≤ h5.size := Nat.le_trans Zs4 (Keep.of_wr W5).1
  have K5 : Keep h0 h5 [] := K4.wr W5 (Or.inr sz_b1)
  show Goes p.tables e below (T5.setTop (mkF m 26 #[.val (.int pk), .unset] [(.ref b1)])) _
  refine Goes.by (fun _ k => XS.dup X5.here hx rfl (hb hby d1_26) rfl rfl k) ?_
  show Goes p.tables e below (T5.setTop (mkF m 27 #[.val (.int pk), .unset] [(.ref b1), (.ref b1)])) _
  refine Goes.by (fun _ k => XS.iconst X5.here hx rfl (hb hby d1_27) k) ?_
  show Goes p.tables e below (T5.setTop (mkF m 28 #[.val (.int pk), .unset] [(.int (4 : Int32)), (.ref b1), (.ref b1)])) _
  refine Goes.by (fun _ k => X5.ldc2J hx hown (mvT hZ (hw _ (List.mem_of_getElem? (i := 10) rfl))) (g := (mkF m 28 #[.val (.int pk), .unset] [(.int (4 : Int32)), (.ref b1), (.ref b1)])) rfl (hb hby d1_28) k) ?_
  show Goes p.tables e below (T5.setTop (mkF m 31 #[.val (.int pk), .unset] [(.long (10000 : Int64)), (.int (4 : Int32)), (.ref b1), (.ref b1)])) _
  obtain ⟨T6, h6, X6, e6, W6, A6, st6⟩ := stAJ (fr := (mkF m 31 #[.val (.int pk), .unset] [(.long (10000 : Int64)), (.int (4 : Int32)), (.ref b1), (.ref b1)])) X5 hx hZ e5 A_b1 (i := 4) (by decide) (by decide) rfl rfl (hb hby d1_31)
  refine Goes.by st6 ?_
  have A_b1 : AJ Z h6 b1 10 (up (up (up (up (up (fun _ => (0 : Int64)) 0 (1 : Int64)) 1 (10 : Int64)) 2 (100 : Int64)) 3 (1000 : Int64)) 4 (10000 : Int64)) := A6
  have N6 := Fr.snoc X6 N5 g_b1
  have Zs6 : n0 ≤ h6.size := Nat.le_trans Zs5 (Keep.of_wr W6).1
  have K6 : Keep h0 h6 [] := K5.wr W6 (Or.inr sz_b1)
  show Goes p.tables e below (T6.setTop (mkF m 32 #[.val (.int pk), .unset] [(.ref b1)])) _
  refine Goes.by (fun _ k => XS.dup X6.here hx rfl (hb hby d1_32) rfl rfl k) ?_
  show Goes p.tables e below (T6.setTop (mkF m 33 #[.val (.int pk), .unset] [(.ref b1), (.ref b1)])) _
  refine Goes.by (fun _ k => XS.iconst X6.here hx rfl (hb hby d1_33) k) ?_
  show Goes p.tables e below (T6.setTop (mkF m 34 #[.val (.int pk), .unset] [(.int (5 : Int32)), (.ref b1), (.ref b1)])) _
  refine Goes.by (fun _ k => X6.ldc2J hx hown (mvT hZ (hw _ (List.mem_of_getElem? (i := 11) rfl))) (g := (mkF m 34 #[.val (.int pk), .unset] [(.int (5 : Int32)), (.ref b1), (.ref b1)])) rfl (hb hby d1_34) k) ?_
  show Goes p.tables e below (T6.setTop (mkF m 37 #[.val (.int pk), .unset] [(.long (100000 : Int64)), (.int (5 : Int32)), (.ref b1), (.ref b1)])) _
  obtain ⟨T7, h7, X7, e7, W7, A7, st7⟩ := stAJ (fr := (mkF m 37 #[.val (.int pk), .unset] [(.long (100000 : Int64)), (.int (5 : Int32)), (.ref b1), (.ref b1)])) X6 hx hZ e6 A_b1 (i := 5) (by decide) (by decide) rfl rfl (hb hby d1_37)
  refine Goes.by st7 ?_
  have A_b1 : AJ Z h7 b1 10 (up (up (up (up (up (up (fun _ => (0 : Int64)) 0 (1 : Int64)) 1 (10 : Int64)) 2 (100 : Int64)) 3 (1000 : Int64)) 4 (10000 : Int64)) 5 (100000 : Int64)) := A7
  have N7 := Fr.snoc X7 N6 g_b1
  have Zs7 : n0 ≤ h7.size := Nat.le_trans Zs6 (Keep.of_wr W7).1
  have K7 : Keep h0 h7 [] := K6.wr W7 (Or.inr sz_b1)
  show Goes p.tables e below (T7.setTop (mkF m 38 #[.val (.int pk), .unset] [(.ref b1)])) _
  refine Goes.by (fun _ k => XS.dup X7.here hx rfl (hb hby d1_38) rfl rfl k) ?_
  show Goes p.tables e below (T7.setTop (mkF m 39 #[.val (.int pk), .unset] [(.ref b1), (.ref b1)])) _
  refine Goes.by (fun _ k => XS.bipush X7.here hx rfl (hb hby d1_39) k) ?_
  show Goes p.tables e below (T7.setTop (mkF m 41 #[.val (.int pk), .unset] [(.int (6 : Int32)), (.ref b1), (.ref b1)])) _
  refine Goes.by (fun _ k => X7.ldc2J hx hown (mvT hZ (hw _ (List.mem_of_getElem? (i := 12) rfl))) (g := (mkF m 41 #[.val (.int pk), .unset] [(.int (6 : Int32)), (.ref b1), (.ref b1)])) rfl (hb hby d1_41) k) ?_
  show Goes p.tables e below (T7.setTop (mkF m 44 #[.val (.int pk), .unset] [(.long (1000000 : Int64)), (.int (6 : Int32)), (.ref b1), (.ref b1)])) _
  obtain ⟨T8, h8, X8, e8, W8, A8, st8⟩ := stAJ (fr := (mkF m 44 #[.val (.int pk), .unset] [(.long (1000000 : Int64)), (.int (6 : Int32)), (.ref b1), (.ref b1)])) X7 hx hZ e7 A_b1 (i := 6) (by decide) (by decide) rfl rfl (hb hby d1_44)
  refine Goes.by st8 ?_
  have A_b1 : AJ Z h8 b1 10 (up (up (up (up (up (up (up (fun _ => (0 : Int64)) 0 (1 : Int64)) 1 (10 : Int64)) 2 (100 : Int64)) 3 (1000 : Int64)) 4 (10000 : Int64)) 5 (100000 : Int64)) 6 (1000000 : Int64)) := A8
  have N8 := Fr.snoc X8 N7 g_b1
  have Zs8 : n0 ≤ h8.size := Nat.le_trans Zs7 (Keep.of_wr W8).1
  have K8 : Keep h0 h8 [] := K7.wr W8 (Or.inr sz_b1)
  show Goes p.tables e below (T8.setTop (mkF m 45 #[.val (.int pk), .unset] [(.ref b1)])) _
  refine Goes.by (fun _ k => XS.dup X8.here hx rfl (hb hby d1_45) rfl rfl k) ?_
  show Goes p.tables e below (T8.setTop (mkF m 46 #[.val (.int pk), .unset] [(.ref b1), (.ref b1)])) _
  refine Goes.by (fun _ k => XS.bipush X8.here hx rfl (hb hby d1_46) k) ?_
  show Goes p.tables e below (T8.setTop (mkF m 48 #[.val (.int pk), .unset] [(.int (7 : Int32)), (.ref b1), (.ref b1)])) _
  refine Goes.by (fun _ k => X8.ldc2J hx hown (mvT hZ (hw _ (List.mem_of_getElem? (i := 13) rfl))) (g := (mkF m 48 #[.val (.int pk), .unset] [(.int (7 : Int32)), (.ref b1), (.ref b1)])) rfl (hb hby d1_48) k) ?_
  show Goes p.tables e below (T8.setTop (mkF m 51 #[.val (.int pk), .unset] [(.long (10000000 : Int64)), (.int (7 : Int32)), (.ref b1), (.ref b1)])) _
  obtain ⟨T9, h9, X9, e9, W9, A9, st9⟩ := stAJ (fr := (mkF m 51 #[.val (.int pk), .unset] [(.long (10000000 : Int64)), (.int (7 : Int32)), (.ref b1), (.ref b1)])) X8 hx hZ e8 A_b1 (i := 7) (by decide) (by decide) rfl rfl (hb hby d1_51)
  refine Goes.by st9 ?_
  have A_b1 : AJ Z h9 b1 10 (up (up (up (up (up (up (up (up (fun _ => (0 : Int64)) 0 (1 : Int64)) 1 (10 : Int64)) 2 (100 : Int64)) 3 (1000 : Int64)) 4 (10000 : Int64)) 5 (100000 : Int64)) 6 (1000000 : Int64)) 7 (10000000 : Int64)) := A9
  have N9 := Fr.snoc X9 N8 g_b1
  have Zs9 : n0 ≤ h9.size := Nat.le_trans Zs8 (Keep.of_wr W9).1
  have K9 : Keep h0 h9 [] := K8.wr W9 (Or.inr sz_b1)
  show Goes p.tables e below (T9.setTop (mkF m 52 #[.val (.int pk), .unset] [(.ref b1)])) _
  refine Goes.by (fun _ k => XS.dup X9.here hx rfl (hb hby d1_52) rfl rfl k) ?_
  show Goes p.tables e below (T9.setTop (mkF m 53 #[.val (.int pk), .unset] [(.ref b1), (.ref b1)])) _
  refine Goes.by (fun _ k => XS.bipush X9.here hx rfl (hb hby d1_53) k) ?_
  show Goes p.tables e below (T9.setTop (mkF m 55 #[.val (.int pk), .unset] [(.int (8 : Int32)), (.ref b1), (.ref b1)])) _
  refine Goes.by (fun _ k => X9.ldc2J hx hown (mvT hZ (hw _ (List.mem_of_getElem? (i := 14) rfl))) (g := (mkF m 55 #[.val (.int pk), .unset] [(.int (8 : Int32)), (.ref b1), (.ref b1)])) rfl (hb hby d1_55) k) ?_
  show Goes p.tables e below (T9.setTop (mkF m 58 #[.val (.int pk), .unset] [(.long (100000000 : Int64)), (.int (8 : Int32)), (.ref b1), (.ref b1)])) _
  obtain ⟨T10, h10, X10, e10, W10, A10, st10⟩ := stAJ (fr := (mkF m 58 #[.val (.int pk), .unset] [(.long (100000000 : Int64)), (.int (8 : Int32)), (.ref b1), (.ref b1)])) X9 hx hZ e9 A_b1 (i := 8) (by decide) (by decide) rfl rfl (hb hby d1_58)
  refine Goes.by st10 ?_
  have A_b1 : AJ Z h10 b1 10 (up (up (up (up (up (up (up (up (up (fun _ => (0 : Int64)) 0 (1 : Int64)) 1 (10 : Int64)) 2 (100 : Int64)) 3 (1000 : Int64)) 4 (10000 : Int64)) 5 (100000 : Int64)) 6 (1000000 : Int64)) 7 (10000000 : Int64)) 8 (100000000 : Int64)) := A10
  have N10 := Fr.snoc X10 N9 g_b1
  have Zs10 : n0 ≤ h10.size := Nat.le_trans Zs9 (Keep.of_wr W10).1
  have K10 : Keep h0 h10 [] := K9.wr W10 (Or.inr sz_b1)
  show Goes p.tables e below (T10.setTop (mkF m 59 #[.val (.int pk), .unset] [(.ref b1)])) _
  refine Goes.by (fun _ k => XS.dup X10.here hx rfl (hb hby d1_59) rfl rfl k) ?_
  show Goes p.tables e below (T10.setTop (mkF m 60 #[.val (.int pk), .unset] [(.ref b1), (.ref b1)])) _
  refine Goes.by (fun _ k => XS.bipush X10.here hx rfl (hb hby d1_60) k) ?_
  show Goes p.tables e below (T10.setTop (mkF m 62 #[.val (.int pk), .unset] [(.int (9 : Int32)), (.ref b1), (.ref b1)])) _
  refine Goes.by (fun _ k => X10.ldc2J hx hown (mvT hZ (hw _ (List.mem_of_getElem? (i := 15) rfl))) (g := (mkF m 62 #[.val (.int pk), .unset] [(.int (9 : Int32)), (.ref b1), (.ref b1)])) rfl (hb hby d1_62) k) ?_
  show Goes p.tables e below (T10.setTop (mkF m 65 #[.val (.int pk), .unset] [(.long (1000000000 : Int64)), (.int (9 : Int32)), (.ref b1), (.ref b1)])) _
  obtain ⟨T11, h11, X11, e11, W11, A11, st11⟩ := stAJ (fr := (mkF m 65 #[.val (.int pk), .unset] [(.long (1000000000 : Int64)), (.int (9 : Int32)), (.ref b1), (.ref b1)])) X10 hx hZ e10 A_b1 (i := 9) (by decide) (by decide) rfl rfl (hb hby d1_65)
  refine Goes.by st11 ?_
  have A_b1 : AJ Z h11 b1 10 (up (up (up (up (up (up (up (up (up (up (fun _ => (0 : Int64)) 0 (1 : Int64)) 1 (10 : Int64)) 2 (100 : Int64)) 3 (1000 : Int64)) 4 (10000 : Int64)) 5 (100000 : Int64)) 6 (1000000 : Int64)) 7 (10000000 : Int64)) 8 (100000000 : Int64)) 9 (1000000000 : Int64)) := A11
  have N11 := Fr.snoc X11 N10 g_b1
  have Zs11 : n0 ≤ h11.size := Nat.le_trans Zs10 (Keep.of_wr W11).1
  have K11 : Keep h0 h11 [] := K10.wr W11 (Or.inr sz_b1)
  show Goes p.tables e below (T11.setTop (mkF m 66 #[.val (.int pk), .unset] [(.ref b1)])) _
  refine Goes.by (fun _ k => XS.astoreN X11.here hx rfl (hb hby d1_66) rfl rfl (l' := #[.val (.int pk), .val (.ref b1)]) rfl k) ?_
  show Goes p.tables e below (T11.setTop (mkF m 67 #[.val (.int pk), .val (.ref b1)] [])) _
  refine Goes.by (fun _ k => XS.aloadN X11.here hx rfl (hb hby d1_67) rfl rfl k) ?_
  show Goes p.tables e below (T11.setTop (mkF m 68 #[.val (.int pk), .val (.ref b1)] [(.ref b1)])) _
  refine Goes.by (fun _ k => XS.iloadN X11.here hx rfl (hb hby d1_68) rfl k) ?_
  show Goes p.tables e below (T11.setTop (mkF m 69 #[.val (.int pk), .val (.ref b1)] [(.int pk), (.ref b1)])) _
  obtain ⟨x12, hx12⟩ : ∃ z : Int64, z = ((up (up (up (up (up (up (up (up (up (up (fun _ => (0 : Int64)) 0 (1 : Int64)) 1 (10 : Int64)) 2 (100 : Int64)) 3 (1000 : Int64)) 4 (10000 : Int64)) 5 (100000 : Int64)) 6 (1000000 : Int64)) 7 (10000000 : Int64)) 8 (100000000 : Int64)) 9 (1000000000 : Int64)) pk.toInt.toNat) := ⟨_, rfl⟩
  refine Goes.by (fun _ k => ldJ (v := x12) (fr := (mkF m 69 #[.val (.int pk), .val (.ref b1)] [(.int pk), (.ref b1)])) X11 hx hZ e11 A_b1 (i := pk.toInt.toNat) (by omega) (by omega) hx12 rfl rfl (hb hby d1_69) k) ?_
  show Goes p.tables e below (T11.setTop (mkF m 70 #[.val (.int pk), .val (.ref b1)] [(.long x12)])) _
  obtain ⟨fs, hr, hrun, hended, hW, hsame⟩ := X11.leave (v := some (.long x12)) (fun h => by rw [Bd.returns] at h; cases h)
  refine ⟨_, _, retOut X11 hx Bd.returns (i := .lreturn) rfl (Or.inr (Or.inl ⟨rfl, rfl, _, rfl⟩)) (hb hby d1_70) hr, hrun, hended, _, _, rfl, ?_, ⟨_, rfl⟩, hW, hsame.mono (by decide) (by decide)⟩
  show Q1 Z pk h0 n0 _ T11.heap _
  rw [e11]
  exact ⟨(by rw [hx12]; exact congrArg (fun v => some (Value.long v)) (own_chain _ (by omega))), N11, K11⟩
theorem own_and3 (x : Int32) : x &&& 3 = 0 ∨ x &&& 3 = 1 ∨ x &&& 3 = 2 ∨ x &&& 3 = 3 := by
  have h := c_and x 3 (by decide)
  have e3 : (3 : Int32).toInt = 3 := rfl
  have e0 : (0 : Int32).toInt = 0 := rfl
  have e1 : (1 : Int32).toInt = 1 := rfl
  have e2 : (2 : Int32).toInt = 2 := rfl
  simp only [← Int32.toInt_inj]
  omega
theorem own_d (b : Int32) : (((2 : Int32) * (b &&& (3 : Int32))) + (1 : Int32)) ∈ ([1, 3, 5, 7] : List Int32) := by
  rcases own_and3 b with h | h | h | h <;> rw [h] <;> decide
theorem own_j (y : Int32) : 0 ≤ (y &&& (7 : Int32)).toInt ∧ (y &&& (7 : Int32)).toInt < 8 := by
  have h := c_and y 7 (by decide)
  have e3 : (7 : Int32).toInt = 7 := rfl
  omega
theorem own_k (y : Int32) : 0 ≤ ((y &&& (2147483647 : Int32)) % (10 : Int32)).toInt ∧ ((y &&& (2147483647 : Int32)) % (10 : Int32)).toInt < 10 := by
  have h := c_and y 2147483647 (by decide)
  have h2 := (c_irem (y &&& 2147483647) 10 10 rfl).1 h.1
  omega
theorem own_k9 (k : Int32) (h : 0 ≤ k.toInt ∧ k.toInt < 10) : 0 ≤ ((9 : Int32) - k).toInt ∧ ((9 : Int32) - k).toInt < 10 := by
  obtain ⟨n, rfl⟩ := own_nat (n := 10) h (by decide)
  exact (by decide +kernel : ∀ n : Fin 10, 0 ≤ ((9 : Int32) - Int32.ofNat n.val).toInt ∧ ((9 : Int32) - Int32.ofNat n.val).toInt < 10) n
theorem own_qr (a : Int64) : -262144 < (a % (262144 : Int64)).toInt ∧ (a % (262144 : Int64)).toInt < 262144 := by
  rw [Int64.toInt_mod]
  have e : (262144 : Int64).toInt = 262144 := by decide +kernel
  rw [e]
  have h := tr a.toInt 262144
  by_cases q : 0 ≤ a.toInt
  · rw [h.1 q]; omega
  · rw [h.2 (by omega)]; omega
theorem pd_1 : parseMethodDescriptor "(I)J" = some ⟨[.int], some .long⟩ := by decide +kernel
theorem pd_2 : parseMethodDescriptor "(JJ)V" = some ⟨[.long, .long], none⟩ := by decide +kernel
theorem pd_3 : parseMethodDescriptor "()D" = some ⟨[], some .double⟩ := by decide +kernel
theorem ef0 (m : MethodId) (pa : Int64) (pb : Int32) (pc0 : Int32) : entryFrame m #[(.long pa), (.int pb), (.int pc0)] maxLocals = mkF m 0 #[.val (.long pa), .second, .val (.int pb), .val (.int pc0), .unset, .unset, .unset, .unset, .unset, .unset, .unset, .unset, .unset, .unset, .unset, .unset, .unset, .unset, .unset, .unset, .unset, .unset] [] := by first | (simp [entryFrame, mkF, argsToLocals, Value.category, maxLocals]; done) | rfl
def Q0 (Z : State) (pa : Int64) (pb : Int32) (pc0 : Int32) (h0 : Heap) (n0 : Nat) (v : Option Value) (h : Heap) (L : List Loc) : Prop := v = some (.int (1 : Int32)) ∧ Fr n0 L
set_option maxRecDepth 65536 in
set_option maxHeartbeats 40000000 in
theorem rm0 (l : Launch) (Z : State) (a0 : Array Value) (hw : ∀ d ∈ tables_1, d.before a0 Z = true) (ws : List Jvm.Cond) (pa : Int64) (pb : Int32) (pc0 : Int32) (h0 : Heap) (n0 : Nat) (Z0 : n0 ≤ h0.size) :
    MetFree l x (head1 (Jvm.Cond.code x code maxLocals ret :: ws) room_1) (fun a U => a = #[(.long pa), (.int pb), (.int pc0)] ∧ Z.Warmed39 U.vm ∧ U.heap = h0) (fun _ _ _ _ _ => True) (fun _ U o U' => ∃ v L, o = .returned v ∧ Q0 Z pa pb pc0 h0 n0 v U'.heap L ∧ FrameEnd U o U' L room_1.cells room_1.slots) := by
  refine MetFree.of_bodySF (plainFor_of_name pn_2) hisR ?_
  intro p e s m args below meth c s₁ Bd hml0 hP hK
  obtain ⟨rfl, hZ, hh⟩ := hP
  have hx := Bd.exec
  have hby := Bd.bytes
  have hml : c.maxLocals = 22 := hml0
  have hown : s.vm.findClass "com/example/firm_quote/firmquote/bench/RatePerSecondPinLaw" = some m.cls := findClass_of_methodNamed Bd.named
  have hnm := (name_of_methodNamed Bd.named Bd.method).1
  have X0 : Stand p l e room_1 s m #[(.long pa), (.int pb), (.int pc0)] below meth c s₁ [] 0 0 := Stand.of_body Bd
  have e0 : s₁.heap = h0 := by rw [← hh, Bd.state]; rfl
  have N0 := Fr.nil n0
  refine Goes.by (fun _ k => castTop (ef0 m pa pb pc0) k) ?_
  show Goes p.tables e below (s₁.setTop (mkF m 0 #[.val (.long pa), .second, .val (.int pb), .val (.int pc0), .unset, .unset, .unset, .unset, .unset, .unset, .unset, .unset, .unset, .unset, .unset, .unset, .unset, .unset, .unset, .unset, .unset, .unset] [])) _
  refine Goes.by (fun _ k => XS.lloadN X0.here hx rfl (hb hby at_0) rfl k) ?_
  show Goes p.tables e below (s₁.setTop (mkF m 1 #[.val (.long pa), .second, .val (.int pb), .val (.int pc0), .unset, .unset, .unset, .unset, .unset, .unset, .unset, .unset, .unset, .unset, .unset, .unset, .unset, .unset, .unset, .unset, .unset, .unset] [(.long pa)])) _
  refine Goes.by (fun _ k => X0.ldc2J hx hown (mvT hZ (hw _ (List.mem_of_getElem? (i := 0) rfl))) (g := (mkF m 1 #[.val (.long pa), .second, .val (.int pb), .val (.int pc0), .unset, .unset, .unset, .unset, .unset, .unset, .unset, .unset, .unset, .unset, .unset, .unset, .unset, .unset, .unset, .unset, .unset, .unset] [(.long pa)])) rfl (hb hby at_1) k) ?_
  show Goes p.tables e below (s₁.setTop (mkF m 4 #[.val (.long pa), .second, .val (.int pb), .val (.int pc0), .unset, .unset, .unset, .unset, .unset, .unset, .unset, .unset, .unset, .unset, .unset, .unset, .unset, .unset, .unset, .unset, .unset, .unset] [(.long (262144 : Int64)), (.long pa)])) _
  refine Goes.by (fun _ k => lremM X0 hx rfl (hb hby at_4) rfl (by decide) k) ?_
  show Goes p.tables e below (s₁.setTop (mkF m 5 #[.val (.long pa), .second, .val (.int pb), .val (.int pc0), .unset, .unset, .unset, .unset, .unset, .unset, .unset, .unset, .unset, .unset, .unset, .unset, .unset, .unset, .unset, .unset, .unset, .unset] [(.long (pa % (262144 : Int64)))])) _
  obtain ⟨x1, hx1⟩ : ∃ z : Int64, z = (pa % (262144 : Int64)) := ⟨_, rfl⟩
  refine Goes.by (fun _ k => XS.lstore X0.here hx rfl (hb hby at_5) rfl (l' := #[.val (.long pa), .second, .val (.int pb), .val (.int pc0), .val (.long x1), .second, .unset, .unset, .unset, .unset, .unset, .unset, .unset, .unset, .unset, .unset, .unset, .unset, .unset, .unset, .unset, .unset]) (by rw [hx1]; rfl) k) ?_
  show Goes p.tables e below (s₁.setTop (mkF m 7 #[.val (.long pa), .second, .val (.int pb), .val (.int pc0), .val (.long x1), .second, .unset, .unset, .unset, .unset, .unset, .unset, .unset, .unset, .unset, .unset, .unset, .unset, .unset, .unset, .unset, .unset] [])) _
  refine Goes.by (fun _ k => XS.iconst X0.here hx rfl (hb hby at_7) k) ?_
  show Goes p.tables e below (s₁.setTop (mkF m 8 #[.val (.long pa), .second, .val (.int pb), .val (.int pc0), .val (.long x1), .second, .unset, .unset, .unset, .unset, .unset, .unset, .unset, .unset, .unset, .unset, .unset, .unset, .unset, .unset, .unset, .unset] [(.int (2 : Int32))])) _
  refine Goes.by (fun _ k => XS.iloadN X0.here hx rfl (hb hby at_8) rfl k) ?_
  show Goes p.tables e below (s₁.setTop (mkF m 9 #[.val (.long pa), .second, .val (.int pb), .val (.int pc0), .val (.long x1), .second, .unset, .unset, .unset, .unset, .unset, .unset, .unset, .unset, .unset, .unset, .unset, .unset, .unset, .unset, .unset, .unset] [(.int pb), (.int (2 : Int32))])) _
  refine Goes.by (fun _ k => XS.iconst X0.here hx rfl (hb hby at_9) k) ?_
  show Goes p.tables e below (s₁.setTop (mkF m 10 #[.val (.long pa), .second, .val (.int pb), .val (.int pc0), .val (.long x1), .second, .unset, .unset, .unset, .unset, .unset, .unset, .unset, .unset, .unset, .unset, .unset, .unset, .unset, .unset, .unset, .unset] [(.int (3 : Int32)), (.int pb), (.int (2 : Int32))])) _
  refine Goes.by (fun _ k => XS.iand X0.here hx rfl (hb hby at_10) rfl k) ?_
  show Goes p.tables e below (s₁.setTop (mkF m 11 #[.val (.long pa), .second, .val (.int pb), .val (.int pc0), .val (.long x1), .second, .unset, .unset, .unset, .unset, .unset, .unset, .unset, .unset, .unset, .unset, .unset, .unset, .unset, .unset, .unset, .unset] [(.int (pb &&& (3 : Int32))), (.int (2 : Int32))])) _
  refine Goes.by (fun _ k => XS.imul X0.here hx rfl (hb hby at_11) rfl k) ?_
  show Goes p.tables e below (s₁.setTop (mkF m 12 #[.val (.long pa), .second, .val (.int pb), .val (.int pc0), .val (.long x1), .second, .unset, .unset, .unset, .unset, .unset, .unset, .unset, .unset, .unset, .unset, .unset, .unset, .unset, .unset, .unset, .unset] [(.int ((2 : Int32) * (pb &&& (3 : Int32))))])) _
  refine Goes.by (fun _ k => XS.iconst X0.here hx rfl (hb hby at_12) k) ?_
  show Goes p.tables e below (s₁.setTop (mkF m 13 #[.val (.long pa), .second, .val (.int pb), .val (.int pc0), .val (.long x1), .second, .unset, .unset, .unset, .unset, .unset, .unset, .unset, .unset, .unset, .unset, .unset, .unset, .unset, .unset, .unset, .unset] [(.int (1 : Int32)), (.int ((2 : Int32) * (pb &&& (3 : Int32))))])) _
  refine Goes.by (fun _ k => XS.iadd X0.here hx rfl (hb hby at_13) rfl k) ?_
  show Goes p.tables e below (s₁.setTop (mkF m 14 #[.val (.long pa), .second, .val (.int pb), .val (.int pc0), .val (.long x1), .second, .unset, .unset, .unset, .unset, .unset, .unset, .unset, .unset, .unset, .unset, .unset, .unset, .unset, .unset, .unset, .unset] [(.int (((2 : Int32) * (pb &&& (3 : Int32))) + (1 : Int32)))])) _
  obtain ⟨x2, hx2⟩ : ∃ z : Int32, z = (((2 : Int32) * (pb &&& (3 : Int32))) + (1 : Int32)) := ⟨_, rfl⟩
  refine Goes.by (fun _ k => XS.istore X0.here hx rfl (hb hby at_14) rfl (l' := #[.val (.long pa), .second, .val (.int pb), .val (.int pc0), .val (.long x1), .second, .val (.int x2), .unset, .unset, .unset, .unset, .unset, .unset, .unset, .unset, .unset, .unset, .unset, .unset, .unset, .unset, .unset]) (by rw [hx2]; rfl) k) ?_
  show Goes p.tables e below (s₁.setTop (mkF m 16 #[.val (.long pa), .second, .val (.int pb), .val (.int pc0), .val (.long x1), .second, .val (.int x2), .unset, .unset, .unset, .unset, .unset, .unset, .unset, .unset, .unset, .unset, .unset, .unset, .unset, .unset, .unset] [])) _
  refine Goes.by (fun _ k => XS.iloadN X0.here hx rfl (hb hby at_16) rfl k) ?_
  show Goes p.tables e below (s₁.setTop (mkF m 17 #[.val (.long pa), .second, .val (.int pb), .val (.int pc0), .val (.long x1), .second, .val (.int x2), .unset, .unset, .unset, .unset, .unset, .unset, .unset, .unset, .unset, .unset, .unset, .unset, .unset, .unset, .unset] [(.int pb)])) _
  refine Goes.by (fun _ k => XS.iconst X0.here hx rfl (hb hby at_17) k) ?_
  show Goes p.tables e below (s₁.setTop (mkF m 18 #[.val (.long pa), .second, .val (.int pb), .val (.int pc0), .val (.long x1), .second, .val (.int x2), .unset, .unset, .unset, .unset, .unset, .unset, .unset, .unset, .unset, .unset, .unset, .unset, .unset, .unset, .unset] [(.int (2 : Int32)), (.int pb)])) _
  refine Goes.by (fun _ k => XS.iushr X0.here hx rfl (hb hby at_18) rfl k) ?_
  show Goes p.tables e below (s₁.setTop (mkF m 19 #[.val (.long pa), .second, .val (.int pb), .val (.int pc0), .val (.long x1), .second, .val (.int x2), .unset, .unset, .unset, .unset, .unset, .unset, .unset, .unset, .unset, .unset, .unset, .unset, .unset, .unset, .unset] [(.int ((pb.toUInt32 >>> ((2 : Int32) &&& 31).toUInt32).toInt32))])) _
  refine Goes.by (fun _ k => XS.bipush X0.here hx rfl (hb hby at_19) k) ?_
  show Goes p.tables e below (s₁.setTop (mkF m 21 #[.val (.long pa), .second, .val (.int pb), .val (.int pc0), .val (.long x1), .second, .val (.int x2), .unset, .unset, .unset, .unset, .unset, .unset, .unset, .unset, .unset, .unset, .unset, .unset, .unset, .unset, .unset] [(.int (7 : Int32)), (.int ((pb.toUInt32 >>> ((2 : Int32) &&& 31).toUInt32).toInt32))])) _
  refine Goes.by (fun _ k => XS.iand X0.here hx rfl (hb hby at_21) rfl k) ?_
  show Goes p.tables e below (s₁.setTop (mkF m 22 #[.val (.long pa), .second, .val (.int pb), .val (.int pc0), .val (.long x1), .second, .val (.int x2), .unset, .unset, .unset, .unset, .unset, .unset, .unset, .unset, .unset, .unset, .unset, .unset, .unset, .unset, .unset] [(.int (((pb.toUInt32 >>> ((2 : Int32) &&& 31).toUInt32).toInt32) &&& (7 : Int32)))])) _
  obtain ⟨x3, hx3⟩ : ∃ z : Int32, z = (((pb.toUInt32 >>> ((2 : Int32) &&& 31).toUInt32).toInt32) &&& (7 : Int32)) := ⟨_, rfl⟩
  refine Goes.by (fun _ k => XS.istore X0.here hx rfl (hb hby at_22) rfl (l' := #[.val (.long pa), .second, .val (.int pb), .val (.int pc0), .val (.long x1), .second, .val (.int x2), .val (.int x3), .unset, .unset, .unset, .unset, .unset, .unset, .unset, .unset, .unset, .unset, .unset, .unset, .unset, .unset]) (by rw [hx3]; rfl) k) ?_
  show Goes p.tables e below (s₁.setTop (mkF m 24 #[.val (.long pa), .second, .val (.int pb), .val (.int pc0), .val (.long x1), .second, .val (.int x2), .val (.int x3), .unset, .unset, .unset, .unset, .unset, .unset, .unset, .unset, .unset, .unset, .unset, .unset, .unset, .unset] [])) _
  refine Goes.by (fun _ k => XS.iloadN X0.here hx rfl (hb hby at_24) rfl k) ?_
  show Goes p.tables e below (s₁.setTop (mkF m 25 #[.val (.long pa), .second, .val (.int pb), .val (.int pc0), .val (.long x1), .second, .val (.int x2), .val (.int x3), .unset, .unset, .unset, .unset, .unset, .unset, .unset, .unset, .unset, .unset, .unset, .unset, .unset, .unset] [(.int pc0)])) _
  refine Goes.by (fun _ k => XS.iconst X0.here hx rfl (hb hby at_25) k) ?_
  show Goes p.tables e below (s₁.setTop (mkF m 26 #[.val (.long pa), .second, .val (.int pb), .val (.int pc0), .val (.long x1), .second, .val (.int x2), .val (.int x3), .unset, .unset, .unset, .unset, .unset, .unset, .unset, .unset, .unset, .unset, .unset, .unset, .unset, .unset] [(.int (1 : Int32)), (.int pc0)])) _
  refine Goes.by (fun _ k => XS.iushr X0.here hx rfl (hb hby at_26) rfl k) ?_
  show Goes p.tables e below (s₁.setTop (mkF m 27 #[.val (.long pa), .second, .val (.int pb), .val (.int pc0), .val (.long x1), .second, .val (.int x2), .val (.int x3), .unset, .unset, .unset, .unset, .unset, .unset, .unset, .unset, .unset, .unset, .unset, .unset, .unset, .unset] [(.int ((pc0.toUInt32 >>> ((1 : Int32) &&& 31).toUInt32).toInt32))])) _
  refine Goes.by (fun _ k => X0.ldcI hx hown (mvT hZ (hw _ (List.mem_of_getElem? (i := 1) rfl))) (g := (mkF m 27 #[.val (.long pa), .second, .val (.int pb), .val (.int pc0), .val (.long x1), .second, .val (.int x2), .val (.int x3), .unset, .unset, .unset, .unset, .unset, .unset, .unset, .unset, .unset, .unset, .unset, .unset, .unset, .unset] [(.int ((pc0.toUInt32 >>> ((1 : Int32) &&& 31).toUInt32).toInt32))])) rfl (hb hby at_27) k) ?_
  show Goes p.tables e below (s₁.setTop (mkF m 29 #[.val (.long pa), .second, .val (.int pb), .val (.int pc0), .val (.long x1), .second, .val (.int x2), .val (.int x3), .unset, .unset, .unset, .unset, .unset, .unset, .unset, .unset, .unset, .unset, .unset, .unset, .unset, .unset] [(.int (2147483647 : Int32)), (.int ((pc0.toUInt32 >>> ((1 : Int32) &&& 31).toUInt32).toInt32))])) _
  refine Goes.by (fun _ k => XS.iand X0.here hx rfl (hb hby at_29) rfl k) ?_
  show Goes p.tables e below (s₁.setTop (mkF m 30 #[.val (.long pa), .second, .val (.int pb), .val (.int pc0), .val (.long x1), .second, .val (.int x2), .val (.int x3), .unset, .unset, .unset, .unset, .unset, .unset, .unset, .unset, .unset, .unset, .unset, .unset, .unset, .unset] [(.int (((pc0.toUInt32 >>> ((1 : Int32) &&& 31).toUInt32).toInt32) &&& (2147483647 : Int32)))])) _
  refine Goes.by (fun _ k => XS.bipush X0.here hx rfl (hb hby at_30) k) ?_
  show Goes p.tables e below (s₁.setTop (mkF m 32 #[.val (.long pa), .second, .val (.int pb), .val (.int pc0), .val (.long x1), .second, .val (.int x2), .val (.int x3), .unset, .unset, .unset, .unset, .unset, .unset, .unset, .unset, .unset, .unset, .unset, .unset, .unset, .unset] [(.int (10 : Int32)), (.int (((pc0.toUInt32 >>> ((1 : Int32) &&& 31).toUInt32).toInt32) &&& (2147483647 : Int32)))])) _
  refine Goes.by (fun _ k => iremM X0 hx rfl (hb hby at_32) rfl (by decide) k) ?_
  show Goes p.tables e below (s₁.setTop (mkF m 33 #[.val (.long pa), .second, .val (.int pb), .val (.int pc0), .val (.long x1), .second, .val (.int x2), .val (.int x3), .unset, .unset, .unset, .unset, .unset, .unset, .unset, .unset, .unset, .unset, .unset, .unset, .unset, .unset] [(.int ((((pc0.toUInt32 >>> ((1 : Int32) &&& 31).toUInt32).toInt32) &&& (2147483647 : Int32)) % (10 : Int32)))])) _
  obtain ⟨x4, hx4⟩ : ∃ z : Int32, z = ((((pc0.toUInt32 >>> ((1 : Int32) &&& 31).toUInt32).toInt32) &&& (2147483647 : Int32)) % (10 : Int32)) := ⟨_, rfl⟩
  refine Goes.by (fun _ k => XS.istore X0.here hx rfl (hb hby at_33) rfl (l' := #[.val (.long pa), .second, .val (.int pb), .val (.int pc0), .val (.long x1), .second, .val (.int x2), .val (.int x3), .val (.int x4), .unset, .unset, .unset, .unset, .unset, .unset, .unset, .unset, .unset, .unset, .unset, .unset, .unset]) (by rw [hx4]; rfl) k) ?_
  show Goes p.tables e below (s₁.setTop (mkF m 35 #[.val (.long pa), .second, .val (.int pb), .val (.int pc0), .val (.long x1), .second, .val (.int x2), .val (.int x3), .val (.int x4), .unset, .unset, .unset, .unset, .unset, .unset, .unset, .unset, .unset, .unset, .unset, .unset, .unset] [])) _
  refine Goes.by (fun _ k => XS.iloadN X0.here hx rfl (hb hby at_35) rfl k) ?_
  show Goes p.tables e below (s₁.setTop (mkF m 36 #[.val (.long pa), .second, .val (.int pb), .val (.int pc0), .val (.long x1), .second, .val (.int x2), .val (.int x3), .val (.int x4), .unset, .unset, .unset, .unset, .unset, .unset, .unset, .unset, .unset, .unset, .unset, .unset, .unset] [(.int pc0)])) _
  refine Goes.by (fun _ k => XS.iconst X0.here hx rfl (hb hby at_36) k) ?_
  show Goes p.tables e below (s₁.setTop (mkF m 37 #[.val (.long pa), .second, .val (.int pb), .val (.int pc0), .val (.long x1), .second, .val (.int x2), .val (.int x3), .val (.int x4), .unset, .unset, .unset, .unset, .unset, .unset, .unset, .unset, .unset, .unset, .unset, .unset, .unset] [(.int (1 : Int32)), (.int pc0)])) _
  refine Goes.by (fun _ k => XS.iand X0.here hx rfl (hb hby at_37) rfl k) ?_
  show Goes p.tables e below (s₁.setTop (mkF m 38 #[.val (.long pa), .second, .val (.int pb), .val (.int pc0), .val (.long x1), .second, .val (.int x2), .val (.int x3), .val (.int x4), .unset, .unset, .unset, .unset, .unset, .unset, .unset, .unset, .unset, .unset, .unset, .unset, .unset] [(.int (pc0 &&& (1 : Int32)))])) _
  obtain ⟨v5, hv5⟩ : ∃ z : Int32, z = (if (pc0 &&& (1 : Int32)) = (0 : Int32) then (0 : Int32) else (1 : Int32)) := ⟨_, rfl⟩
  refine Goes.by (t' := s₁.setTop (mkF m 46 #[.val (.long pa), .second, .val (.int pb), .val (.int pc0), .val (.long x1), .second, .val (.int x2), .val (.int x3), .val (.int x4), .unset, .unset, .unset, .unset, .unset, .unset, .unset, .unset, .unset, .unset, .unset, .unset, .unset] [(.int v5)])) (fun u k => ?_) ?_
  · show Steps p.tables e below (s₁.setTop (mkF m 38 #[.val (.long pa), .second, .val (.int pb), .val (.int pc0), .val (.long x1), .second, .val (.int x2), .val (.int x3), .val (.int x4), .unset, .unset, .unset, .unset, .unset, .unset, .unset, .unset, .unset, .unset, .unset, .unset, .unset] [(.int (pc0 &&& (1 : Int32)))])) _
    by_cases hc6 : (pc0 &&& (1 : Int32)) = (0 : Int32)
    · refine XS.ifYes X0.here hx rfl (pc0 := 38) (pc' := 45) rfl (hb hby at_38) rfl ((if0 _ _).trans (teq hc6).1) (by decide) (by decide) ?_
      show Steps p.tables e below (s₁.setTop (mkF m 45 #[.val (.long pa), .second, .val (.int pb), .val (.int pc0), .val (.long x1), .second, .val (.int x2), .val (.int x3), .val (.int x4), .unset, .unset, .unset, .unset, .unset, .unset, .unset, .unset, .unset, .unset, .unset, .unset, .unset] [])) _
      refine XS.iconst X0.here hx rfl (hb hby at_45) ?_
      show Steps p.tables e below (s₁.setTop (mkF m 46 #[.val (.long pa), .second, .val (.int pb), .val (.int pc0), .val (.long x1), .second, .val (.int x2), .val (.int x3), .val (.int x4), .unset, .unset, .unset, .unset, .unset, .unset, .unset, .unset, .unset, .unset, .unset, .unset, .unset] [(.int (0 : Int32))])) _
      have qv5 : v5 = (0 : Int32) := by rw [hv5, if_pos hc6]
      subst qv5
      exact k
    · refine XS.ifNo X0.here hx rfl (hb hby at_38) rfl ((if0 _ _).trans (feq hc6).1) ?_
      show Steps p.tables e below (s₁.setTop (mkF m 41 #[.val (.long pa), .second, .val (.int pb), .val (.int pc0), .val (.long x1), .second, .val (.int x2), .val (.int x3), .val (.int x4), .unset, .unset, .unset, .unset, .unset, .unset, .unset, .unset, .unset, .unset, .unset, .unset, .unset] [])) _
      refine XS.iconst X0.here hx rfl (hb hby at_41) ?_
      show Steps p.tables e below (s₁.setTop (mkF m 42 #[.val (.long pa), .second, .val (.int pb), .val (.int pc0), .val (.long x1), .second, .val (.int x2), .val (.int x3), .val (.int x4), .unset, .unset, .unset, .unset, .unset, .unset, .unset, .unset, .unset, .unset, .unset, .unset, .unset] [(.int (1 : Int32))])) _
      refine XS.goto X0.here hx rfl (pc0 := 42) (pc' := 46) rfl (hb hby at_42) (by decide) (by decide) ?_
      show Steps p.tables e below (s₁.setTop (mkF m 46 #[.val (.long pa), .second, .val (.int pb), .val (.int pc0), .val (.long x1), .second, .val (.int x2), .val (.int x3), .val (.int x4), .unset, .unset, .unset, .unset, .unset, .unset, .unset, .unset, .unset, .unset, .unset, .unset, .unset] [(.int (1 : Int32))])) _
      have qv5 : v5 = (1 : Int32) := by rw [hv5, if_neg hc6]
      subst qv5
      exact k
  show Goes p.tables e below (s₁.setTop (mkF m 46 #[.val (.long pa), .second, .val (.int pb), .val (.int pc0), .val (.long x1), .second, .val (.int x2), .val (.int x3), .val (.int x4), .unset, .unset, .unset, .unset, .unset, .unset, .unset, .unset, .unset, .unset, .unset, .unset, .unset] [(.int v5)])) _
  refine Goes.by (fun _ k => XS.istore X0.here hx rfl (hb hby at_46) rfl (l' := #[.val (.long pa), .second, .val (.int pb), .val (.int pc0), .val (.long x1), .second, .val (.int x2), .val (.int x3), .val (.int x4), .val (.int v5), .unset, .unset, .unset, .unset, .unset, .unset, .unset, .unset, .unset, .unset, .unset, .unset]) rfl k) ?_
  show Goes p.tables e below (s₁.setTop (mkF m 48 #[.val (.long pa), .second, .val (.int pb), .val (.int pc0), .val (.long x1), .second, .val (.int x2), .val (.int x3), .val (.int x4), .val (.int v5), .unset, .unset, .unset, .unset, .unset, .unset, .unset, .unset, .unset, .unset, .unset, .unset] [])) _
  refine Goes.by (fun _ k => XS.lload X0.here hx rfl (hb hby at_48) rfl k) ?_
  show Goes p.tables e below (s₁.setTop (mkF m 50 #[.val (.long pa), .second, .val (.int pb), .val (.int pc0), .val (.long x1), .second, .val (.int x2), .val (.int x3), .val (.int x4), .val (.int v5), .unset, .unset, .unset, .unset, .unset, .unset, .unset, .unset, .unset, .unset, .unset, .unset] [(.long x1)])) _
  refine Goes.by (fun _ k => XS.iload X0.here hx rfl (hb hby at_50) rfl k) ?_
  show Goes p.tables e below (s₁.setTop (mkF m 52 #[.val (.long pa), .second, .val (.int pb), .val (.int pc0), .val (.long x1), .second, .val (.int x2), .val (.int x3), .val (.int x4), .val (.int v5), .unset, .unset, .unset, .unset, .unset, .unset, .unset, .unset, .unset, .unset, .unset, .unset] [(.int x2), (.long x1)])) _
  refine Goes.by (fun _ k => XS.i2l X0.here hx rfl (hb hby at_52) rfl k) ?_
  show Goes p.tables e below (s₁.setTop (mkF m 53 #[.val (.long pa), .second, .val (.int pb), .val (.int pc0), .val (.long x1), .second, .val (.int x2), .val (.int x3), .val (.int x4), .val (.int v5), .unset, .unset, .unset, .unset, .unset, .unset, .unset, .unset, .unset, .unset, .unset, .unset] [(.long (x2.toInt64)), (.long x1)])) _
  refine Goes.by (fun _ k => XS.lmul X0.here hx rfl (hb hby at_53) rfl k) ?_
  show Goes p.tables e below (s₁.setTop (mkF m 54 #[.val (.long pa), .second, .val (.int pb), .val (.int pc0), .val (.long x1), .second, .val (.int x2), .val (.int x3), .val (.int x4), .val (.int v5), .unset, .unset, .unset, .unset, .unset, .unset, .unset, .unset, .unset, .unset, .unset, .unset] [(.long (x1 * (x2.toInt64)))])) _
  obtain ⟨x7, hx7⟩ : ∃ z : Int64, z = (x1 * (x2.toInt64)) := ⟨_, rfl⟩
  refine Goes.by (fun _ k => XS.lstore X0.here hx rfl (hb hby at_54) rfl (l' := #[.val (.long pa), .second, .val (.int pb), .val (.int pc0), .val (.long x1), .second, .val (.int x2), .val (.int x3), .val (.int x4), .val (.int v5), .val (.long x7), .second, .unset, .unset, .unset, .unset, .unset, .unset, .unset, .unset, .unset, .unset]) (by rw [hx7]; rfl) k) ?_
  show Goes p.tables e below (s₁.setTop (mkF m 56 #[.val (.long pa), .second, .val (.int pb), .val (.int pc0), .val (.long x1), .second, .val (.int x2), .val (.int x3), .val (.int x4), .val (.int v5), .val (.long x7), .second, .unset, .unset, .unset, .unset, .unset, .unset, .unset, .unset, .unset, .unset] [])) _
  refine Goes.by (fun _ k => XS.iload X0.here hx rfl (hb hby at_56) rfl k) ?_
  show Goes p.tables e below (s₁.setTop (mkF m 58 #[.val (.long pa), .second, .val (.int pb), .val (.int pc0), .val (.long x1), .second, .val (.int x2), .val (.int x3), .val (.int x4), .val (.int v5), .val (.long x7), .second, .unset, .unset, .unset, .unset, .unset, .unset, .unset, .unset, .unset, .unset] [(.int x2)])) _
  refine Goes.by (fun _ k => XS.i2l X0.here hx rfl (hb hby at_58) rfl k) ?_
  show Goes p.tables e below (s₁.setTop (mkF m 59 #[.val (.long pa), .second, .val (.int pb), .val (.int pc0), .val (.long x1), .second, .val (.int x2), .val (.int x3), .val (.int x4), .val (.int v5), .val (.long x7), .second, .unset, .unset, .unset, .unset, .unset, .unset, .unset, .unset, .unset, .unset] [(.long (x2.toInt64))])) _
  refine Goes.by (fun _ k => XS.lconst X0.here hx rfl (hb hby at_59) k) ?_
  show Goes p.tables e below (s₁.setTop (mkF m 60 #[.val (.long pa), .second, .val (.int pb), .val (.int pc0), .val (.long x1), .second, .val (.int x2), .val (.int x3), .val (.int x4), .val (.int v5), .val (.long x7), .second, .unset, .unset, .unset, .unset, .unset, .unset, .unset, .unset, .unset, .unset] [(.long (1 : Int64)), (.long (x2.toInt64))])) _
  refine Goes.by (fun _ k => XS.iload X0.here hx rfl (hb hby at_60) rfl k) ?_
  show Goes p.tables e below (s₁.setTop (mkF m 62 #[.val (.long pa), .second, .val (.int pb), .val (.int pc0), .val (.long x1), .second, .val (.int x2), .val (.int x3), .val (.int x4), .val (.int v5), .val (.long x7), .second, .unset, .unset, .unset, .unset, .unset, .unset, .unset, .unset, .unset, .unset] [(.int x3), (.long (1 : Int64)), (.long (x2.toInt64))])) _
  refine Goes.by (fun _ k => XS.lshl X0.here hx rfl (hb hby at_62) rfl k) ?_
  show Goes p.tables e below (s₁.setTop (mkF m 63 #[.val (.long pa), .second, .val (.int pb), .val (.int pc0), .val (.long x1), .second, .val (.int x2), .val (.int x3), .val (.int x4), .val (.int v5), .val (.long x7), .second, .unset, .unset, .unset, .unset, .unset, .unset, .unset, .unset, .unset, .unset] [(.long ((1 : Int64) <<< (x3 &&& 0x3f).toInt64)), (.long (x2.toInt64))])) _
  refine Goes.by (fun _ k => XS.lmul X0.here hx rfl (hb hby at_63) rfl k) ?_
  show Goes p.tables e below (s₁.setTop (mkF m 64 #[.val (.long pa), .second, .val (.int pb), .val (.int pc0), .val (.long x1), .second, .val (.int x2), .val (.int x3), .val (.int x4), .val (.int v5), .val (.long x7), .second, .unset, .unset, .unset, .unset, .unset, .unset, .unset, .unset, .unset, .unset] [(.long ((x2.toInt64) * ((1 : Int64) <<< (x3 &&& 0x3f).toInt64)))])) _
  refine Goes.by (fun _ k => XS.iload X0.here hx rfl (hb hby at_64) rfl k) ?_
  show Goes p.tables e below (s₁.setTop (mkF m 66 #[.val (.long pa), .second, .val (.int pb), .val (.int pc0), .val (.long x1), .second, .val (.int x2), .val (.int x3), .val (.int x4), .val (.int v5), .val (.long x7), .second, .unset, .unset, .unset, .unset, .unset, .unset, .unset, .unset, .unset, .unset] [(.int x4), (.long ((x2.toInt64) * ((1 : Int64) <<< (x3 &&& 0x3f).toInt64)))])) _
  obtain ⟨_, _, ⟨T8, L8, k8, n8⟩, -, X8, ⟨Lc8, hQ8, l8, y8, z8⟩, st8⟩ := Jvm.LawKit.callS X0 hx (y := (⟨"com/example/firm_quote/firmquote/bench/RatePerSecondPinLaw", "pow10", "(I)J"⟩ : MethodName)) hown (mvT hZ (hw _ (List.mem_of_getElem? (i := 2) rfl))) (mvT hZ (hw _ (List.mem_of_getElem? (i := 3) rfl))) (mvT hZ (hw _ (List.mem_of_getElem? (i := 4) rfl))) (mvT hZ (hw _ (List.mem_of_getElem? (i := 5) rfl))) (by decide) (backOf (W := 2) (rm1 l Z a0 hw [] x4 h0 n0 Z0 (by rw [hx4]; exact own_k _)) hZ (hw _ (List.mem_of_getElem? (i := 5) rfl)) (hw _ (List.mem_of_getElem? (i := 4) rfl)) (by decide) (by decide)) (g := (mkF m 66 #[.val (.long pa), .second, .val (.int pb), .val (.int pc0), .val (.long x1), .second, .val (.int x2), .val (.int x3), .val (.int x4), .val (.int v5), .val (.long x7), .second, .unset, .unset, .unset, .unset, .unset, .unset, .unset, .unset, .unset, .unset] [(.int x4), (.long ((x2.toInt64) * ((1 : Int64) <<< (x3 &&& 0x3f).toInt64)))])) rfl (by rw [hml]; rfl) (argsL := [(.int x4)]) (rest := [(.long ((x2.toInt64) * ((1 : Int64) <<< (x3 &&& 0x3f).toInt64)))]) (lenOf pd_1 rfl) rfl (by show 2 * 0 + (2 + 0) ≤ _; decide) (hb hby at_66) (fun _ _ => ⟨rfl, e0, (by decide : 0 + 1 ≤ _), (by decide : 0 + 10 ≤ _)⟩)
  dsimp only [Pt.U, Pt.locs, Pt.cells, Pt.slots] at X8 l8 y8 z8 st8 hQ8
  rw [l8, y8, z8] at X8
  obtain ⟨rfl, N8q, Kq8⟩ := hQ8
  have N8 := Fr.app N0 N8q
  refine Goes.by st8 ?_
  have Zs8 : n0 ≤ T8.heap.size := Nat.le_trans Z0 Kq8.1
  have K8 : Keep h0 T8.heap [] := (Keep.refl h0 []).trans Kq8 all0
  show Goes p.tables e below (T8.setTop (mkF m 69 #[.val (.long pa), .second, .val (.int pb), .val (.int pc0), .val (.long x1), .second, .val (.int x2), .val (.int x3), .val (.int x4), .val (.int v5), .val (.long x7), .second, .unset, .unset, .unset, .unset, .unset, .unset, .unset, .unset, .unset, .unset] [(.long (own_p10 x4)), (.long ((x2.toInt64) * ((1 : Int64) <<< (x3 &&& 0x3f).toInt64)))])) _
  refine Goes.by (fun _ k => XS.lmul X8.here hx rfl (hb hby at_69) rfl k) ?_
  show Goes p.tables e below (T8.setTop (mkF m 70 #[.val (.long pa), .second, .val (.int pb), .val (.int pc0), .val (.long x1), .second, .val (.int x2), .val (.int x3), .val (.int x4), .val (.int v5), .val (.long x7), .second, .unset, .unset, .unset, .unset, .unset, .unset, .unset, .unset, .unset, .unset] [(.long (((x2.toInt64) * ((1 : Int64) <<< (x3 &&& 0x3f).toInt64)) * (own_p10 x4)))])) _
  obtain ⟨x9, hx9⟩ : ∃ z : Int64, z = (((x2.toInt64) * ((1 : Int64) <<< (x3 &&& 0x3f).toInt64)) * (own_p10 x4)) := ⟨_, rfl⟩
  refine Goes.by (fun _ k => XS.lstore X8.here hx rfl (hb hby at_70) rfl (l' := #[.val (.long pa), .second, .val (.int pb), .val (.int pc0), .val (.long x1), .second, .val (.int x2), .val (.int x3), .val (.int x4), .val (.int v5), .val (.long x7), .second, .val (.long x9), .second, .unset, .unset, .unset, .unset, .unset, .unset, .unset, .unset]) (by rw [hx9]; rfl) k) ?_
  show Goes p.tables e below (T8.setTop (mkF m 72 #[.val (.long pa), .second, .val (.int pb), .val (.int pc0), .val (.long x1), .second, .val (.int x2), .val (.int x3), .val (.int x4), .val (.int v5), .val (.long x7), .second, .val (.long x9), .second, .unset, .unset, .unset, .unset, .unset, .unset, .unset, .unset] [])) _
  refine Goes.by (fun _ k => XS.iload X8.here hx rfl (hb hby at_72) rfl k) ?_
  show Goes p.tables e below (T8.setTop (mkF m 74 #[.val (.long pa), .second, .val (.int pb), .val (.int pc0), .val (.long x1), .second, .val (.int x2), .val (.int x3), .val (.int x4), .val (.int v5), .val (.long x7), .second, .val (.long x9), .second, .unset, .unset, .unset, .unset, .unset, .unset, .unset, .unset] [(.int v5)])) _
  obtain ⟨v10, hv10⟩ : ∃ z : Int64, z = (if v5 = (0 : Int32) then x9 else (-x9)) := ⟨_, rfl⟩
  refine Goes.by (t' := T8.setTop (mkF m 85 #[.val (.long pa), .second, .val (.int pb), .val (.int pc0), .val (.long x1), .second, .val (.int x2), .val (.int x3), .val (.int x4), .val (.int v5), .val (.long x7), .second, .val (.long x9), .second, .unset, .unset, .unset, .unset, .unset, .unset, .unset, .unset] [(.long v10)])) (fun u k => ?_) ?_
  · show Steps p.tables e below (T8.setTop (mkF m 74 #[.val (.long pa), .second, .val (.int pb), .val (.int pc0), .val (.long x1), .second, .val (.int x2), .val (.int x3), .val (.int x4), .val (.int v5), .val (.long x7), .second, .val (.long x9), .second, .unset, .unset, .unset, .unset, .unset, .unset, .unset, .unset] [(.int v5)])) _
    by_cases hc11 : v5 = (0 : Int32)
    · refine XS.ifYes X8.here hx rfl (pc0 := 74) (pc' := 83) rfl (hb hby at_74) rfl ((if0 _ _).trans (teq hc11).1) (by decide) (by decide) ?_
      show Steps p.tables e below (T8.setTop (mkF m 83 #[.val (.long pa), .second, .val (.int pb), .val (.int pc0), .val (.long x1), .second, .val (.int x2), .val (.int x3), .val (.int x4), .val (.int v5), .val (.long x7), .second, .val (.long x9), .second, .unset, .unset, .unset, .unset, .unset, .unset, .unset, .unset] [])) _
      refine XS.lload X8.here hx rfl (hb hby at_83) rfl ?_
      show Steps p.tables e below (T8.setTop (mkF m 85 #[.val (.long pa), .second, .val (.int pb), .val (.int pc0), .val (.long x1), .second, .val (.int x2), .val (.int x3), .val (.int x4), .val (.int v5), .val (.long x7), .second, .val (.long x9), .second, .unset, .unset, .unset, .unset, .unset, .unset, .unset, .unset] [(.long x9)])) _
      have qv10 : v10 = x9 := by rw [hv10, if_pos hc11]
      subst qv10
      exact k
    · refine XS.ifNo X8.here hx rfl (hb hby at_74) rfl ((if0 _ _).trans (feq hc11).1) ?_
      show Steps p.tables e below (T8.setTop (mkF m 77 #[.val (.long pa), .second, .val (.int pb), .val (.int pc0), .val (.long x1), .second, .val (.int x2), .val (.int x3), .val (.int x4), .val (.int v5), .val (.long x7), .second, .val (.long x9), .second, .unset, .unset, .unset, .unset, .unset, .unset, .unset, .unset] [])) _
      refine XS.lload X8.here hx rfl (hb hby at_77) rfl ?_
      show Steps p.tables e below (T8.setTop (mkF m 79 #[.val (.long pa), .second, .val (.int pb), .val (.int pc0), .val (.long x1), .second, .val (.int x2), .val (.int x3), .val (.int x4), .val (.int v5), .val (.long x7), .second, .val (.long x9), .second, .unset, .unset, .unset, .unset, .unset, .unset, .unset, .unset] [(.long x9)])) _
      refine XS.lneg X8.here hx rfl (hb hby at_79) rfl ?_
      show Steps p.tables e below (T8.setTop (mkF m 80 #[.val (.long pa), .second, .val (.int pb), .val (.int pc0), .val (.long x1), .second, .val (.int x2), .val (.int x3), .val (.int x4), .val (.int v5), .val (.long x7), .second, .val (.long x9), .second, .unset, .unset, .unset, .unset, .unset, .unset, .unset, .unset] [(.long (-x9))])) _
      refine XS.goto X8.here hx rfl (pc0 := 80) (pc' := 85) rfl (hb hby at_80) (by decide) (by decide) ?_
      show Steps p.tables e below (T8.setTop (mkF m 85 #[.val (.long pa), .second, .val (.int pb), .val (.int pc0), .val (.long x1), .second, .val (.int x2), .val (.int x3), .val (.int x4), .val (.int v5), .val (.long x7), .second, .val (.long x9), .second, .unset, .unset, .unset, .unset, .unset, .unset, .unset, .unset] [(.long (-x9))])) _
      have qv10 : v10 = (-x9) := by rw [hv10, if_neg hc11]
      subst qv10
      exact k
  show Goes p.tables e below (T8.setTop (mkF m 85 #[.val (.long pa), .second, .val (.int pb), .val (.int pc0), .val (.long x1), .second, .val (.int x2), .val (.int x3), .val (.int x4), .val (.int v5), .val (.long x7), .second, .val (.long x9), .second, .unset, .unset, .unset, .unset, .unset, .unset, .unset, .unset] [(.long v10)])) _
  refine Goes.by (fun _ k => XS.lstore X8.here hx rfl (hb hby at_85) rfl (l' := #[.val (.long pa), .second, .val (.int pb), .val (.int pc0), .val (.long x1), .second, .val (.int x2), .val (.int x3), .val (.int x4), .val (.int v5), .val (.long x7), .second, .val (.long x9), .second, .val (.long v10), .second, .unset, .unset, .unset, .unset, .unset, .unset]) rfl k) ?_
  show Goes p.tables e below (T8.setTop (mkF m 87 #[.val (.long pa), .second, .val (.int pb), .val (.int pc0), .val (.long x1), .second, .val (.int x2), .val (.int x3), .val (.int x4), .val (.int v5), .val (.long x7), .second, .val (.long x9), .second, .val (.long v10), .second, .unset, .unset, .unset, .unset, .unset, .unset] [])) _
  obtain ⟨T12, h12, X12, e12, E12, A12, D12, -, st12⟩ := newO X8 hx hZ hown (hw _ (List.mem_of_getElem? (i := 16) rfl)) (hw _ (List.mem_of_getElem? (i := 17) rfl)) (hw _ (List.mem_of_getElem? (i := 18) rfl)) rfl (g := (mkF m 87 #[.val (.long pa), .second, .val (.int pb), .val (.int pc0), .val (.long x1), .second, .val (.int x2), .val (.int x3), .val (.int x4), .val (.int v5), .val (.long x7), .second, .val (.long x9), .second, .val (.long v10), .second, .unset, .unset, .unset, .unset, .unset, .unset] [])) rfl (hb hby at_87) (by decide) (by decide)
  obtain ⟨b12, g12⟩ : ∃ z, z = T8.heap.size := ⟨_, rfl⟩
  rw [← g12] at A12 D12 st12
  have g_b12 : n0 ≤ b12 := Nat.le_trans Zs8 (Nat.le_of_eq g12.symm)
  have sz_b12 : h0.size ≤ b12 := Nat.le_trans K8.1 (Nat.le_of_eq g12.symm)
  have Zs12 : n0 ≤ h12.size := Nat.le_trans Zs8 E12.1
  have K12 : Keep h0 h12 [] := K8.ext E12
  refine Goes.by st12 ?_
  have E_b12 : Exa Z h12 b12 "com/example/firm_quote/firmquote/bench/Rate" := A12
  have F_b12_count : Fld Z h12 b12 "com/example/firm_quote/firmquote/bench/Rate" "count" "J" (.long (0 : Int64)) := D12 (Or.inr (hw _ (List.mem_of_getElem? (i := 31) rfl))) (ty := .long) (by decide)
  have F_b12_nanos : Fld Z h12 b12 "com/example/firm_quote/firmquote/bench/Rate" "nanos" "J" (.long (0 : Int64)) := D12 (Or.inr (hw _ (List.mem_of_getElem? (i := 33) rfl))) (ty := .long) (by decide)
  show Goes p.tables e below (T12.setTop (mkF m 90 #[.val (.long pa), .second, .val (.int pb), .val (.int pc0), .val (.long x1), .second, .val (.int x2), .val (.int x3), .val (.int x4), .val (.int v5), .val (.long x7), .second, .val (.long x9), .second, .val (.long v10), .second, .unset, .unset, .unset, .unset, .unset, .unset] [(.ref b12)])) _
  refine Goes.by (fun _ k => XS.dup X12.here hx rfl (hb hby at_90) rfl rfl k) ?_
  show Goes p.tables e below (T12.setTop (mkF m 91 #[.val (.long pa), .second, .val (.int pb), .val (.int pc0), .val (.long x1), .second, .val (.int x2), .val (.int x3), .val (.int x4), .val (.int v5), .val (.long x7), .second, .val (.long x9), .second, .val (.long v10), .second, .unset, .unset, .unset, .unset, .unset, .unset] [(.ref b12), (.ref b12)])) _
  refine Goes.by (fun _ k => XS.lload X12.here hx rfl (hb hby at_91) rfl k) ?_
  show Goes p.tables e below (T12.setTop (mkF m 93 #[.val (.long pa), .second, .val (.int pb), .val (.int pc0), .val (.long x1), .second, .val (.int x2), .val (.int x3), .val (.int x4), .val (.int v5), .val (.long x7), .second, .val (.long x9), .second, .val (.long v10), .second, .unset, .unset, .unset, .unset, .unset, .unset] [(.long x7), (.ref b12), (.ref b12)])) _
  refine Goes.by (fun _ k => XS.lload X12.here hx rfl (hb hby at_93) rfl k) ?_
  show Goes p.tables e below (T12.setTop (mkF m 95 #[.val (.long pa), .second, .val (.int pb), .val (.int pc0), .val (.long x1), .second, .val (.int x2), .val (.int x3), .val (.int x4), .val (.int v5), .val (.long x7), .second, .val (.long x9), .second, .val (.long v10), .second, .unset, .unset, .unset, .unset, .unset, .unset] [(.long v10), (.long x7), (.ref b12), (.ref b12)])) _
  obtain ⟨_, _, ⟨T13, L13, k13, n13⟩, -, X13, ⟨Lc13, hQ13, l13, y13, z13⟩, st13⟩ := X12.specialBack hx (y := (⟨"com/example/firm_quote/firmquote/bench/Rate", "<init>", "(JJ)V"⟩ : MethodName)) rfl hown (mvT hZ (hw _ (List.mem_of_getElem? (i := 19) rfl))) (mvT hZ (hw _ (List.mem_of_getElem? (i := 20) rfl))) (mvT hZ (hw _ (List.mem_of_getElem? (i := 21) rfl))) (by decide) (backOf (W := 1) (rm2 l Z a0 hw [] b12 x7 v10 h12 n0 Zs12 E_b12 F_b12_count F_b12_nanos g_b12) hZ (hw _ (List.mem_of_getElem? (i := 21) rfl)) (hw _ (List.mem_of_getElem? (i := 18) rfl)) (by decide) (by decide)) (g := (mkF m 95 #[.val (.long pa), .second, .val (.int pb), .val (.int pc0), .val (.long x1), .second, .val (.int x2), .val (.int x3), .val (.int x4), .val (.int v5), .val (.long x7), .second, .val (.long x9), .second, .val (.long v10), .second, .unset, .unset, .unset, .unset, .unset, .unset] [(.long v10), (.long x7), (.ref b12), (.ref b12)])) rfl (by rw [hml]; rfl) (Steps.refl _) (a := b12) (argsL := [(.long x7), (.long v10)]) (rest := [(.ref b12)]) (lenOf pd_2 rfl) rfl (by show 2 * 0 + (1 + 0) ≤ _; decide) (hb hby at_95) (fun _ _ => ⟨rfl, e12, (by decide : 2 + 0 ≤ _), (by decide : 12 + 0 ≤ _)⟩)
  dsimp only [Pt.U, Pt.locs, Pt.cells, Pt.slots] at X13 l13 y13 z13 st13 hQ13
  rw [l13, y13, z13] at X13
  obtain ⟨rfl, N13q, Kq13, po13_0, po13_1, po13_2⟩ := hQ13
  have N13 := Fr.app N8 N13q
  refine Goes.via st13 ?_
  have Zs13 : n0 ≤ T13.heap.size := Nat.le_trans Zs12 Kq13.1
  have K13 : Keep h0 T13.heap [] := K12.trans Kq13 (allS (Or.inr sz_b12) all0)
  have E_b12 : Exa Z T13.heap b12 "com/example/firm_quote/firmquote/bench/Rate" := E_b12.keep Kq13
  have E_b12 : Exa Z T13.heap b12 "com/example/firm_quote/firmquote/bench/Rate" := po13_0
  have F_b12_count : Fld Z T13.heap b12 "com/example/firm_quote/firmquote/bench/Rate" "count" "J" (.long x7) := po13_1
  have F_b12_nanos : Fld Z T13.heap b12 "com/example/firm_quote/firmquote/bench/Rate" "nanos" "J" (.long v10) := po13_2
  show Goes p.tables e below (T13.setTop (mkF m 98 #[.val (.long pa), .second, .val (.int pb), .val (.int pc0), .val (.long x1), .second, .val (.int x2), .val (.int x3), .val (.int x4), .val (.int v5), .val (.long x7), .second, .val (.long x9), .second, .val (.long v10), .second, .unset, .unset, .unset, .unset, .unset, .unset] [(.ref b12)])) _
  have hA := own_all (q := x1) (d := x2) (j := x3) (k := x4) (n := v5) (nu := x1 * own_p10 (9 - x4)) (nv := if v5 = 0 then x1 * own_p10 (9 - x4) else -(x1 * own_p10 (9 - x4))) (by rw [hx1]; exact own_qr _) (by rw [hx2]; exact own_d _) (by rw [hx3]; exact own_j _) (by rw [hx4]; exact own_k _) hx7 hx9 hv10 rfl rfl
  obtain ⟨cq14, kq14, q14a, q14b, q14c⟩ := isOf hZ rfl E_b12
  obtain ⟨_, _, ⟨T14, L14, k14, n14⟩, -, X14, ⟨Lc14, hQ14, l14, y14, z14⟩, st14⟩ := X13.virtualBack hx (y := (⟨"com/example/firm_quote/firmquote/bench/Rate", "perSecond", "()D"⟩ : MethodName)) (z := (⟨"com/example/firm_quote/firmquote/bench/Rate", "perSecond", "()D"⟩ : MethodName)) hown (mvT hZ (hw _ (List.mem_of_getElem? (i := 34) rfl))) (mvT hZ (hw _ (List.mem_of_getElem? (i := 35) rfl))) (notFace_of_selects (args := #[]) (mvT hZ (hw _ (List.mem_of_getElem? (i := 37) rfl)))) (mvT hZ (hw _ (List.mem_of_getElem? (i := 37) rfl))) (mvT hZ (hw _ (List.mem_of_getElem? (i := 36) rfl))) (by decide) (backOf (W := 0) (rm5 l Z a0 hw [] b12 x7 v10 T13.heap n0 Zs13 F_b12_count F_b12_nanos (nn_w hA.1) (by rw [hA.1]; exact own_nn hA.2.1)) hZ (hw _ (List.mem_of_getElem? (i := 38) rfl)) (hw _ (List.mem_of_getElem? (i := 18) rfl)) (by decide) (by decide)) q14a q14c (g := (mkF m 98 #[.val (.long pa), .second, .val (.int pb), .val (.int pc0), .val (.long x1), .second, .val (.int x2), .val (.int x3), .val (.int x4), .val (.int v5), .val (.long x7), .second, .val (.long x9), .second, .val (.long v10), .second, .unset, .unset, .unset, .unset, .unset, .unset] [(.ref b12)])) rfl (by rw [hml]; rfl) (Steps.refl _) (argsL := []) (rest := []) (lenOf pd_3 rfl) rfl (by show 2 * 0 + _ ≤ _; exact Nat.le_of_eq rfl) (hb hby at_98) (fun _ _ => ⟨rfl, rfl, (by decide : 2 + 0 ≤ _), (by decide : 12 + 0 ≤ _)⟩)
  dsimp only [Pt.U, Pt.locs, Pt.cells, Pt.slots] at X14 l14 y14 z14 st14 hQ14
  rw [l14, y14, z14] at X14
  obtain ⟨rfl, N14q, e14⟩ := hQ14
  have N14 := Fr.app N13 N14q
  refine Goes.via st14 ?_
  show Goes p.tables e below (T14.setTop (mkF m 101 #[.val (.long pa), .second, .val (.int pb), .val (.int pc0), .val (.long x1), .second, .val (.int x2), .val (.int x3), .val (.int x4), .val (.int v5), .val (.long x7), .second, .val (.long x9), .second, .val (.long v10), .second, .unset, .unset, .unset, .unset, .unset, .unset] [(.double (FP.ddiv (FP.dmul (FP.l2d x7) (4741671816366391296 : UInt64)) (FP.l2d v10)))])) _
  refine Goes.by (fun _ k => XS.dstore X14.here hx rfl (hb hby at_101) rfl (l' := #[.val (.long pa), .second, .val (.int pb), .val (.int pc0), .val (.long x1), .second, .val (.int x2), .val (.int x3), .val (.int x4), .val (.int v5), .val (.long x7), .second, .val (.long x9), .second, .val (.long v10), .second, .val (.double (FP.ddiv (FP.dmul (FP.l2d x7) (4741671816366391296 : UInt64)) (FP.l2d v10))), .second, .unset, .unset, .unset, .unset]) rfl k) ?_
  show Goes p.tables e below (T14.setTop (mkF m 103 #[.val (.long pa), .second, .val (.int pb), .val (.int pc0), .val (.long x1), .second, .val (.int x2), .val (.int x3), .val (.int x4), .val (.int v5), .val (.long x7), .second, .val (.long x9), .second, .val (.long v10), .second, .val (.double (FP.ddiv (FP.dmul (FP.l2d x7) (4741671816366391296 : UInt64)) (FP.l2d v10))), .second, .unset, .unset, .unset, .unset] [])) _
  refine Goes.by (fun _ k => XS.lload X14.here hx rfl (hb hby at_103) rfl k) ?_
  show Goes p.tables e below (T14.setTop (mkF m 105 #[.val (.long pa), .second, .val (.int pb), .val (.int pc0), .val (.long x1), .second, .val (.int x2), .val (.int x3), .val (.int x4), .val (.int v5), .val (.long x7), .second, .val (.long x9), .second, .val (.long v10), .second, .val (.double (FP.ddiv (FP.dmul (FP.l2d x7) (4741671816366391296 : UInt64)) (FP.l2d v10))), .second, .unset, .unset, .unset, .unset] [(.long x1)])) _
  refine Goes.by (fun _ k => XS.bipush X14.here hx rfl (hb hby at_105) k) ?_
  show Goes p.tables e below (T14.setTop (mkF m 107 #[.val (.long pa), .second, .val (.int pb), .val (.int pc0), .val (.long x1), .second, .val (.int x2), .val (.int x3), .val (.int x4), .val (.int v5), .val (.long x7), .second, .val (.long x9), .second, .val (.long v10), .second, .val (.double (FP.ddiv (FP.dmul (FP.l2d x7) (4741671816366391296 : UInt64)) (FP.l2d v10))), .second, .unset, .unset, .unset, .unset] [(.int (9 : Int32)), (.long x1)])) _
  refine Goes.by (fun _ k => XS.iload X14.here hx rfl (hb hby at_107) rfl k) ?_
  show Goes p.tables e below (T14.setTop (mkF m 109 #[.val (.long pa), .second, .val (.int pb), .val (.int pc0), .val (.long x1), .second, .val (.int x2), .val (.int x3), .val (.int x4), .val (.int v5), .val (.long x7), .second, .val (.long x9), .second, .val (.long v10), .second, .val (.double (FP.ddiv (FP.dmul (FP.l2d x7) (4741671816366391296 : UInt64)) (FP.l2d v10))), .second, .unset, .unset, .unset, .unset] [(.int x4), (.int (9 : Int32)), (.long x1)])) _
  refine Goes.by (fun _ k => XS.isub X14.here hx rfl (hb hby at_109) rfl k) ?_
  show Goes p.tables e below (T14.setTop (mkF m 110 #[.val (.long pa), .second, .val (.int pb), .val (.int pc0), .val (.long x1), .second, .val (.int x2), .val (.int x3), .val (.int x4), .val (.int v5), .val (.long x7), .second, .val (.long x9), .second, .val (.long v10), .second, .val (.double (FP.ddiv (FP.dmul (FP.l2d x7) (4741671816366391296 : UInt64)) (FP.l2d v10))), .second, .unset, .unset, .unset, .unset] [(.int ((9 : Int32) - x4)), (.long x1)])) _
  obtain ⟨_, _, ⟨T15, L15, k15, n15⟩, -, X15, ⟨Lc15, hQ15, l15, y15, z15⟩, st15⟩ := Jvm.LawKit.callS X14 hx (y := (⟨"com/example/firm_quote/firmquote/bench/RatePerSecondPinLaw", "pow10", "(I)J"⟩ : MethodName)) hown (mvT hZ (hw _ (List.mem_of_getElem? (i := 2) rfl))) (mvT hZ (hw _ (List.mem_of_getElem? (i := 3) rfl))) (mvT hZ (hw _ (List.mem_of_getElem? (i := 4) rfl))) (mvT hZ (hw _ (List.mem_of_getElem? (i := 5) rfl))) (by decide) (backOf (W := 2) (rm1 l Z a0 hw [] ((9 : Int32) - x4) T13.heap n0 Zs13 (own_k9 _ (by rw [hx4]; exact own_k _))) hZ (hw _ (List.mem_of_getElem? (i := 5) rfl)) (hw _ (List.mem_of_getElem? (i := 4) rfl)) (by decide) (by decide)) (g := (mkF m 110 #[.val (.long pa), .second, .val (.int pb), .val (.int pc0), .val (.long x1), .second, .val (.int x2), .val (.int x3), .val (.int x4), .val (.int v5), .val (.long x7), .second, .val (.long x9), .second, .val (.long v10), .second, .val (.double (FP.ddiv (FP.dmul (FP.l2d x7) (4741671816366391296 : UInt64)) (FP.l2d v10))), .second, .unset, .unset, .unset, .unset] [(.int ((9 : Int32) - x4)), (.long x1)])) rfl (by rw [hml]; rfl) (argsL := [(.int ((9 : Int32) - x4))]) (rest := [(.long x1)]) (lenOf pd_1 rfl) rfl (by show 2 * 0 + (2 + 0) ≤ _; decide) (hb hby at_110) (fun _ _ => ⟨rfl, e14, (by decide : 2 + 1 ≤ _), (by decide : 12 + 10 ≤ _)⟩)
  dsimp only [Pt.U, Pt.locs, Pt.cells, Pt.slots] at X15 l15 y15 z15 st15 hQ15
  rw [l15, y15, z15] at X15
  obtain ⟨rfl, N15q, Kq15⟩ := hQ15
  have N15 := Fr.app N14 N15q
  refine Goes.by st15 ?_
  have Zs15 : n0 ≤ T15.heap.size := Nat.le_trans Zs13 Kq15.1
  have K15 : Keep h0 T15.heap [] := K13.trans Kq15 all0
  have E_b12 : Exa Z T15.heap b12 "com/example/firm_quote/firmquote/bench/Rate" := E_b12.keep Kq15
  have F_b12_count : Fld Z T15.heap b12 "com/example/firm_quote/firmquote/bench/Rate" "count" "J" (.long x7) := F_b12_count.keep Kq15 nin0
  have F_b12_nanos : Fld Z T15.heap b12 "com/example/firm_quote/firmquote/bench/Rate" "nanos" "J" (.long v10) := F_b12_nanos.keep Kq15 nin0
  show Goes p.tables e below (T15.setTop (mkF m 113 #[.val (.long pa), .second, .val (.int pb), .val (.int pc0), .val (.long x1), .second, .val (.int x2), .val (.int x3), .val (.int x4), .val (.int v5), .val (.long x7), .second, .val (.long x9), .second, .val (.long v10), .second, .val (.double (FP.ddiv (FP.dmul (FP.l2d x7) (4741671816366391296 : UInt64)) (FP.l2d v10))), .second, .unset, .unset, .unset, .unset] [(.long (own_p10 ((9 : Int32) - x4))), (.long x1)])) _
  refine Goes.by (fun _ k => XS.lmul X15.here hx rfl (hb hby at_113) rfl k) ?_
  show Goes p.tables e below (T15.setTop (mkF m 114 #[.val (.long pa), .second, .val (.int pb), .val (.int pc0), .val (.long x1), .second, .val (.int x2), .val (.int x3), .val (.int x4), .val (.int v5), .val (.long x7), .second, .val (.long x9), .second, .val (.long v10), .second, .val (.double (FP.ddiv (FP.dmul (FP.l2d x7) (4741671816366391296 : UInt64)) (FP.l2d v10))), .second, .unset, .unset, .unset, .unset] [(.long (x1 * (own_p10 ((9 : Int32) - x4))))])) _
  obtain ⟨x16, hx16⟩ : ∃ z : Int64, z = (x1 * (own_p10 ((9 : Int32) - x4))) := ⟨_, rfl⟩
  refine Goes.by (fun _ k => XS.lstore X15.here hx rfl (hb hby at_114) rfl (l' := #[.val (.long pa), .second, .val (.int pb), .val (.int pc0), .val (.long x1), .second, .val (.int x2), .val (.int x3), .val (.int x4), .val (.int v5), .val (.long x7), .second, .val (.long x9), .second, .val (.long v10), .second, .val (.double (FP.ddiv (FP.dmul (FP.l2d x7) (4741671816366391296 : UInt64)) (FP.l2d v10))), .second, .val (.long x16), .second, .unset, .unset]) (by rw [hx16]; rfl) k) ?_
  show Goes p.tables e below (T15.setTop (mkF m 116 #[.val (.long pa), .second, .val (.int pb), .val (.int pc0), .val (.long x1), .second, .val (.int x2), .val (.int x3), .val (.int x4), .val (.int v5), .val (.long x7), .second, .val (.long x9), .second, .val (.long v10), .second, .val (.double (FP.ddiv (FP.dmul (FP.l2d x7) (4741671816366391296 : UInt64)) (FP.l2d v10))), .second, .val (.long x16), .second, .unset, .unset] [])) _
  refine Goes.by (fun _ k => XS.iload X15.here hx rfl (hb hby at_116) rfl k) ?_
  show Goes p.tables e below (T15.setTop (mkF m 118 #[.val (.long pa), .second, .val (.int pb), .val (.int pc0), .val (.long x1), .second, .val (.int x2), .val (.int x3), .val (.int x4), .val (.int v5), .val (.long x7), .second, .val (.long x9), .second, .val (.long v10), .second, .val (.double (FP.ddiv (FP.dmul (FP.l2d x7) (4741671816366391296 : UInt64)) (FP.l2d v10))), .second, .val (.long x16), .second, .unset, .unset] [(.int v5)])) _
  obtain ⟨v17, hv17⟩ : ∃ z : Int64, z = (if v5 = (0 : Int32) then x16 else (-x16)) := ⟨_, rfl⟩
  refine Goes.by (t' := T15.setTop (mkF m 126 #[.val (.long pa), .second, .val (.int pb), .val (.int pc0), .val (.long x1), .second, .val (.int x2), .val (.int x3), .val (.int x4), .val (.int v5), .val (.long x7), .second, .val (.long x9), .second, .val (.long v10), .second, .val (.double (FP.ddiv (FP.dmul (FP.l2d x7) (4741671816366391296 : UInt64)) (FP.l2d v10))), .second, .val (.long v17), .second, .unset, .unset] [])) (fun u k => ?_) ?_
  · show Steps p.tables e below (T15.setTop (mkF m 118 #[.val (.long pa), .second, .val (.int pb), .val (.int pc0), .val (.long x1), .second, .val (.int x2), .val (.int x3), .val (.int x4), .val (.int v5), .val (.long x7), .second, .val (.long x9), .second, .val (.long v10), .second, .val (.double (FP.ddiv (FP.dmul (FP.l2d x7) (4741671816366391296 : UInt64)) (FP.l2d v10))), .second, .val (.long x16), .second, .unset, .unset] [(.int v5)])) _
    by_cases hc18 : v5 = (0 : Int32)
    · refine XS.ifYes X15.here hx rfl (pc0 := 118) (pc' := 126) rfl (hb hby at_118) rfl ((if0 _ _).trans (teq hc18).1) (by decide) (by decide) ?_
      show Steps p.tables e below (T15.setTop (mkF m 126 #[.val (.long pa), .second, .val (.int pb), .val (.int pc0), .val (.long x1), .second, .val (.int x2), .val (.int x3), .val (.int x4), .val (.int v5), .val (.long x7), .second, .val (.long x9), .second, .val (.long v10), .second, .val (.double (FP.ddiv (FP.dmul (FP.l2d x7) (4741671816366391296 : UInt64)) (FP.l2d v10))), .second, .val (.long x16), .second, .unset, .unset] [])) _
      have qv17 : v17 = x16 := by rw [hv17, if_pos hc18]
      subst qv17
      exact k
    · refine XS.ifNo X15.here hx rfl (hb hby at_118) rfl ((if0 _ _).trans (feq hc18).1) ?_
      show Steps p.tables e below (T15.setTop (mkF m 121 #[.val (.long pa), .second, .val (.int pb), .val (.int pc0), .val (.long x1), .second, .val (.int x2), .val (.int x3), .val (.int x4), .val (.int v5), .val (.long x7), .second, .val (.long x9), .second, .val (.long v10), .second, .val (.double (FP.ddiv (FP.dmul (FP.l2d x7) (4741671816366391296 : UInt64)) (FP.l2d v10))), .second, .val (.long x16), .second, .unset, .unset] [])) _
      refine XS.lload X15.here hx rfl (hb hby at_121) rfl ?_
      show Steps p.tables e below (T15.setTop (mkF m 123 #[.val (.long pa), .second, .val (.int pb), .val (.int pc0), .val (.long x1), .second, .val (.int x2), .val (.int x3), .val (.int x4), .val (.int v5), .val (.long x7), .second, .val (.long x9), .second, .val (.long v10), .second, .val (.double (FP.ddiv (FP.dmul (FP.l2d x7) (4741671816366391296 : UInt64)) (FP.l2d v10))), .second, .val (.long x16), .second, .unset, .unset] [(.long x16)])) _
      refine XS.lneg X15.here hx rfl (hb hby at_123) rfl ?_
      show Steps p.tables e below (T15.setTop (mkF m 124 #[.val (.long pa), .second, .val (.int pb), .val (.int pc0), .val (.long x1), .second, .val (.int x2), .val (.int x3), .val (.int x4), .val (.int v5), .val (.long x7), .second, .val (.long x9), .second, .val (.long v10), .second, .val (.double (FP.ddiv (FP.dmul (FP.l2d x7) (4741671816366391296 : UInt64)) (FP.l2d v10))), .second, .val (.long x16), .second, .unset, .unset] [(.long (-x16))])) _
      refine XS.lstore X15.here hx rfl (hb hby at_124) rfl (l' := #[.val (.long pa), .second, .val (.int pb), .val (.int pc0), .val (.long x1), .second, .val (.int x2), .val (.int x3), .val (.int x4), .val (.int v5), .val (.long x7), .second, .val (.long x9), .second, .val (.long v10), .second, .val (.double (FP.ddiv (FP.dmul (FP.l2d x7) (4741671816366391296 : UInt64)) (FP.l2d v10))), .second, .val (.long (-x16)), .second, .unset, .unset]) rfl ?_
      show Steps p.tables e below (T15.setTop (mkF m 126 #[.val (.long pa), .second, .val (.int pb), .val (.int pc0), .val (.long x1), .second, .val (.int x2), .val (.int x3), .val (.int x4), .val (.int v5), .val (.long x7), .second, .val (.long x9), .second, .val (.long v10), .second, .val (.double (FP.ddiv (FP.dmul (FP.l2d x7) (4741671816366391296 : UInt64)) (FP.l2d v10))), .second, .val (.long (-x16)), .second, .unset, .unset] [])) _
      have qv17 : v17 = (-x16) := by rw [hv17, if_neg hc18]
      subst qv17
      exact k
  show Goes p.tables e below (T15.setTop (mkF m 126 #[.val (.long pa), .second, .val (.int pb), .val (.int pc0), .val (.long x1), .second, .val (.int x2), .val (.int x3), .val (.int x4), .val (.int v5), .val (.long x7), .second, .val (.long x9), .second, .val (.long v10), .second, .val (.double (FP.ddiv (FP.dmul (FP.l2d x7) (4741671816366391296 : UInt64)) (FP.l2d v10))), .second, .val (.long v17), .second, .unset, .unset] [])) _
  refine Goes.by (fun _ k => XS.lload X15.here hx rfl (hb hby at_126) rfl k) ?_
  show Goes p.tables e below (T15.setTop (mkF m 128 #[.val (.long pa), .second, .val (.int pb), .val (.int pc0), .val (.long x1), .second, .val (.int x2), .val (.int x3), .val (.int x4), .val (.int v5), .val (.long x7), .second, .val (.long x9), .second, .val (.long v10), .second, .val (.double (FP.ddiv (FP.dmul (FP.l2d x7) (4741671816366391296 : UInt64)) (FP.l2d v10))), .second, .val (.long v17), .second, .unset, .unset] [(.long v17)])) _
  refine Goes.by (fun _ k => XS.l2dS X15.here hx rfl (hb hby at_128) rfl rfl k) ?_
  show Goes p.tables e below (T15.setTop (mkF m 129 #[.val (.long pa), .second, .val (.int pb), .val (.int pc0), .val (.long x1), .second, .val (.int x2), .val (.int x3), .val (.int x4), .val (.int v5), .val (.long x7), .second, .val (.long x9), .second, .val (.long v10), .second, .val (.double (FP.ddiv (FP.dmul (FP.l2d x7) (4741671816366391296 : UInt64)) (FP.l2d v10))), .second, .val (.long v17), .second, .unset, .unset] [(.double (FP.l2d v17))])) _
  refine Goes.by (fun _ k => XS.lconst X15.here hx rfl (hb hby at_129) k) ?_
  show Goes p.tables e below (T15.setTop (mkF m 130 #[.val (.long pa), .second, .val (.int pb), .val (.int pc0), .val (.long x1), .second, .val (.int x2), .val (.int x3), .val (.int x4), .val (.int v5), .val (.long x7), .second, .val (.long x9), .second, .val (.long v10), .second, .val (.double (FP.ddiv (FP.dmul (FP.l2d x7) (4741671816366391296 : UInt64)) (FP.l2d v10))), .second, .val (.long v17), .second, .unset, .unset] [(.long (1 : Int64)), (.double (FP.l2d v17))])) _
  refine Goes.by (fun _ k => XS.iload X15.here hx rfl (hb hby at_130) rfl k) ?_
  show Goes p.tables e below (T15.setTop (mkF m 132 #[.val (.long pa), .second, .val (.int pb), .val (.int pc0), .val (.long x1), .second, .val (.int x2), .val (.int x3), .val (.int x4), .val (.int v5), .val (.long x7), .second, .val (.long x9), .second, .val (.long v10), .second, .val (.double (FP.ddiv (FP.dmul (FP.l2d x7) (4741671816366391296 : UInt64)) (FP.l2d v10))), .second, .val (.long v17), .second, .unset, .unset] [(.int x3), (.long (1 : Int64)), (.double (FP.l2d v17))])) _
  refine Goes.by (fun _ k => XS.lshl X15.here hx rfl (hb hby at_132) rfl k) ?_
  show Goes p.tables e below (T15.setTop (mkF m 133 #[.val (.long pa), .second, .val (.int pb), .val (.int pc0), .val (.long x1), .second, .val (.int x2), .val (.int x3), .val (.int x4), .val (.int v5), .val (.long x7), .second, .val (.long x9), .second, .val (.long v10), .second, .val (.double (FP.ddiv (FP.dmul (FP.l2d x7) (4741671816366391296 : UInt64)) (FP.l2d v10))), .second, .val (.long v17), .second, .unset, .unset] [(.long ((1 : Int64) <<< (x3 &&& 0x3f).toInt64)), (.double (FP.l2d v17))])) _
  refine Goes.by (fun _ k => XS.l2dS X15.here hx rfl (hb hby at_133) rfl rfl k) ?_
  show Goes p.tables e below (T15.setTop (mkF m 134 #[.val (.long pa), .second, .val (.int pb), .val (.int pc0), .val (.long x1), .second, .val (.int x2), .val (.int x3), .val (.int x4), .val (.int v5), .val (.long x7), .second, .val (.long x9), .second, .val (.long v10), .second, .val (.double (FP.ddiv (FP.dmul (FP.l2d x7) (4741671816366391296 : UInt64)) (FP.l2d v10))), .second, .val (.long v17), .second, .unset, .unset] [(.double (FP.l2d ((1 : Int64) <<< (x3 &&& 0x3f).toInt64))), (.double (FP.l2d v17))])) _
  refine Goes.by (fun _ k => XS.ddivS X15.here hx rfl (hb hby at_134) rfl (own_nn hA.2.2.1) rfl k) ?_
  show Goes p.tables e below (T15.setTop (mkF m 135 #[.val (.long pa), .second, .val (.int pb), .val (.int pc0), .val (.long x1), .second, .val (.int x2), .val (.int x3), .val (.int x4), .val (.int v5), .val (.long x7), .second, .val (.long x9), .second, .val (.long v10), .second, .val (.double (FP.ddiv (FP.dmul (FP.l2d x7) (4741671816366391296 : UInt64)) (FP.l2d v10))), .second, .val (.long v17), .second, .unset, .unset] [(.double (FP.ddiv (FP.l2d v17) (FP.l2d ((1 : Int64) <<< (x3 &&& 0x3f).toInt64))))])) _
  refine Goes.by (fun _ k => XS.dstore X15.here hx rfl (hb hby at_135) rfl (l' := #[.val (.long pa), .second, .val (.int pb), .val (.int pc0), .val (.long x1), .second, .val (.int x2), .val (.int x3), .val (.int x4), .val (.int v5), .val (.long x7), .second, .val (.long x9), .second, .val (.long v10), .second, .val (.double (FP.ddiv (FP.dmul (FP.l2d x7) (4741671816366391296 : UInt64)) (FP.l2d v10))), .second, .val (.long v17), .second, .val (.double (FP.ddiv (FP.l2d v17) (FP.l2d ((1 : Int64) <<< (x3 &&& 0x3f).toInt64)))), .second]) rfl k) ?_
  show Goes p.tables e below (T15.setTop (mkF m 137 #[.val (.long pa), .second, .val (.int pb), .val (.int pc0), .val (.long x1), .second, .val (.int x2), .val (.int x3), .val (.int x4), .val (.int v5), .val (.long x7), .second, .val (.long x9), .second, .val (.long v10), .second, .val (.double (FP.ddiv (FP.dmul (FP.l2d x7) (4741671816366391296 : UInt64)) (FP.l2d v10))), .second, .val (.long v17), .second, .val (.double (FP.ddiv (FP.l2d v17) (FP.l2d ((1 : Int64) <<< (x3 &&& 0x3f).toInt64)))), .second] [])) _
  refine Goes.by (fun _ k => XS.dload X15.here hx rfl (hb hby at_137) rfl k) ?_
  show Goes p.tables e below (T15.setTop (mkF m 139 #[.val (.long pa), .second, .val (.int pb), .val (.int pc0), .val (.long x1), .second, .val (.int x2), .val (.int x3), .val (.int x4), .val (.int v5), .val (.long x7), .second, .val (.long x9), .second, .val (.long v10), .second, .val (.double (FP.ddiv (FP.dmul (FP.l2d x7) (4741671816366391296 : UInt64)) (FP.l2d v10))), .second, .val (.long v17), .second, .val (.double (FP.ddiv (FP.l2d v17) (FP.l2d ((1 : Int64) <<< (x3 &&& 0x3f).toInt64)))), .second] [(.double (FP.ddiv (FP.dmul (FP.l2d x7) (4741671816366391296 : UInt64)) (FP.l2d v10)))])) _
  refine Goes.by (fun _ k => XS.dload X15.here hx rfl (hb hby at_139) rfl k) ?_
  show Goes p.tables e below (T15.setTop (mkF m 141 #[.val (.long pa), .second, .val (.int pb), .val (.int pc0), .val (.long x1), .second, .val (.int x2), .val (.int x3), .val (.int x4), .val (.int v5), .val (.long x7), .second, .val (.long x9), .second, .val (.long v10), .second, .val (.double (FP.ddiv (FP.dmul (FP.l2d x7) (4741671816366391296 : UInt64)) (FP.l2d v10))), .second, .val (.long v17), .second, .val (.double (FP.ddiv (FP.l2d v17) (FP.l2d ((1 : Int64) <<< (x3 &&& 0x3f).toInt64)))), .second] [(.double (FP.ddiv (FP.l2d v17) (FP.l2d ((1 : Int64) <<< (x3 &&& 0x3f).toInt64)))), (.double (FP.ddiv (FP.dmul (FP.l2d x7) (4741671816366391296 : UInt64)) (FP.l2d v10)))])) _
  have hB := own_all (q := x1) (d := x2) (j := x3) (k := x4) (n := v5) (by rw [hx1]; exact own_qr _) (by rw [hx2]; exact own_d _) (by rw [hx3]; exact own_j _) (by rw [hx4]; exact own_k _) hx7 hx9 hv10 hx16 hv17
  refine Goes.by (fun _ k => XS.dcmpS X15.here hx rfl (hb hby at_141) rfl (v := (0 : Int32)) (by rw [hB.1, hB.2.2.2]; rfl) k) ?_
  show Goes p.tables e below (T15.setTop (mkF m 142 #[.val (.long pa), .second, .val (.int pb), .val (.int pc0), .val (.long x1), .second, .val (.int x2), .val (.int x3), .val (.int x4), .val (.int v5), .val (.long x7), .second, .val (.long x9), .second, .val (.long v10), .second, .val (.double (FP.ddiv (FP.dmul (FP.l2d x7) (4741671816366391296 : UInt64)) (FP.l2d v10))), .second, .val (.long v17), .second, .val (.double (FP.ddiv (FP.l2d v17) (FP.l2d ((1 : Int64) <<< (x3 &&& 0x3f).toInt64)))), .second] [(.int (0 : Int32))])) _
  refine Goes.by (fun _ k => XS.ifNo X15.here hx rfl (hb hby at_142) rfl ((if0 _ _).trans (teq (by decide : (0 : Int32) = (0 : Int32))).2) k) ?_
  show Goes p.tables e below (T15.setTop (mkF m 145 #[.val (.long pa), .second, .val (.int pb), .val (.int pc0), .val (.long x1), .second, .val (.int x2), .val (.int x3), .val (.int x4), .val (.int v5), .val (.long x7), .second, .val (.long x9), .second, .val (.long v10), .second, .val (.double (FP.ddiv (FP.dmul (FP.l2d x7) (4741671816366391296 : UInt64)) (FP.l2d v10))), .second, .val (.long v17), .second, .val (.double (FP.ddiv (FP.l2d v17) (FP.l2d ((1 : Int64) <<< (x3 &&& 0x3f).toInt64)))), .second] [])) _
  refine Goes.by (fun _ k => XS.iconst X15.here hx rfl (hb hby at_145) k) ?_
  show Goes p.tables e below (T15.setTop (mkF m 146 #[.val (.long pa), .second, .val (.int pb), .val (.int pc0), .val (.long x1), .second, .val (.int x2), .val (.int x3), .val (.int x4), .val (.int v5), .val (.long x7), .second, .val (.long x9), .second, .val (.long v10), .second, .val (.double (FP.ddiv (FP.dmul (FP.l2d x7) (4741671816366391296 : UInt64)) (FP.l2d v10))), .second, .val (.long v17), .second, .val (.double (FP.ddiv (FP.l2d v17) (FP.l2d ((1 : Int64) <<< (x3 &&& 0x3f).toInt64)))), .second] [(.int (1 : Int32))])) _
  refine Goes.by (fun _ k => XS.goto X15.here hx rfl (pc0 := 146) (pc' := 150) rfl (hb hby at_146) (by decide) (by decide) k) ?_
  show Goes p.tables e below (T15.setTop (mkF m 150 #[.val (.long pa), .second, .val (.int pb), .val (.int pc0), .val (.long x1), .second, .val (.int x2), .val (.int x3), .val (.int x4), .val (.int v5), .val (.long x7), .second, .val (.long x9), .second, .val (.long v10), .second, .val (.double (FP.ddiv (FP.dmul (FP.l2d x7) (4741671816366391296 : UInt64)) (FP.l2d v10))), .second, .val (.long v17), .second, .val (.double (FP.ddiv (FP.l2d v17) (FP.l2d ((1 : Int64) <<< (x3 &&& 0x3f).toInt64)))), .second] [(.int (1 : Int32))])) _
  obtain ⟨fs, hr, hrun, hended, hW, hsame⟩ := X15.leave (v := some (.int (1 : Int32))) (fun h => by rw [Bd.returns] at h; cases h)
  refine ⟨_, _, retN X15 hx (t := .boolean) Bd.returns (by simp) (hb hby at_150) hr, hrun, hended, _, _, rfl, ?_, ⟨_, rfl⟩, hW, hsame.mono (by decide) (by decide)⟩
  show Q0 Z pa pb pc0 h0 n0 _ T15.heap _
  exact ⟨rfl, N15⟩
set_option maxRecDepth 65536 in
set_option maxHeartbeats 40000000 in
theorem comes_1 {Post : Tables → Env → Array Value → State → Outcome → State → Prop} (hpost : ∀ tb e args s v u, (limb_1_1.after args s (.returned v) u = true ∧ limb_1_2.after args s (.returned v) u = true ∧ True) → FrameEnd s (.returned v) u (Jvm.fieldLocs frame_1_writes args s ++ Jvm.arrayLocs frame_1_arrays args s ++ Jvm.staticLocs frame_1_statics s) 16 128 → Post tb e args s (.returned v) u) :
    ArmFor flags0 classFile x code maxLocals ret World_1 tables_1 room_1 Calls_1 rest_1 Pre_1 Post := by
  intro l hfl _ _ p e ha hc hk s m args below hf hA hF happ hP
  obtain ⟨hcalls, hrest, hpre⟩ := hP
  obtain ⟨-, -, -, hnamed, -, -, -, hat⟩ := (Spec.applies_iff hf).mp happ
  obtain ⟨hg, hn⟩ := and_e (Cond.before_iff.mp (show (Jvm.Cond.and given_1 narrow_1).before args s = true from hpre))
  obtain ⟨g1, g2⟩ := and_e hg
  obtain ⟨g3, g4⟩ := and_e g2
  obtain ⟨g5, g6⟩ := and_e g4
  obtain ⟨w0, w1, w2, rfl⟩ : ∃ w0 w1 w2 : Value, args = #[w0, w1, w2] := by
    have hs : args.size = 3 := by simpa [Cond.value, given_1] using g1
    obtain ⟨L⟩ := args
    match L, hs with
    | [w0, w1, w2], _ => exact ⟨w0, w1, w2, rfl⟩
  have hw := fun d (hd : d ∈ tables_1) => atoms_spec (ws := Jvm.Cond.code x code maxLocals ret :: tables_1) hat d (List.mem_cons_of_mem _ hd)
  have hfit : Fit s := fun {y c} hc i hi => by
    obtain ⟨ha, rfl⟩ := Array.getElem?_eq_some_iff.mp hc
    have q := List.all_eq_true.mp ((Array.all_eq_true_iff_forall_mem.mp hF) _ (Array.getElem_mem ha)) i (List.mem_range.mpr hi)
    simpa [Array.getElem?_eq_getElem hi] using q
  obtain ⟨i0, ei0⟩ := isL_v g3
  obtain rfl : w0 = (.long i0) := Option.some.inj ei0
  obtain ⟨i1, ei1⟩ := is_v g5
  obtain rfl : w1 = (.int i1) := Option.some.inj ei1
  obtain ⟨i2, ei2⟩ := is_v g6
  obtain rfl : w2 = (.int i2) := Option.some.inj ei2
  obtain ⟨n, o, h1, h2, h3, _, L, rfl, ⟨hv0, N⟩, hq⟩ := rm0 l s _ hw tables_1 i0 i1 i2 s.heap s.heap.size (Nat.le_refl _) p e ha hc hk s m _ below hf ((Spec.applies_iff_loose hf).mp happ).1 ⟨rfl, State.Warmed39.refl s, rfl⟩ trivial
  subst hv0
  refine ⟨n, _, h1, h2, h3, hpost _ _ _ _ _ _ ⟨Cond.after_iff.mpr rfl, Cond.after_iff.mpr (eq_i res_at (Term.int_eval (1)) rfl), trivial⟩ ⟨hq.1, hq.2.1, (hq.2.2.sift fun y hy => Or.inr (N y hy)).mono (by decide) (by decide)⟩⟩
theorem main_1_1 : Claimed_1_1 := comes_1 fun _ _ _ _ _ _ h hF => ⟨h.1, hF⟩
theorem main_1_2 : Claimed_1_2 := comes_1 fun _ _ _ _ _ _ h hF => ⟨h.2.1, hF⟩
end Jvm.Pilot.@@N@@
namespace Jvm.Pilot.@@N@@
open Jvm Jvm.ClassFile Sem Op Lib Jvm.Free Jvm.Stand Jvm.Pilot.@@N@@.Jvm.D
/-! MADE BY PROGRAM (witnessworld.py) out of the Statement's table words and the real class files: 12 classes; the members and pool entries that the words name. The judged class is class 1, her method 2. -/
namespace start1
open Jvm.ClassFile
def u (s : String) : CpInfo := .utf8 (stringToUtf16 s)
/-- a pool by its gaps: so many unusable entries, then the entry; so many at the end -/
def gap : Nat → List CpInfo → List CpInfo
  | 0, r => r
  | n + 1, r => .unusable :: gap n r
def poolList (es : List (Nat × CpInfo)) (last : Nat) : List CpInfo := es.foldr (fun e r => gap e.1 (e.2 :: r)) (gap last [])
def pool (es : List (Nat × CpInfo)) (last : Nat) : Array CpInfo := ⟨poolList es last⟩
def fileOf (pool : Array CpInfo) (this : Nat) (attrs : Array Attribute := #[]) (ms : Array MethodInfo := #[]) (fl : Nat := 33) (sup : Nat := 0) (ifs : Array Nat := #[]) (fds : Array FieldInfo := #[]) : ClassFile where
  minorVersion := 0
  majorVersion := 65
  constantPool := pool
  accessFlags := fl
  thisClass := this
  superClass := sup
  interfaces := ifs
  fields := fds
  methods := ms
  attributes := attrs
def plain (name : String) (sup : Option ClassId) : Class where
  name := name
  kind := .ordinary
  loader := none
  accessFlags := 33
  super := sup
  interfaces := #[]
  cf := none
  fields := #[]
  methods := #[]
  instanceTypes := #[]
  staticTypes := #[]
  resolved := #[]
  callSites := []
  init := .initialized
  statics := none
  mirror := none

def pool0 : Array CpInfo := pool [(5, u "<init>"), (0, u "()V"), (1, .class_ 10), (1, u "java/lang/Object")] 113

def k0c0 : Code := { maxStack := 0, maxLocals := 1, code := object_method_1_code, exceptionTable := #[], attributes := #[] }
def k0m0 : Method := { name := "<init>", desc := "()V", sig := { parameters := [], returnType := none }, accessFlags := 1, code := some k0c0 }
/-- java/lang/Object -/
def k0 : Class := { plain "java/lang/Object" none with
  accessFlags := 33
  interfaces := #[]
  cf := some (fileOf pool0 8 #[] #[{ accessFlags := 1, nameIndex := 5, descriptorIndex := 6, attributes := #[] }] 33 0 #[] #[])
  fields := #[]
  methods := #[k0m0]
  instanceTypes := #[]
  staticTypes := #[]
  resolved := Array.replicate 124 none
  statics := none }

def pool1 : Array CpInfo := pool [(2, .class_ 4), (1, u "java/lang/Object"), (0, u "<init>"), (0, u "()V"), (0, .long 10), (1, .long 100), (1, .long 1000), (1, .long 10000), (1, .long 100000), (1, .long 1000000), (1, .long 10000000), (1, .long 100000000), (1, .long 1000000000), (1, .long 262144), (1, .integer 2147483647), (0, .methodref 29 30), (0, .class_ 31), (0, .nameAndType 32 33), (0, u "com/example/firm_quote/firmquote/bench/RatePerSecondPinLaw"), (0, u "pow10"), (0, u "(I)J"), (0, .class_ 35), (0, u "com/example/firm_quote/firmquote/bench/Rate"), (0, .methodref 34 37), (0, .nameAndType 5 38), (0, u "(JJ)V"), (0, .methodref 34 40), (0, .nameAndType 41 42), (0, u "perSecond"), (0, u "()D"), (2, u "law"), (0, u "(JII)Z")] 3

def k1m0 : Method := { name := "<init>", desc := "()V", sig := { parameters := [], returnType := none }, accessFlags := 1, code := none }
def k1c1 : Code := { maxStack := 5, maxLocals := 2, code := method_2_code, exceptionTable := #[], attributes := #[] }
def k1m1 : Method := { name := "pow10", desc := "(I)J", sig := { parameters := [.int], returnType := some .long }, accessFlags := 10, code := some k1c1 }
def k1c2 : Code := { maxStack := 6, maxLocals := 22, code := code, exceptionTable := #[], attributes := #[] }
def k1m2 : Method := { name := "law", desc := "(JII)Z", sig := { parameters := [.long, .int, .int], returnType := some .boolean }, accessFlags := 9, code := some k1c2 }
/-- com/example/firm_quote/firmquote/bench/RatePerSecondPinLaw -/
def k1 : Class := { plain "com/example/firm_quote/firmquote/bench/RatePerSecondPinLaw" (some 0) with
  accessFlags := 49
  interfaces := #[]
  cf := some (fileOf pool1 29 #[] #[{ accessFlags := 1, nameIndex := 5, descriptorIndex := 6, attributes := #[] }, { accessFlags := 10, nameIndex := 32, descriptorIndex := 33, attributes := #[] }, { accessFlags := 9, nameIndex := 45, descriptorIndex := 46, attributes := #[] }] 49 2 #[] #[])
  fields := #[]
  methods := #[k1m0, k1m1, k1m2]
  instanceTypes := #[]
  staticTypes := #[]
  resolved := Array.replicate 50 none
  statics := none }

def pool2 : Array CpInfo := pool [(1, .methodref 2 3), (0, .class_ 4), (0, .nameAndType 5 6), (0, u "java/lang/Object"), (0, u "<init>"), (0, u "()V"), (0, .class_ 8), (0, u "java/lang/Record")] 13

def k2c0 : Code := { maxStack := 1, maxLocals := 1, code := jdk_30_method_1_code, exceptionTable := #[], attributes := #[] }
def k2m0 : Method := { name := "<init>", desc := "()V", sig := { parameters := [], returnType := none }, accessFlags := 4, code := some k2c0 }
/-- java/lang/Record -/
def k2 : Class := { plain "java/lang/Record" (some 0) with
  accessFlags := 1057
  interfaces := #[]
  cf := some (fileOf pool2 7 #[] #[{ accessFlags := 4, nameIndex := 5, descriptorIndex := 6, attributes := #[] }] 1057 2 #[] #[])
  fields := #[]
  methods := #[k2m0]
  instanceTypes := #[]
  staticTypes := #[]
  resolved := Array.replicate 22 none
  statics := none }

def pool3 : Array CpInfo := pool [(1, .methodref 2 3), (0, .class_ 4), (0, .nameAndType 5 6), (0, u "java/lang/Record"), (0, u "<init>"), (0, u "()V"), (0, .fieldref 8 9), (0, .class_ 10), (0, .nameAndType 11 12), (0, u "com/example/firm_quote/firmquote/bench/Rate"), (0, u "count"), (0, u "J"), (0, .fieldref 8 14), (0, .nameAndType 15 12), (0, u "nanos"), (0, .double 4741671816366391296), (24, u "perSecond"), (0, u "()D"), (18, u "(JJ)V")] 30

def k3c0 : Code := { maxStack := 3, maxLocals := 5, code := prog_6_method_1_code, exceptionTable := #[], attributes := #[] }
def k3m0 : Method := { name := "<init>", desc := "(JJ)V", sig := { parameters := [.long, .long], returnType := none }, accessFlags := 0, code := some k3c0 }
def k3c1 : Code := { maxStack := 4, maxLocals := 1, code := prog_6_method_2_code, exceptionTable := #[], attributes := #[] }
def k3m1 : Method := { name := "perSecond", desc := "()D", sig := { parameters := [], returnType := some .double }, accessFlags := 0, code := some k3c1 }
/-- com/example/firm_quote/firmquote/bench/Rate -/
def k3 : Class := { plain "com/example/firm_quote/firmquote/bench/Rate" (some 2) with
  accessFlags := 48
  interfaces := #[]
  cf := some (fileOf pool3 8 #[] #[{ accessFlags := 0, nameIndex := 5, descriptorIndex := 61, attributes := #[] }, { accessFlags := 0, nameIndex := 41, descriptorIndex := 42, attributes := #[] }] 48 2 #[] #[{ accessFlags := 18, nameIndex := 11, descriptorIndex := 12, attributes := #[] }, { accessFlags := 18, nameIndex := 15, descriptorIndex := 12, attributes := #[] }])
  fields := #[{ name := "count", type := .long, accessFlags := 18, slot := 0, constantValue := 0 }, { name := "nanos", type := .long, accessFlags := 18, slot := 1, constantValue := 0 }]
  methods := #[k3m0, k3m1]
  instanceTypes := #[.long, .long]
  staticTypes := #[]
  resolved := Array.replicate 92 none
  statics := none }

def pool4 : Array CpInfo := pool [(1, u "java/lang/Cloneable"), (0, .class_ 1), (0, u "java/lang/Object"), (0, .class_ 3)] 3

/-- java/lang/Cloneable -/
def k4 : Class := { plain "java/lang/Cloneable" (some 0) with
  accessFlags := 1537
  interfaces := #[]
  cf := some (fileOf pool4 2 #[] #[] 1537 4 #[] #[])
  fields := #[]
  methods := #[]
  instanceTypes := #[]
  staticTypes := #[]
  resolved := Array.replicate 8 none
  statics := none }

def pool5 : Array CpInfo := pool [(1, u "java/io/Serializable"), (0, .class_ 1), (0, u "java/lang/Object"), (0, .class_ 3)] 3

/-- java/io/Serializable -/
def k5 : Class := { plain "java/io/Serializable" (some 0) with
  accessFlags := 1537
  interfaces := #[]
  cf := some (fileOf pool5 2 #[] #[] 1537 4 #[] #[])
  fields := #[]
  methods := #[]
  instanceTypes := #[]
  staticTypes := #[]
  resolved := Array.replicate 8 none
  statics := none }

/-- the primitive byte -/
def k6 : Class := { plain "byte" none with kind := .primitive 'B', accessFlags := 0x411 }
/-- [B -/
def k7 : Class := { plain "[B" (some 0) with kind := .array 6 .byte, interfaces := #[4, 5], accessFlags := 1041 }

/-- the primitive int -/
def k8 : Class := { plain "int" none with kind := .primitive 'I', accessFlags := 0x411 }
/-- [I -/
def k9 : Class := { plain "[I" (some 0) with kind := .array 8 .int, interfaces := #[4, 5], accessFlags := 1041 }

/-- the primitive long -/
def k10 : Class := { plain "long" none with kind := .primitive 'J', accessFlags := 0x411 }
/-- [J -/
def k11 : Class := { plain "[J" (some 0) with kind := .array 10 .long, interfaces := #[4, 5], accessFlags := 1041 }

def heap : Heap := #[]
def classes : Array Class := #[k0, k1, k2, k3, k4, k5, k6, k7, k8, k9, k10, k11]
def interned : List (Array UInt16 × Addr) := []
def slotsUsed : Nat := 0
def theMethod : MethodId := ⟨1, 2⟩
def args0 : Array Value := #[.long 5, .int 6, .int 7]
def aboutOver (below : List Frame) : State where
  vm := { classes := classes, interned := interned.toArray }
  heap := heap
  slotsUsed := slotsUsed
  threads := #[{ frames := .invoking theMethod args0 :: below }]
def below0 : List Frame := [.native { method := ⟨0, 0⟩, args := #[] }]
def about1 : State := aboutOver below0
def p0 : Program := .bare "" "" ""
def e0 : Env := launch0.env 0 0 0
theorem w_frames : about1.frames = Frame.invoking theMethod args0 :: below0 := rfl
set_option maxRecDepth 65536 in
theorem w_args : argsFit about1.vm theMethod args0 = true := by decide +kernel
set_option maxRecDepth 65536 in
theorem w_heap : heapFits about1 = true := by decide +kernel
set_option maxRecDepth 65536 in
theorem w_runnable : about1.curStatus? = some .runnable := by decide +kernel
set_option maxRecDepth 65536 in
theorem w_alone : about1.alone = true := by decide +kernel
set_option maxRecDepth 65536 in
theorem w_named : about1.methodNamed? x = some theMethod := by decide +kernel
set_option maxRecDepth 65536 in
theorem w_hears : about1.hears theMethod below0 = true := by decide +kernel
set_option maxRecDepth 65536 in
theorem w_ripe : about1.ripe theMethod args0 below0 = true := by decide +kernel
theorem w_running : about1.status = .running := rfl
set_option maxRecDepth 65536 in
theorem w_room : about1.hasRoom e0.platform room_1 = true :=
  launch0.hasRoom_least _ room_1 (by decide +kernel) (by decide +kernel) (by decide +kernel) (by decide +kernel) (by decide +kernel) (by decide +kernel)
theorem allAtoms_all (ts : List Jvm.Cond) (a : Array Jvm.Value) (st : Jvm.State) : (allAtoms ts).before a st = ts.all (fun c => c.before a st) := by
  induction ts with
  | nil => rfl
  | cons c t ih =>
    show (Jvm.Cond.and c (allAtoms t)).before a st = _
    rw [Jvm.Cond.before_and, ih, List.all_cons]
def words1 : List Jvm.Cond := Jvm.Cond.code x code maxLocals ret :: tables_1
/-- a 'code' word, met by the world's own term for the bytes: nothing is compared byte by byte -/
theorem code_word {y : MethodName} {bytes : ByteArray} {mx : Nat} {rt : Option FieldType} {a : Array Value} {s : State} {m : MethodId} {meth : Method} {c : Code} (h1 : s.methodNamed? y = some m) (h2 : s.vm.method? m = some meth) (h3 : meth.code = some c) (h4 : c.code = bytes)
    (h5 : (c.maxLocals == mx && c.exceptionTable.isEmpty && decide (c.maxStack ≤ mostOperands) && decide (meth.sig.returnType = rt) && !meth.locks && decide (parseMethodDescriptor y.desc = some meth.sig)) = true) : (Jvm.Cond.code y bytes mx rt).before a s = true := by
  simp only [Bool.and_eq_true, beq_iff_eq, Bool.not_eq_true', decide_eq_true_eq] at h5
  obtain ⟨⟨⟨⟨⟨g1, g2⟩, g3⟩, g4⟩, g5⟩, g6⟩ := h5
  simp [Cond.before, Cond.holds, Cond.value, h1, h2, h3, h4, g1, g2, g3, g4, g5, g6]
def isCode : Jvm.Cond → Bool
  | .code _ _ _ _ => true
  | _ => false
theorem all_split {L : List Jvm.Cond} {P : Jvm.Cond → Bool} (h1 : L.all (fun c => isCode c || P c) = true) (h2 : ∀ c ∈ L.filter isCode, P c = true) : L.all P = true := by
  refine List.all_eq_true.mpr fun c hc => ?_
  have h := List.all_eq_true.mp h1 c hc
  rcases Bool.eq_false_or_eq_true (isCode c) with hi | hi
  · exact h2 c (List.mem_filter.mpr ⟨hc, hi⟩)
  · simpa [hi] using h
set_option maxRecDepth 65536 in
theorem w_c0 : (Jvm.Cond.code x code maxLocals ret).before args0 about1 = true := code_word (m := ⟨1, 2⟩) (meth := k1m2) (c := k1c2) (by decide +kernel) rfl rfl rfl (by decide +kernel)
set_option maxRecDepth 65536 in
theorem w_c1 : (Jvm.Cond.code ({ cls := "com/example/firm_quote/firmquote/bench/RatePerSecondPinLaw", name := "pow10", desc := "(I)J" } : Jvm.MethodName) method_2_code (2 : Nat) (Option.some Jvm.ClassFile.FieldType.long)).before args0 about1 = true := code_word (m := ⟨1, 1⟩) (meth := k1m1) (c := k1c1) (by decide +kernel) rfl rfl rfl (by decide +kernel)
set_option maxRecDepth 65536 in
theorem w_c2 : (Jvm.Cond.code ({ cls := "com/example/firm_quote/firmquote/bench/Rate", name := "<init>", desc := "(JJ)V" } : Jvm.MethodName) prog_6_method_1_code (5 : Nat) (Option.none : Option Jvm.ClassFile.FieldType)).before args0 about1 = true := code_word (m := ⟨3, 0⟩) (meth := k3m0) (c := k3c0) (by decide +kernel) rfl rfl rfl (by decide +kernel)
set_option maxRecDepth 65536 in
theorem w_c3 : (Jvm.Cond.code ({ cls := "java/lang/Record", name := "<init>", desc := "()V" } : Jvm.MethodName) jdk_30_method_1_code (1 : Nat) (Option.none : Option Jvm.ClassFile.FieldType)).before args0 about1 = true := code_word (m := ⟨2, 0⟩) (meth := k2m0) (c := k2c0) (by decide +kernel) rfl rfl rfl (by decide +kernel)
set_option maxRecDepth 65536 in
theorem w_c4 : (Jvm.Cond.code ({ cls := "java/lang/Object", name := "<init>", desc := "()V" } : Jvm.MethodName) object_method_1_code (1 : Nat) (Option.none : Option Jvm.ClassFile.FieldType)).before args0 about1 = true := code_word (m := ⟨0, 0⟩) (meth := k0m0) (c := k0c0) (by decide +kernel) rfl rfl rfl (by decide +kernel)
set_option maxRecDepth 65536 in
theorem w_c5 : (Jvm.Cond.code ({ cls := "com/example/firm_quote/firmquote/bench/Rate", name := "perSecond", desc := "()D" } : Jvm.MethodName) prog_6_method_2_code (1 : Nat) (Option.some Jvm.ClassFile.FieldType.double)).before args0 about1 = true := code_word (m := ⟨3, 1⟩) (meth := k3m1) (c := k3c1) (by decide +kernel) rfl rfl rfl (by decide +kernel)
def codes1 : List Jvm.Cond := [Jvm.Cond.code x code maxLocals ret, Jvm.Cond.code ({ cls := "com/example/firm_quote/firmquote/bench/RatePerSecondPinLaw", name := "pow10", desc := "(I)J" } : Jvm.MethodName) method_2_code (2 : Nat) (Option.some Jvm.ClassFile.FieldType.long), Jvm.Cond.code ({ cls := "com/example/firm_quote/firmquote/bench/Rate", name := "<init>", desc := "(JJ)V" } : Jvm.MethodName) prog_6_method_1_code (5 : Nat) (Option.none : Option Jvm.ClassFile.FieldType), Jvm.Cond.code ({ cls := "java/lang/Record", name := "<init>", desc := "()V" } : Jvm.MethodName) jdk_30_method_1_code (1 : Nat) (Option.none : Option Jvm.ClassFile.FieldType), Jvm.Cond.code ({ cls := "java/lang/Object", name := "<init>", desc := "()V" } : Jvm.MethodName) object_method_1_code (1 : Nat) (Option.none : Option Jvm.ClassFile.FieldType), Jvm.Cond.code ({ cls := "com/example/firm_quote/firmquote/bench/Rate", name := "perSecond", desc := "()D" } : Jvm.MethodName) prog_6_method_2_code (1 : Nat) (Option.some Jvm.ClassFile.FieldType.double)]
set_option maxRecDepth 65536 in
theorem codes_eq : words1.filter isCode = codes1 := rfl
theorem w_codes : ∀ c ∈ words1.filter isCode, c.before args0 about1 = true := by
  rw [codes_eq]
  intro c hc
  simp only [codes1, List.mem_cons, List.not_mem_nil, or_false] at hc
  rcases hc with rfl | rfl | rfl | rfl | rfl | rfl
  · exact w_c0
  · exact w_c1
  · exact w_c2
  · exact w_c3
  · exact w_c4
  · exact w_c5
set_option maxRecDepth 65536 in
theorem w_t1 : (words1.take 24).all (fun c => isCode c || c.before args0 about1) = true := by decide +kernel
set_option maxRecDepth 65536 in
theorem w_t2 : (words1.drop 24).all (fun c => isCode c || c.before args0 about1) = true := by decide +kernel
theorem w_tables : (allAtoms (Jvm.Cond.code x code maxLocals ret :: tables_1)).before args0 about1 = true := by
  rw [allAtoms_all]
  show words1.all (fun c => c.before args0 about1) = true
  refine all_split ?_ w_codes
  rw [← List.take_append_drop 24 words1, List.all_append, w_t1, w_t2]
  rfl
set_option maxRecDepth 65536 in
theorem w_case : (Jvm.Cond.and given_1 narrow_1).before args0 about1 = true := by decide +kernel
theorem w_applies : (headSpec (Jvm.Cond.code x code maxLocals ret :: tables_1) room_1).applies x e0.platform about1 = true :=
  (Spec.applies_iff w_frames).mpr ⟨w_running, w_runnable, w_alone, w_named, w_hears, w_ripe, w_room, w_tables⟩
theorem atStart : AtStart classFile x code maxLocals ret World_1 tables_1 room_1 Calls_1 rest_1 Pre_1 launch0 p0 e0 about1 theMethod args0 below0 :=
  ⟨lists_1, trivial, launch0.admits_env _ _ _, launch0.least_env, fairChoices_fair.cas, fairChoices_fair.clock, w_frames, w_args, w_heap, w_applies, trivial, trivial, w_case⟩
end start1
theorem witness_1 : WitnessClaimed_1 := ⟨start1.p0, start1.e0, start1.about1, start1.theMethod, start1.args0, start1.below0, start1.atStart⟩
end Jvm.Pilot.@@N@@
