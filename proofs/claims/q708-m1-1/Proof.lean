import JvmDerived
import JvmDerived.Pilot.@@N@@Statement
import JvmDerived.Pilot.@@N@@Code
set_option linter.unusedVariables false
set_option linter.unusedSimpArgs false
namespace Jvm.Pilot.@@N@@.OwnKit
open Jvm Sem ClassFile Op Lib Jvm.Stand Jvm.Free Jvm.LawKit Jvm.RoadKit
section New
variable {p : Program} {l : Launch} {e : Env} {R : Room} {s : State} {m : MethodId} {args : Array Value} {below : List Frame} {meth : Method} {c : Code} {T : State} {locs : List Loc} {cells slots : Nat}
theorem retI (X : Stand p l e R s m args below meth c T locs cells slots) (hx : p.tables.exec = Jvm.exec) {pc : Nat} {Ls : Array Slot} {z : Int32} {rest : List Value} (hret : meth.sig.returnType = some .int) (hd : decode c.code pc = .ok (.ireturn, 1)) {fs : List Frame}
    (hl : ∀ (f : JFrame) (acts : List Action), f.method = m → f.locked = none → f.entered = [] → (doReturn e (T.setTop f) acts (some (.int z))).1 = T.setFrames fs) : Steps p.tables e below (T.setTop (mkF m pc Ls (.int z :: rest))) (T.setFrames fs) :=
  retOut X hx hret rfl (Or.inl ⟨rfl, Or.inl rfl, _, rfl⟩) hd hl
theorem lremM {g : JFrame} {target : State} (X : Stand p l e R s m args below meth c T locs cells slots) (hx : p.tables.exec = Jvm.exec) (hg : g.method = m) {x y : Int64} {rest : List Value} (hd : decode c.code g.pc = .ok (.lrem, 1)) (hs : g.stack = .long y :: .long x :: rest) (hy : y ≠ 0)
    (hr : Steps p.tables e below (T.setTop { g with pc := g.pc + 1, stack := .long (x % y) :: rest }) target) : Steps p.tables e below (T.setTop g) target := by
  have q : x - x / y * y = x % y := by
    have g1 := rng64 (x % y)
    have g2 : (x % y).toInt = x.toInt.tmod y.toInt := Int64.toInt_mod x y
    have g3 := Int.tmod_def x.toInt y.toInt
    have g4 : (x / y).toInt = (x.toInt.tdiv y.toInt).bmod (2 ^ 64) := Int64.toInt_div x y
    apply Int64.toInt_inj.mp
    rw [Int64.toInt_sub, Int64.toInt_mul, g4, Int.bmod_mul_bmod, Int.sub_bmod_bmod, Int.mul_comm (x.toInt.tdiv y.toInt), ← g3, ← g2]
    exact Int.bmod_eq_of_le_mul_two (by omega) (by omega)
  exact XS.lrem X.here hx hg hd hs hy (by rw [q]; exact hr)
end New
/-- from here the run ends, and as G says -/
def Goes (tb : Tables) (e : Env) (below : List Frame) (t : State) (G : State → Outcome → Prop) : Prop := ∃ s₂ o, Steps tb e below t s₂ ∧ s₂.status = .running ∧ Ended s₂ below o ∧ G s₂ o
variable {tb : Tables} {e : Env} {below : List Frame} {t t' : State} {G : State → Outcome → Prop}
theorem Goes.by (k : ∀ u, Steps tb e below t' u → Steps tb e below t u) (h : Goes tb e below t' G) : Goes tb e below t G := by
  obtain ⟨s₂, o, h1, h2⟩ := h; exact ⟨s₂, o, k _ h1, h2⟩
theorem Goes.via (k : Steps tb e below t t') (h : Goes tb e below t' G) : Goes tb e below t G := by
  obtain ⟨s₂, o, h1, h2⟩ := h; exact ⟨s₂, o, k.trans h1, h2⟩
theorem Goes.cut {α : Type} {K : α → State} {C : α → Prop} (h1 : (∀ x, C x → Goes tb e below (K x) G) → Goes tb e below t G) (h2 : ∀ x, C x → Goes tb e below (K x) G) : Goes tb e below t G := h1 h2
theorem Goes.loop {α : Type} (μ : α → Nat) {K : α → State} {C : α → Prop} (step : ∀ x, C x → (∀ y, μ y < μ x → C y → Goes tb e below (K y) G) → Goes tb e below (K x) G) : ∀ x, C x → Goes tb e below (K x) G := by
  intro x
  induction hn : μ x using Nat.strongRecOn generalizing x with
  | _ n ih => intro hC; exact step x hC (fun y hy hCy => ih (μ y) (hn ▸ hy) y rfl hCy)
theorem jl_t {x y : Int64} (h : x < y) : ifCond.holds .lt (lcmpW x y) = true ∧ ifCond.holds .ge (lcmpW x y) = false := ⟨(if0 _ _).trans (tlt ((lw_lt x y).mpr h)).1, (if0 _ _).trans (tlt ((lw_lt x y).mpr h)).2.1⟩
theorem jl_f {x y : Int64} (h : ¬ x < y) : ifCond.holds .lt (lcmpW x y) = false ∧ ifCond.holds .ge (lcmpW x y) = true := ⟨(if0 _ _).trans (flt (fun q => h ((lw_lt x y).mp q))).1, (if0 _ _).trans (flt (fun q => h ((lw_lt x y).mp q))).2.1⟩
theorem jg_t {x y : Int64} (h : y < x) : ifCond.holds .gt (lcmpW x y) = true ∧ ifCond.holds .le (lcmpW x y) = false := ⟨(if0 _ _).trans (tlt ((lw_gt x y).mpr h)).2.2.1, (if0 _ _).trans (tlt ((lw_gt x y).mpr h)).2.2.2⟩
theorem jg_f {x y : Int64} (h : ¬ y < x) : ifCond.holds .gt (lcmpW x y) = false ∧ ifCond.holds .le (lcmpW x y) = true := ⟨(if0 _ _).trans (flt (fun q => h ((lw_gt x y).mp q))).2.2.1, (if0 _ _).trans (flt (fun q => h ((lw_gt x y).mp q))).2.2.2⟩
theorem je_t {x y : Int64} (h : x = y) : ifCond.holds .eq (lcmpW x y) = true ∧ ifCond.holds .ne (lcmpW x y) = false := ⟨(if0 _ _).trans (teq ((lw_eq x y).mpr h)).1, (if0 _ _).trans (teq ((lw_eq x y).mpr h)).2⟩
theorem je_f {x y : Int64} (h : ¬ x = y) : ifCond.holds .eq (lcmpW x y) = false ∧ ifCond.holds .ne (lcmpW x y) = true := ⟨(if0 _ _).trans (feq (fun q => h ((lw_eq x y).mp q))).1, (if0 _ _).trans (feq (fun q => h ((lw_eq x y).mp q))).2⟩
theorem selP {Z s : State} {a0 args : Array Value} {y : MethodName} {n : Nat} (hZ : Z.Warmed39 s.vm) (wi : (Cond.instantiable y.cls n).before a0 Z = true) (wp : (Cond.privateMethod y).before a0 Z = true) (win : (Cond.instanceMethod y).before a0 Z = true) (hy : y.cls ≠ "java/lang/invoke/MethodHandle" ∧ y.cls ≠ "java/lang/invoke/VarHandle") : (Cond.selects y.cls y y).before args s = true := by
  have w1 : (Cond.instantiable y.cls n).before args s = true := mv hZ wi
  obtain ⟨c, k, h1, h2, -, h4, -⟩ := Cond.instantiable_spec w1
  rw [Bool.or_eq_false_iff] at h4
  exact selects_self_of_private h1 h2 h4.1 (Cond.privateMethod_at (mvP hZ wp (args := args))) (mv hZ win) hy
theorem catR {v : Value} (h : v.isRef = true) : v.category = 1 := by cases v <;> first | rfl | (cases h)
theorem narR {t : FieldType} {w : Value} (h : t.isReference = true) : narrow t w = w := by cases t <;> first | (cases h; done) | (cases w <;> rfl)
end Jvm.Pilot.@@N@@.OwnKit
namespace Jvm.Pilot.@@N@@.OwnKit
open Jvm Sem ClassFile Op Lib Jvm.Stand Jvm.Free Jvm.LawKit Jvm.RoadKit
/-- one place of a function turned -/
def up {α : Type} (f : Nat → α) (i : Nat) (v : α) : Nat → α := fun j => if j = i then v else f j
/-- an array of n places; place j holds f j -/
def Ar (Z : State) (h : Heap) (a : Addr) (ty : FieldType) (n : Nat) (f : Nat → Value) : Prop := ∃ c : Cell, Arr Z h a c ty ∧ c.slots.size = n ∧ n < 2 ^ 31 ∧ ∀ j, j < n → c.slots[j]? = some (f j) ∧ fits ty (f j) = true
def AI (Z : State) (h : Heap) (a : Addr) (ty : FieldType) (n : Nat) (f : Nat → Int32) : Prop := Ar Z h a ty n (fun j => .int (f j))
def AJ (Z : State) (h : Heap) (a : Addr) (n : Nat) (f : Nat → Int64) : Prop := Ar Z h a .long n (fun j => .long (f j))
section Facts
variable {Z : State} {h h' : Heap} {a b : Addr} {ty : FieldType} {n sl : Nat} {f : Nat → Value} {g : Nat → Int32} {k : Nat → Int64} {v : Value} {ws : List Addr}
theorem up_at {α : Type} (f : Nat → α) (i : Nat) (v : α) : up f i v i = v := if_pos rfl
theorem up_ne {α : Type} (f : Nat → α) {i j : Nat} (v : α) (q : j ≠ i) : up f i v j = f j := if_neg q
theorem Ar.lt (A : Ar Z h a ty n f) : a < h.size := by obtain ⟨c, A, -⟩ := A; exact A.lt
theorem Ar.ext (A : Ar Z h a ty n f) (E : Ext h h') : Ar Z h' a ty n f := by obtain ⟨c, A, r⟩ := A; exact ⟨c, A.ext E, r⟩
theorem Ar.other (A : Ar Z h b ty n f) (W : Wr h h' a sl v) (q : b ≠ a) : Ar Z h' b ty n f := by obtain ⟨c, A, r⟩ := A; exact ⟨c, A.other W q, r⟩
theorem Ar.keep (A : Ar Z h a ty n f) (K : Keep h h' ws) (q : a ∉ ws) : Ar Z h' a ty n f := by obtain ⟨c, A, r⟩ := A; exact ⟨c, ⟨K.2.1 a c A.1 q, A.2⟩, r⟩
theorem own_setSlot (c : Cell) (i : Nat) (v : Value) : (c.setSlot i v).slots = c.slots.setIfInBounds i v := rfl
theorem Ar.wr (A : Ar Z h a ty n f) (W : Wr h h' a sl v) (hf : fits ty v = true) : Ar Z h' a ty n (up f sl v) := by
  obtain ⟨c, A, S, M, G⟩ := A
  refine ⟨c.setSlot sl v, A.same W, by rw [sz_set]; exact S, M, fun j hj => ?_⟩
  by_cases q : j = sl
  · subst q; rw [up_at, own_setSlot, Array.getElem?_setIfInBounds_self_of_lt (by omega)]; exact ⟨rfl, hf⟩
  · rw [up_ne f v q, own_setSlot, Array.getElem?_setIfInBounds_ne (Ne.symm q)]; exact G j hj
theorem Ar.congr {f' : Nat → Value} (A : Ar Z h a ty n f) (q : ∀ j, j < n → f j = f' j) : Ar Z h a ty n f' := by
  obtain ⟨c, A, S, M, G⟩ := A; exact ⟨c, A, S, M, fun j hj => by rw [← q j hj]; exact G j hj⟩
theorem AI.lt (A : AI Z h a ty n g) : a < h.size := Ar.lt A
theorem AI.ext (A : AI Z h a ty n g) (E : Ext h h') : AI Z h' a ty n g := Ar.ext A E
theorem AI.other (A : AI Z h b ty n g) (W : Wr h h' a sl v) (q : b ≠ a) : AI Z h' b ty n g := Ar.other A W q
theorem AI.keep (A : AI Z h a ty n g) (K : Keep h h' ws) (q : a ∉ ws) : AI Z h' a ty n g := Ar.keep A K q
theorem AI.wr {x : Int32} (A : AI Z h a ty n g) (W : Wr h h' a sl (.int x)) (hf : fits ty (.int x) = true) : AI Z h' a ty n (up g sl x) :=
  (Ar.wr A W hf).congr fun j _ => by simp only [up]; split <;> rfl
theorem AI.congr {g' : Nat → Int32} (A : AI Z h a ty n g) (q : ∀ j, j < n → g j = g' j) : AI Z h a ty n g' := Ar.congr A fun j hj => by rw [q j hj]
theorem AJ.lt (A : AJ Z h a n k) : a < h.size := Ar.lt A
theorem AJ.ext (A : AJ Z h a n k) (E : Ext h h') : AJ Z h' a n k := Ar.ext A E
theorem AJ.other (A : AJ Z h b n k) (W : Wr h h' a sl v) (q : b ≠ a) : AJ Z h' b n k := Ar.other A W q
theorem AJ.keep (A : AJ Z h a n k) (K : Keep h h' ws) (q : a ∉ ws) : AJ Z h' a n k := Ar.keep A K q
theorem AJ.wr {x : Int64} (A : AJ Z h a n k) (W : Wr h h' a sl (.long x)) : AJ Z h' a n (up k sl x) :=
  (Ar.wr A W rfl).congr fun j _ => by simp only [up]; split <;> rfl
theorem AJ.congr {k' : Nat → Int64} (A : AJ Z h a n k) (q : ∀ j, j < n → k j = k' j) : AJ Z h a n k' := Ar.congr A fun j hj => by rw [q j hj]
theorem Ar.bound (A : Ar Z h a ty n f) : n < 2 ^ 31 := by obtain ⟨c, A, S, M, G⟩ := A; exact M
theorem eqv_r {Z : State} {args : Array Value} {X F : Term} {idx : List Nat} {y : Addr} (hF : F.eval args Z none idx Z = some (.ref y)) (h : (Cond.eq X F).value args Z none Z idx = some true) : X.eval args Z none idx Z = some (.ref y) := by
  obtain ⟨x, y', e1, e2, k1, k2⟩ := cmp_v (Or.inl h)
  cases hF.symm.trans e2
  exact e1.trans (congrArg some (gotT (eq_R e1 hF k2.2 rfl) h))
theorem own_lenA (t : Term) (args : Array Value) (first s : State) (o : Option Outcome) (idx : List Nat) : (Term.length t).eval args first o idx s = ((t.eval args first o idx s).bind fun v => match v with | .ref a => ((s.arrayAt? a).bind fun c => if c.slots.size < 2 ^ 31 then some (.int c.slots.size.toInt32) else none) | _ => none) := rfl
theorem own_sized {t : Term} {args : Array Value} {s : State} {a : Addr} {c : Cell} {z : Int32} {n : Nat} (ht : t.eval args s none [] s = some (.ref a)) (ha : s.arrayAt? a = some c) (h : (Term.length t).eval args s none [] s = some (.int z)) (hz : z.toInt = (n : Int)) : c.slots.size = n := by
  rw [own_lenA, ht, Option.bind_some] at h
  dsimp only at h
  rw [ha, Option.bind_some] at h
  by_cases q : c.slots.size < 2 ^ 31
  · rw [if_pos q] at h
    have e5 := Value.int.inj (Option.some.inj h)
    have e6 := len_toInt q
    rw [e5] at e6
    omega
  · rw [if_neg q] at h; cases h
theorem ixo {j : Int32} {i n : Nat} (hj : j.toInt = (i : Int)) (hi : i < n) : ¬ (j < 0 ∨ n ≤ j.toNatClampNeg) ∧ j.toNatClampNeg = i := by
  have e0 : (0 : Int32).toInt = 0 := rfl
  have q : j.toNatClampNeg = i := by rw [Int32.toNatClampNeg, hj]; rfl
  refine ⟨fun z => z.elim (fun u => ?_) fun u => ?_, q⟩
  · rw [Int32.lt_iff_toInt_lt] at u; omega
  · omega
theorem lenI {n : Nat} {z : Int32} (hz : z.toInt = (n : Int)) : n.toInt32 = z := by
  apply Int32.toInt_inj.mp
  have r := rng32 z
  rw [hz]; exact Int32.toInt_ofNat_of_lt (by omega)
theorem Ar.arv (A : Ar Z h a ty n f) : ∃ k, Arv Z h a k ty (Int32.ofNat n) ((List.range n).map f) (f 0) := by
  obtain ⟨c, A, S, M, G⟩ := A
  have e0 : (0 : Int32).toInt = 0 := rfl
  have hz : (Int32.ofNat n).toInt = (n : Int) := Int32.toInt_ofNat_of_lt (by omega)
  have hq : (Int32.ofNat n).toNatClampNeg = n := by rw [Int32.toNatClampNeg, hz]; rfl
  have hg : ∀ i, i < n → ((List.range n).map f).getD i (f 0) = f i := fun i hi => by
    rw [List.getD_eq_getElem?_getD, List.getElem?_map, List.getElem?_range hi]; rfl
  refine ⟨c.cls, c, A, rfl, by rw [hq]; exact S, by rw [Int32.lt_iff_toInt_lt, hz]; omega, fun i hi => ?_, fun i hi => ?_⟩
  · rw [hg i (by omega)]; exact (G i (by omega)).1
  · rw [hg i (by omega)]; exact (G i (by omega)).2
theorem Ar.of_arv {k : ClassId} {z : Int32} {vs : List Value} {d : Value} (A : Arv Z h a k ty z vs d) (hz : z.toInt = (n : Int)) : Ar Z h a ty n (fun j => vs.getD j d) := by
  obtain ⟨c, A, q, S, N, H, G⟩ := A
  have hq : z.toNatClampNeg = n := by rw [Int32.toNatClampNeg, hz]; rfl
  have r := rng32 z
  exact ⟨c, A, by rw [S, hq], by omega, fun j hj => ⟨H j (by omega), G j (by omega)⟩⟩
end Facts
section Steps
variable {p : Program} {l : Launch} {e : Env} {R : Room} {s : State} {m : MethodId} {args : Array Value} {below : List Frame} {meth : Method} {c : Code} {T : State} {locs : List Loc} {cells slots : Nat} {Z : State} {h : Heap} {a : Addr} {n i : Nat} {j : Int32} {rest : List Value} {fr : JFrame} {target : State}
theorem ldI {f : Nat → Int32} {v : Int32} (X : Stand p l e R s m args below meth c T locs cells slots) (hx : p.tables.exec = Jvm.exec) (hZ : Z.Warmed39 s.vm) (eT : T.heap = h) (A : AI Z h a .int n f) (hj : j.toInt = (i : Int)) (hi : i < n) (hv : v = f i) (hg : fr.method = m) (hs : fr.stack = .int j :: .ref a :: rest) (hd : decode c.code fr.pc = .ok (.iaload, 1))
    (hr : Steps p.tables e below (T.setTop { fr with pc := fr.pc + 1, stack := .int v :: rest }) target) : Steps p.tables e below (T.setTop fr) target := by
  obtain ⟨cl, A, S, M, G⟩ := A
  obtain ⟨q1, q2⟩ := ixo hj hi
  exact X.iaload hx (j := j) (v := .int v) (by rw [eT]; exact A.1) (State.isArrayOf_alike hZ.alike A.2.1) A.2.2 (by rw [S]; exact q1) (by rw [q2, hv]; exact (G i hi).1) hg hs hd _ hr
theorem ldB {f : Nat → Int32} {v : Int32} (X : Stand p l e R s m args below meth c T locs cells slots) (hx : p.tables.exec = Jvm.exec) (hZ : Z.Warmed39 s.vm) (eT : T.heap = h) (A : AI Z h a .byte n f) (hj : j.toInt = (i : Int)) (hi : i < n) (hv : v = f i) (hg : fr.method = m) (hs : fr.stack = .int j :: .ref a :: rest) (hd : decode c.code fr.pc = .ok (.baload, 1))
    (hr : Steps p.tables e below (T.setTop { fr with pc := fr.pc + 1, stack := .int v :: rest }) target) : Steps p.tables e below (T.setTop fr) target := by
  obtain ⟨cl, A, S, M, G⟩ := A
  obtain ⟨q1, q2⟩ := ixo hj hi
  exact X.baloadBytes hx (j := j) (v := .int v) (by rw [eT]; exact A.1) (State.isArrayOf_alike hZ.alike A.2.1) A.2.2 (by rw [S]; exact q1) (by rw [q2, hv]; exact (G i hi).1) hg hs hd _ hr
theorem ldJ {f : Nat → Int64} {v : Int64} (X : Stand p l e R s m args below meth c T locs cells slots) (hx : p.tables.exec = Jvm.exec) (hZ : Z.Warmed39 s.vm) (eT : T.heap = h) (A : AJ Z h a n f) (hj : j.toInt = (i : Int)) (hi : i < n) (hv : v = f i) (hg : fr.method = m) (hs : fr.stack = .int j :: .ref a :: rest) (hd : decode c.code fr.pc = .ok (.laload, 1))
    (hr : Steps p.tables e below (T.setTop { fr with pc := fr.pc + 1, stack := .long v :: rest }) target) : Steps p.tables e below (T.setTop fr) target := by
  obtain ⟨cl, A, S, M, G⟩ := A
  obtain ⟨q1, q2⟩ := ixo hj hi
  exact X.laload hx (j := j) (v := .long v) (by rw [eT]; exact A.1) (State.isArrayOf_alike hZ.alike A.2.1) A.2.2 (by rw [S]; exact q1) (by rw [q2, hv]; exact (G i hi).1) hg hs hd _ hr
theorem ldR {ty : FieldType} {f : Nat → Value} {v : Value} (X : Stand p l e R s m args below meth c T locs cells slots) (hx : p.tables.exec = Jvm.exec) (hZ : Z.Warmed39 s.vm) (eT : T.heap = h) (A : Ar Z h a ty n f) (hty : ty.isReference = true) (hj : j.toInt = (i : Int)) (hi : i < n) (hv : v = f i) (hg : fr.method = m) (hs : fr.stack = .int j :: .ref a :: rest) (hd : decode c.code fr.pc = .ok (.aaload, 1))
    (hr : Steps p.tables e below (T.setTop { fr with pc := fr.pc + 1, stack := v :: rest }) target) : Steps p.tables e below (T.setTop fr) target := by
  obtain ⟨cl, A, S, M, G⟩ := A
  obtain ⟨q1, q2⟩ := ixo hj hi
  exact X.aaload hx (j := j) (v := v) (by rw [eT]; exact A.1) (State.isArrayOf_alike hZ.alike A.2.1) hty A.2.2 (by rw [S]; exact q1) (by rw [q2, hv]; exact (G i hi).1) hg hs hd _ hr
/-- an array's clone -/
theorem cloneAr {a0 : Array Value} {own ad : String} {index : Nat} {ty : FieldType} {f : Nat → Value} {W cap : Nat} (X : Stand p l e R s m args below meth c T locs cells slots) (hx : p.tables.exec = Jvm.exec) (hZ : Z.Warmed39 s.vm) (hown : s.vm.findClass own = some m.cls)
    (w1 : (Cond.methodLink own index ⟨ad, "clone", "()Ljava/lang/Object;"⟩).before a0 Z = true) (w2 : (Cond.sameMethod ad "java/lang/Object" "clone" "()Ljava/lang/Object;").before a0 Z = true) (w3 : (Cond.native ⟨"java/lang/Object", "clone", "()Ljava/lang/Object;"⟩).before a0 Z = true)
    (w4 : (Cond.instanceMethod ⟨"java/lang/Object", "clone", "()Ljava/lang/Object;"⟩).before a0 Z = true) (w5 : (Cond.selects ad ⟨ad, "clone", "()Ljava/lang/Object;"⟩ ⟨"java/lang/Object", "clone", "()Ljava/lang/Object;"⟩).before a0 Z = true) (w6 : (Cond.castable ad "java/lang/Cloneable").before a0 Z = true)
    (eT : T.heap = h) (A : Ar Z h a ty n f) (E : Exa Z h a ad) (hg : fr.method = m) (hsize : fr.locals.size = c.maxLocals) (hs : fr.stack = .ref a :: rest) (hd : decode c.code fr.pc = .ok (.invokevirtual index, 3))
    (hf : 1 ≤ R.frames) (hW : 2 * fr.monitorRoom + (rest.map fun v => v.category).sum ≤ W) (hl : W + 14 ≤ R.locals) (hcap : n ≤ cap) (hc : cells + 1 ≤ R.cells) (hsl : slots + cap ≤ R.slots) :
    ∃ T' h', Stand p l e R s m args below meth c T' locs (cells + 1) (slots + cap) ∧ T'.heap = h' ∧ Ext h h' ∧ Ar Z h' h.size ty n f ∧ Exa Z h' h.size ad ∧
      ∀ target, Steps p.tables e below (T'.setTop { fr with pc := fr.pc + 3, stack := .ref h.size :: rest }) target → Steps p.tables e below (T.setTop fr) target := by
  obtain ⟨cl, A, S, M, G⟩ := A
  have FC : FitC Z cl := fitC_of A fun i hi v hv => by
    have q := G i (by omega)
    rw [q.1] at hv; cases hv; exact q.2
  obtain ⟨T', h', X', e', ex, A', E', st⟩ := cloneA X hx hZ hown w1 w2 w3 w4 w5 w6 eT A E FC hg hsize hs hd hf hW hl (by omega) hc hsl
  exact ⟨T', h', X', e', ex, ⟨cloneOf cl, A', S, M, G⟩, E', st⟩
theorem alen {ty : FieldType} {f : Nat → Value} {z : Int32} (X : Stand p l e R s m args below meth c T locs cells slots) (hx : p.tables.exec = Jvm.exec) (hZ : Z.Warmed39 s.vm) (eT : T.heap = h) (A : Ar Z h a ty n f) (hz : z.toInt = (n : Int)) (hg : fr.method = m) (hs : fr.stack = .ref a :: rest) (hd : decode c.code fr.pc = .ok (.arraylength, 1))
    (hr : Steps p.tables e below (T.setTop { fr with pc := fr.pc + 1, stack := .int z :: rest }) target) : Steps p.tables e below (T.setTop fr) target := by
  obtain ⟨cl, A, S, M, G⟩ := A
  exact X.arraylength hx (by rw [eT]; exact A.1) (State.isArrayOf_alike hZ.alike A.2.1) hg hs hd _ (by rw [S, lenI hz]; exact hr)
theorem stAI {f : Nat → Int32} {x : Int32} (X : Stand p l e R s m args below meth c T locs cells slots) (hx : p.tables.exec = Jvm.exec) (hZ : Z.Warmed39 s.vm) (eT : T.heap = h) (A : AI Z h a .int n f) (hj : j.toInt = (i : Int)) (hi : i < n) (hg : fr.method = m) (hs : fr.stack = .int x :: .int j :: .ref a :: rest) (hd : decode c.code fr.pc = .ok (.iastore, 1)) :
    ∃ T' h', Stand p l e R s m args below meth c T' (locs ++ [⟨a, i⟩]) cells slots ∧ T'.heap = h' ∧ Wr h h' a i (.int x) ∧ AI Z h' a .int n (up f i x) ∧ ∀ target, Steps p.tables e below (T'.setTop { fr with pc := fr.pc + 1, stack := rest }) target → Steps p.tables e below (T.setTop fr) target := by
  have A0 := A
  obtain ⟨cl, A, S, M, G⟩ := A
  obtain ⟨q1, q2⟩ := ixo hj hi
  obtain ⟨T', h', X', e', W', st⟩ := stI X hx hZ eT A (j := j) (by rw [S]; exact q1) hg hs hd
  rw [q2] at X' W'
  exact ⟨T', h', X', e', W', A0.wr W' rfl, st⟩
theorem stAB {f : Nat → Int32} {x : Int32} (X : Stand p l e R s m args below meth c T locs cells slots) (hx : p.tables.exec = Jvm.exec) (hZ : Z.Warmed39 s.vm) (eT : T.heap = h) (A : AI Z h a .byte n f) (hj : j.toInt = (i : Int)) (hi : i < n) (hg : fr.method = m) (hs : fr.stack = .int x :: .int j :: .ref a :: rest) (hd : decode c.code fr.pc = .ok (.bastore, 1)) :
    ∃ T' h', Stand p l e R s m args below meth c T' (locs ++ [⟨a, i⟩]) cells slots ∧ T'.heap = h' ∧ Wr h h' a i (.int x.toInt8.toInt32) ∧ AI Z h' a .byte n (up f i x.toInt8.toInt32) ∧ ∀ target, Steps p.tables e below (T'.setTop { fr with pc := fr.pc + 1, stack := rest }) target → Steps p.tables e below (T.setTop fr) target := by
  have A0 := A
  obtain ⟨cl, A, S, M, G⟩ := A
  obtain ⟨q1, q2⟩ := ixo hj hi
  obtain ⟨T', h', X', e', W', st⟩ := stB X hx hZ eT A (j := j) (by rw [S]; exact q1) hg hs hd
  rw [q2] at X' W'
  exact ⟨T', h', X', e', W', A0.wr W' (fits_nar_byte x), st⟩
theorem stAC {f : Nat → Int32} {x : Int32} (X : Stand p l e R s m args below meth c T locs cells slots) (hx : p.tables.exec = Jvm.exec) (hZ : Z.Warmed39 s.vm) (eT : T.heap = h) (A : AI Z h a .char n f) (hj : j.toInt = (i : Int)) (hi : i < n) (hg : fr.method = m) (hs : fr.stack = .int x :: .int j :: .ref a :: rest) (hd : decode c.code fr.pc = .ok (.castore, 1)) :
    ∃ T' h', Stand p l e R s m args below meth c T' (locs ++ [⟨a, i⟩]) cells slots ∧ T'.heap = h' ∧ Wr h h' a i (.int (nar .char x)) ∧ AI Z h' a .char n (up f i (nar .char x)) ∧ ∀ target, Steps p.tables e below (T'.setTop { fr with pc := fr.pc + 1, stack := rest }) target → Steps p.tables e below (T.setTop fr) target := by
  have A0 := A
  obtain ⟨cl, A, S, M, G⟩ := A
  obtain ⟨q1, q2⟩ := ixo hj hi
  obtain ⟨T', h', X', e', W', st⟩ := stC X hx hZ eT A (j := j) (by rw [S]; exact q1) hg hs hd
  rw [q2] at X' W'
  exact ⟨T', h', X', e', W', A0.wr W' (fits_nar_char x), st⟩
theorem stAJ {f : Nat → Int64} {x : Int64} (X : Stand p l e R s m args below meth c T locs cells slots) (hx : p.tables.exec = Jvm.exec) (hZ : Z.Warmed39 s.vm) (eT : T.heap = h) (A : AJ Z h a n f) (hj : j.toInt = (i : Int)) (hi : i < n) (hg : fr.method = m) (hs : fr.stack = .long x :: .int j :: .ref a :: rest) (hd : decode c.code fr.pc = .ok (.lastore, 1)) :
    ∃ T' h', Stand p l e R s m args below meth c T' (locs ++ [⟨a, i⟩]) cells slots ∧ T'.heap = h' ∧ Wr h h' a i (.long x) ∧ AJ Z h' a n (up f i x) ∧ ∀ target, Steps p.tables e below (T'.setTop { fr with pc := fr.pc + 1, stack := rest }) target → Steps p.tables e below (T.setTop fr) target := by
  have A0 := A
  obtain ⟨cl, A, S, M, G⟩ := A
  obtain ⟨q1, q2⟩ := ixo hj hi
  obtain ⟨T', h', X', e', W', st⟩ := stJ X hx hZ eT A (j := j) (by rw [S]; exact q1) hg hs hd
  rw [q2] at X' W'
  exact ⟨T', h', X', e', W', A0.wr W', st⟩
theorem nwA {a0 : Array Value} {aty : ArrayType} {z : Int32} {cap : Nat} (X : Stand p l e R s m args below meth c T locs cells slots) (hx : p.tables.exec = Jvm.exec) (hZ : Z.Warmed39 s.vm) (w : (Cond.arrayClass (newarray.typeOf aty)).before a0 Z = true) (eT : T.heap = h) (hz : z.toInt = (n : Int)) (hcap : n ≤ cap) (hb : cap * 8 ≤ 536870912) (hc : cells + 1 ≤ R.cells) (hl : slots + cap ≤ R.slots) (hg : fr.method = m) (hs : fr.stack = .int z :: rest) (hd : decode c.code fr.pc = .ok (.newarray aty, 2)) :
    ∃ T' h', Stand p l e R s m args below meth c T' locs (cells + 1) (slots + cap) ∧ T'.heap = h' ∧ Ext h h' ∧ Ar Z h' h.size (newarray.typeOf aty) n (fun _ => defaultValue (newarray.typeOf aty)) ∧ ∀ target, Steps p.tables e below (T'.setTop { fr with pc := fr.pc + 2, stack := .ref h.size :: rest }) target → Steps p.tables e below (T.setTop fr) target := by
  have e0 : (0 : Int32).toInt = 0 := rfl
  have q : z.toNatClampNeg = n := by rw [Int32.toNatClampNeg, hz]; rfl
  have qn : ¬ z < 0 := by rw [Int32.lt_iff_toInt_lt]; omega
  have r := rng32 z
  obtain ⟨T', h', cA, X', e', E', A', st⟩ := newP X hx hZ w eT hg hd hs qn (cap := cap) (by omega) hb hc hl
  refine ⟨T', h', X', e', E', ⟨_, A', by rw [sz_new, q], by omega, fun i hi => ⟨?_, by cases aty <;> rfl⟩⟩, st⟩
  simp [newA, q, hi]
/-- System.arraycopy of the first k places -/
theorem cpAr {a0 : Array Value} {own : String} {index : Nat} {b : Addr} {ty : FieldType} {n1 n2 k : Nat} {f1 f2 : Nat → Value} {nn : Int32} {n0 W : Nat} (X : Stand p l e R s m args below meth c T locs cells slots) (hx : p.tables.exec = Jvm.exec) (hZ : Z.Warmed39 s.vm) (hown : s.vm.findClass own = some m.cls)
    (w1 : (Cond.methodLink own index Jvm.Stand.acN).before a0 Z = true) (w2 : (Cond.native Jvm.Stand.acN).before a0 Z = true) (w3 : (Cond.static Jvm.Stand.acN).before a0 Z = true) (w4 : (Cond.initialized "java/lang/System").before a0 Z = true) (eT : T.heap = h)
    (A : Ar Z h a ty n1 f1) (B : Ar Z h b ty n2 f2) (hty : refKind ty = false) (hk : nn.toInt = (k : Int)) (h4 : k ≤ n1) (h5 : k ≤ n2) (N : Fr n0 locs) (ge : n0 ≤ b)
    (hg : fr.method = m) (hsize : fr.locals.size = c.maxLocals) (hs : fr.stack = .int nn :: .int 0 :: .ref b :: .int 0 :: .ref a :: rest) (hd : decode c.code fr.pc = .ok (.invokestatic index, 3))
    (hf : 1 ≤ R.frames) (hW : 2 * fr.monitorRoom + (rest.map fun v => v.category).sum ≤ W) (hlo : W + (nativeFrameWords "java/lang/System" "arraycopy" 5 + 11) ≤ R.locals) :
    ∃ T' h' L, Stand p l e R s m args below meth c T' L cells slots ∧ T'.heap = h' ∧ Fr n0 L ∧ Keep h h' [b] ∧ Ar Z h' b ty n2 (fun j => if j < k then f1 j else f2 j) ∧
      ∀ target, Steps p.tables e below (T'.setTop { fr with pc := fr.pc + 3, stack := rest }) target → Steps p.tables e below (T.setTop fr) target := by
  obtain ⟨ka, A'⟩ := A.arv
  obtain ⟨kb, B'⟩ := B.arv
  have m1 := A.bound
  have m2 := B.bound
  have e0 : (0 : Int32).toInt = 0 := rfl
  have z0 : (0 : Int32).toNatClampNeg = 0 := rfl
  have hkk : nn.toNatClampNeg = k := by rw [Int32.toNatClampNeg, hk]; rfl
  have q1 : (Int32.ofNat n1).toInt = (n1 : Int) := Int32.toInt_ofNat_of_lt (by omega)
  have q2 : (Int32.ofNat n2).toInt = (n2 : Int) := Int32.toInt_ofNat_of_lt (by omega)
  have p1 : (Int32.ofNat n1).toNatClampNeg = n1 := by rw [Int32.toNatClampNeg, q1]; rfl
  have p2 : (Int32.ofNat n2).toNatClampNeg = n2 := by rw [Int32.toNatClampNeg, q2]; rfl
  obtain ⟨T', h', L', X', e', N', K', B2, st⟩ := cpA X hx hZ hown w1 w2 w3 w4 eT A' B' (Or.inl ⟨rfl, hty⟩) (sp := 0) (dp := 0) (nn := nn) (by decide) (by decide) (by rw [Int32.lt_iff_toInt_lt]; omega) (by rw [z0, hkk, p1]; omega) (by rw [z0, hkk, p2]; omega) rfl (by rw [z0, hkk, List.length_map, List.length_range]; omega) N ge hg hsize hs hd hf hW hlo
  refine ⟨T', h', L', X', e', N', K', (Ar.of_arv B2 q2).congr fun j hj => ?_, st⟩
  simp only [z0, hkk, List.take_zero, List.nil_append, Nat.zero_add, List.getD_eq_getElem?_getD]
  by_cases c1 : j < k
  · rw [if_pos c1, List.getElem?_append_left (by simpa using c1)]
    simp [c1, show j < n1 by omega]
  · rw [if_neg c1, List.getElem?_append_right (by simpa using c1)]
    simp [show k + (j - k) = j by omega, hj]
end Steps
end Jvm.Pilot.@@N@@.OwnKit
namespace Jvm.Pilot.@@N@@
open Jvm Jvm.ClassFile Sem Op Lib Jvm.Free Jvm.Stand Jvm.LawKit Jvm.RoadKit Bundle Jvm.Pilot.@@N@@.Jvm.D Jvm.Pilot.@@N@@.OwnKit
def own_keys (nk0 nk1 nk2 nk3 : Nat) : Nat → Int32 := up (up (up (up (fun _ => 0) 0 (Int32.ofNat nk0)) 1 (Int32.ofNat nk1)) 2 (Int32.ofNat nk2)) 3 (Int32.ofNat nk3)
def own_b (p : Bool) : Nat := if p then 1 else 0
def own_rank0 (nk0 nk1 nk2 nk3 : Nat) : Nat := own_b (decide (nk0 < nk0)) + own_b (decide (nk1 < nk0)) + own_b (decide (nk2 < nk0)) + own_b (decide (nk3 < nk0))
def own_rank1 (nk0 nk1 nk2 nk3 : Nat) : Nat := own_b (decide (nk0 < nk1)) + own_b (decide (nk1 < nk1)) + own_b (decide (nk2 < nk1)) + own_b (decide (nk3 < nk1)) + own_b (decide (nk0 = nk1))
def own_rank2 (nk0 nk1 nk2 nk3 : Nat) : Nat := own_b (decide (nk0 < nk2)) + own_b (decide (nk1 < nk2)) + own_b (decide (nk2 < nk2)) + own_b (decide (nk3 < nk2)) + own_b (decide (nk0 = nk2)) + own_b (decide (nk1 = nk2))
def own_rank3 (nk0 nk1 nk2 nk3 : Nat) : Nat := own_b (decide (nk0 < nk3)) + own_b (decide (nk1 < nk3)) + own_b (decide (nk2 < nk3)) + own_b (decide (nk3 < nk3)) + own_b (decide (nk0 = nk3)) + own_b (decide (nk1 = nk3)) + own_b (decide (nk2 = nk3))
def own_cnt1 (nk0 nk1 nk2 nk3 : Nat) : Nat → Int32 := fun j => Int32.ofNat (0 + own_b (decide (nk0 + 1 = j)))
def own_nx1 (nk0 nk1 nk2 nk3 : Nat) : Nat → Int32 := fun j => Int32.ofNat (0 + own_b (decide (nk0 = j)))
def own_cnt2 (nk0 nk1 nk2 nk3 : Nat) : Nat → Int32 := fun j => Int32.ofNat (0 + own_b (decide (nk0 + 1 = j)) + own_b (decide (nk1 + 1 = j)))
def own_nx2 (nk0 nk1 nk2 nk3 : Nat) : Nat → Int32 := fun j => Int32.ofNat (0 + own_b (decide (nk0 = j)) + own_b (decide (nk1 = j)))
def own_cnt3 (nk0 nk1 nk2 nk3 : Nat) : Nat → Int32 := fun j => Int32.ofNat (0 + own_b (decide (nk0 + 1 = j)) + own_b (decide (nk1 + 1 = j)) + own_b (decide (nk2 + 1 = j)))
def own_nx3 (nk0 nk1 nk2 nk3 : Nat) : Nat → Int32 := fun j => Int32.ofNat (0 + own_b (decide (nk0 = j)) + own_b (decide (nk1 = j)) + own_b (decide (nk2 = j)))
def own_cnt4 (nk0 nk1 nk2 nk3 : Nat) : Nat → Int32 := fun j => Int32.ofNat (0 + own_b (decide (nk0 + 1 = j)) + own_b (decide (nk1 + 1 = j)) + own_b (decide (nk2 + 1 = j)) + own_b (decide (nk3 + 1 = j)))
def own_nx4 (nk0 nk1 nk2 nk3 : Nat) : Nat → Int32 := fun j => Int32.ofNat (0 + own_b (decide (nk0 = j)) + own_b (decide (nk1 = j)) + own_b (decide (nk2 = j)) + own_b (decide (nk3 = j)))
def own_pre (i nk0 nk1 nk2 nk3 : Nat) : Nat → Int32 := fun j => if j ≤ i then Int32.ofNat (0 + own_b (decide (nk0 < j)) + own_b (decide (nk1 < j)) + own_b (decide (nk2 < j)) + own_b (decide (nk3 < j))) else Int32.ofNat (0 + own_b (decide (nk0 + 1 = j)) + own_b (decide (nk1 + 1 = j)) + own_b (decide (nk2 + 1 = j)) + own_b (decide (nk3 + 1 = j)))
theorem own_i0 (n : Nat) (h : n < 8) : (Int32.ofNat n).toInt = (n : Int) := Int32.toInt_ofNat_of_lt (by omega)
theorem own_i1 (n : Nat) (h : n < 8) : (Int32.ofNat n + (1 : Int32)).toInt = ((n + 1 : Nat) : Int) := by
  have a := c_iadd (Int32.ofNat n) 1
  have e1 : (1 : Int32).toInt = 1 := rfl
  have b := own_i0 n h
  have r := rng32 (Int32.ofNat n + 1)
  rw [e1] at a
  omega
theorem own_hi (x k : Int32) (nK ni : Nat) (h : x.toInt = (nK : Int)) (hk : k.toInt = (ni : Int)) (z : ¬ x < k) : ni < nK + 1 := by rw [Int32.lt_iff_toInt_lt] at z; omega
theorem own_nat (K : Nat) (hK : 0 < K) (hK2 : K < 8) (kk z x : Int32) (hkk : kk.toInt = (K : Int)) (h : x = ((z &&& (255 : Int32)) % kk)) : ∃ n : Nat, n < K ∧ x = Int32.ofNat n := by
  have h1 := c_and z 255 (by decide)
  have h2 := (c_irem (z &&& 255) kk K hkk).1 h1.1
  rw [← h] at h2
  have h3 : 0 ≤ x.toInt ∧ x.toInt < K := by
    rw [h2]; exact ⟨Int.emod_nonneg _ (by omega), Int.emod_lt_of_pos _ (by omega)⟩
  refine ⟨x.toInt.toNat, by omega, ?_⟩
  apply Int32.toInt_inj.mp
  rw [Int32.toInt_ofNat_of_lt (by omega)]
  omega
theorem own_kc (kc x : Int32) (h : x = ((1 : Int32) + (kc &&& (3 : Int32)))) : ∃ n : Nat, (n = 1 ∨ n = 2 ∨ n = 3 ∨ n = 4) ∧ x = Int32.ofNat n := by
  have h1 := c_and kc 3 (by decide)
  have a := c_iadd 1 (kc &&& 3)
  have e1 : (1 : Int32).toInt = 1 := rfl
  have e3 : (3 : Int32).toInt = 3 := rfl
  have r := rng32 x
  rw [e1, ← h] at a
  refine ⟨x.toInt.toNat, by omega, ?_⟩
  apply Int32.toInt_inj.mp
  rw [Int32.toInt_ofNat_of_lt (by omega)]
  omega
theorem own_nz (kc x : Int32) (h : x = ((1 : Int32) + (kc &&& (3 : Int32)))) : x ≠ 0 := fun q => by
  obtain ⟨n, hn, e⟩ := own_kc kc x h
  rw [q] at e
  rcases hn with rfl | rfl | rfl | rfl <;> revert e <;> decide
theorem d1_0 : decode prog_49_method_2_code 0 = .ok (.iload_n 2, 1) := by decide +kernel
theorem d1_1 : decode prog_49_method_2_code 1 = .ok (.iconst 1, 1) := by decide +kernel
theorem d1_2 : decode prog_49_method_2_code 2 = .ok (.iadd, 1) := by decide +kernel
theorem d1_3 : decode prog_49_method_2_code 3 = .ok (.newarray .int, 2) := by decide +kernel
theorem d1_5 : decode prog_49_method_2_code 5 = .ok (.astore 4, 2) := by decide +kernel
theorem d1_7 : decode prog_49_method_2_code 7 = .ok (.aload_n 1, 1) := by decide +kernel
theorem d1_8 : decode prog_49_method_2_code 8 = .ok (.astore 5, 2) := by decide +kernel
theorem d1_10 : decode prog_49_method_2_code 10 = .ok (.aload 5, 2) := by decide +kernel
theorem d1_12 : decode prog_49_method_2_code 12 = .ok (.arraylength, 1) := by decide +kernel
theorem d1_13 : decode prog_49_method_2_code 13 = .ok (.istore 6, 2) := by decide +kernel
theorem d1_15 : decode prog_49_method_2_code 15 = .ok (.iconst 0, 1) := by decide +kernel
theorem d1_16 : decode prog_49_method_2_code 16 = .ok (.istore 7, 2) := by decide +kernel
theorem d1_18 : decode prog_49_method_2_code 18 = .ok (.iload 7, 2) := by decide +kernel
theorem d1_20 : decode prog_49_method_2_code 20 = .ok (.iload 6, 2) := by decide +kernel
theorem d1_22 : decode prog_49_method_2_code 22 = .ok (.if_icmp .ge 27, 3) := by decide +kernel
theorem d1_25 : decode prog_49_method_2_code 25 = .ok (.aload 5, 2) := by decide +kernel
theorem d1_27 : decode prog_49_method_2_code 27 = .ok (.iload 7, 2) := by decide +kernel
theorem d1_29 : decode prog_49_method_2_code 29 = .ok (.iaload, 1) := by decide +kernel
theorem d1_30 : decode prog_49_method_2_code 30 = .ok (.istore 8, 2) := by decide +kernel
theorem d1_32 : decode prog_49_method_2_code 32 = .ok (.aload 4, 2) := by decide +kernel
theorem d1_34 : decode prog_49_method_2_code 34 = .ok (.iload 8, 2) := by decide +kernel
theorem d1_36 : decode prog_49_method_2_code 36 = .ok (.iconst 1, 1) := by decide +kernel
theorem d1_37 : decode prog_49_method_2_code 37 = .ok (.iadd, 1) := by decide +kernel
theorem d1_38 : decode prog_49_method_2_code 38 = .ok (.dup2, 1) := by decide +kernel
theorem d1_39 : decode prog_49_method_2_code 39 = .ok (.iaload, 1) := by decide +kernel
theorem d1_40 : decode prog_49_method_2_code 40 = .ok (.iconst 1, 1) := by decide +kernel
theorem d1_41 : decode prog_49_method_2_code 41 = .ok (.iadd, 1) := by decide +kernel
theorem d1_42 : decode prog_49_method_2_code 42 = .ok (.iastore, 1) := by decide +kernel
theorem own_f1_1 : ∀ nk0 nk1 nk2 nk3 : Fin 1, ∀ j : Fin 2, (up (fun _ => (0 : Int32)) (nk0.val + 1) (((fun _ => (0 : Int32)) (nk0.val + 1)) + (1 : Int32))) j.val = (own_cnt1 nk0.val nk1.val nk2.val nk3.val) j.val := by decide +kernel
theorem d1_43 : decode prog_49_method_2_code 43 = .ok (.iinc 7 1, 3) := by decide +kernel
theorem d1_46 : decode prog_49_method_2_code 46 = .ok (.goto (-28), 3) := by decide +kernel
theorem own_f1_2 : ∀ nk0 nk1 nk2 nk3 : Fin 1, ∀ j : Fin 2, (up (own_cnt1 nk0.val nk1.val nk2.val nk3.val) (nk1.val + 1) (((own_cnt1 nk0.val nk1.val nk2.val nk3.val) (nk1.val + 1)) + (1 : Int32))) j.val = (own_cnt2 nk0.val nk1.val nk2.val nk3.val) j.val := by decide +kernel
theorem own_f1_3 : ∀ nk0 nk1 nk2 nk3 : Fin 1, ∀ j : Fin 2, (up (own_cnt2 nk0.val nk1.val nk2.val nk3.val) (nk2.val + 1) (((own_cnt2 nk0.val nk1.val nk2.val nk3.val) (nk2.val + 1)) + (1 : Int32))) j.val = (own_cnt3 nk0.val nk1.val nk2.val nk3.val) j.val := by decide +kernel
theorem own_f1_4 : ∀ nk0 nk1 nk2 nk3 : Fin 1, ∀ j : Fin 2, (up (own_cnt3 nk0.val nk1.val nk2.val nk3.val) (nk3.val + 1) (((own_cnt3 nk0.val nk1.val nk2.val nk3.val) (nk3.val + 1)) + (1 : Int32))) j.val = (own_cnt4 nk0.val nk1.val nk2.val nk3.val) j.val := by decide +kernel
theorem d1_49 : decode prog_49_method_2_code 49 = .ok (.iconst 0, 1) := by decide +kernel
theorem d1_50 : decode prog_49_method_2_code 50 = .ok (.istore 5, 2) := by decide +kernel
theorem d1_52 : decode prog_49_method_2_code 52 = .ok (.iload 5, 2) := by decide +kernel
theorem d1_54 : decode prog_49_method_2_code 54 = .ok (.iload_n 2, 1) := by decide +kernel
theorem d1_55 : decode prog_49_method_2_code 55 = .ok (.if_icmp .ge 24, 3) := by decide +kernel
theorem d1_58 : decode prog_49_method_2_code 58 = .ok (.aload 4, 2) := by decide +kernel
theorem d1_60 : decode prog_49_method_2_code 60 = .ok (.iload 5, 2) := by decide +kernel
theorem d1_62 : decode prog_49_method_2_code 62 = .ok (.iconst 1, 1) := by decide +kernel
theorem d1_63 : decode prog_49_method_2_code 63 = .ok (.iadd, 1) := by decide +kernel
theorem d1_64 : decode prog_49_method_2_code 64 = .ok (.dup2, 1) := by decide +kernel
theorem d1_65 : decode prog_49_method_2_code 65 = .ok (.iaload, 1) := by decide +kernel
theorem d1_66 : decode prog_49_method_2_code 66 = .ok (.aload 4, 2) := by decide +kernel
theorem d1_68 : decode prog_49_method_2_code 68 = .ok (.iload 5, 2) := by decide +kernel
theorem d1_70 : decode prog_49_method_2_code 70 = .ok (.iaload, 1) := by decide +kernel
theorem d1_71 : decode prog_49_method_2_code 71 = .ok (.iadd, 1) := by decide +kernel
theorem d1_72 : decode prog_49_method_2_code 72 = .ok (.iastore, 1) := by decide +kernel
theorem own_f1_5 : ∀ nk0 nk1 nk2 nk3 : Fin 1, ∀ j : Fin 2, (up (own_cnt4 nk0.val nk1.val nk2.val nk3.val) 1 (((own_cnt4 nk0.val nk1.val nk2.val nk3.val) 1) + ((own_cnt4 nk0.val nk1.val nk2.val nk3.val) 0))) j.val = (own_pre 1 nk0.val nk1.val nk2.val nk3.val) j.val := by decide +kernel
theorem d1_73 : decode prog_49_method_2_code 73 = .ok (.iinc 5 1, 3) := by decide +kernel
theorem d1_76 : decode prog_49_method_2_code 76 = .ok (.goto (-24), 3) := by decide +kernel
theorem d1_79 : decode prog_49_method_2_code 79 = .ok (.iload_n 2, 1) := by decide +kernel
theorem d1_80 : decode prog_49_method_2_code 80 = .ok (.newarray .int, 2) := by decide +kernel
theorem d1_82 : decode prog_49_method_2_code 82 = .ok (.astore 5, 2) := by decide +kernel
theorem d1_84 : decode prog_49_method_2_code 84 = .ok (.iconst 0, 1) := by decide +kernel
theorem d1_85 : decode prog_49_method_2_code 85 = .ok (.istore 6, 2) := by decide +kernel
theorem d1_87 : decode prog_49_method_2_code 87 = .ok (.iload 6, 2) := by decide +kernel
theorem d1_89 : decode prog_49_method_2_code 89 = .ok (.aload_n 0, 1) := by decide +kernel
theorem d1_90 : decode prog_49_method_2_code 90 = .ok (.arraylength, 1) := by decide +kernel
theorem d1_91 : decode prog_49_method_2_code 91 = .ok (.if_icmp .ge 35, 3) := by decide +kernel
theorem d1_94 : decode prog_49_method_2_code 94 = .ok (.aload_n 3, 1) := by decide +kernel
theorem d1_95 : decode prog_49_method_2_code 95 = .ok (.aload 4, 2) := by decide +kernel
theorem d1_97 : decode prog_49_method_2_code 97 = .ok (.aload_n 1, 1) := by decide +kernel
theorem d1_98 : decode prog_49_method_2_code 98 = .ok (.iload 6, 2) := by decide +kernel
theorem d1_100 : decode prog_49_method_2_code 100 = .ok (.iaload, 1) := by decide +kernel
theorem d1_101 : decode prog_49_method_2_code 101 = .ok (.iaload, 1) := by decide +kernel
theorem d1_102 : decode prog_49_method_2_code 102 = .ok (.aload 5, 2) := by decide +kernel
theorem d1_104 : decode prog_49_method_2_code 104 = .ok (.aload_n 1, 1) := by decide +kernel
theorem d1_105 : decode prog_49_method_2_code 105 = .ok (.iload 6, 2) := by decide +kernel
theorem d1_107 : decode prog_49_method_2_code 107 = .ok (.iaload, 1) := by decide +kernel
theorem d1_108 : decode prog_49_method_2_code 108 = .ok (.dup2, 1) := by decide +kernel
theorem d1_109 : decode prog_49_method_2_code 109 = .ok (.iaload, 1) := by decide +kernel
theorem d1_110 : decode prog_49_method_2_code 110 = .ok (.dup_x2, 1) := by decide +kernel
theorem d1_111 : decode prog_49_method_2_code 111 = .ok (.iconst 1, 1) := by decide +kernel
theorem d1_112 : decode prog_49_method_2_code 112 = .ok (.iadd, 1) := by decide +kernel
theorem d1_113 : decode prog_49_method_2_code 113 = .ok (.iastore, 1) := by decide +kernel
theorem own_g1_1 : ∀ nk0 nk1 nk2 nk3 : Fin 1, ∀ j : Fin 1, (up (fun _ => (0 : Int32)) nk0.val (((fun _ => (0 : Int32)) nk0.val) + (1 : Int32))) j.val = (own_nx1 nk0.val nk1.val nk2.val nk3.val) j.val := by decide +kernel
theorem d1_114 : decode prog_49_method_2_code 114 = .ok (.iadd, 1) := by decide +kernel
theorem d1_115 : decode prog_49_method_2_code 115 = .ok (.aload_n 0, 1) := by decide +kernel
theorem d1_116 : decode prog_49_method_2_code 116 = .ok (.iload 6, 2) := by decide +kernel
theorem d1_118 : decode prog_49_method_2_code 118 = .ok (.iaload, 1) := by decide +kernel
theorem d1_119 : decode prog_49_method_2_code 119 = .ok (.iastore, 1) := by decide +kernel
theorem own_pl1_0 : ∀ nk0 nk1 nk2 nk3 : Fin 1, (((own_pre 1 nk0.val nk1.val nk2.val nk3.val) nk0.val) + ((fun _ => (0 : Int32)) nk0.val)).toInt = ((own_rank0 nk0.val nk1.val nk2.val nk3.val : Nat) : Int) ∧ own_rank0 nk0.val nk1.val nk2.val nk3.val < 4 := by decide +kernel
theorem d1_120 : decode prog_49_method_2_code 120 = .ok (.iinc 6 1, 3) := by decide +kernel
theorem d1_123 : decode prog_49_method_2_code 123 = .ok (.goto (-36), 3) := by decide +kernel
theorem own_g1_2 : ∀ nk0 nk1 nk2 nk3 : Fin 1, ∀ j : Fin 1, (up (own_nx1 nk0.val nk1.val nk2.val nk3.val) nk1.val (((own_nx1 nk0.val nk1.val nk2.val nk3.val) nk1.val) + (1 : Int32))) j.val = (own_nx2 nk0.val nk1.val nk2.val nk3.val) j.val := by decide +kernel
theorem own_pl1_1 : ∀ nk0 nk1 nk2 nk3 : Fin 1, (((own_pre 1 nk0.val nk1.val nk2.val nk3.val) nk1.val) + ((own_nx1 nk0.val nk1.val nk2.val nk3.val) nk1.val)).toInt = ((own_rank1 nk0.val nk1.val nk2.val nk3.val : Nat) : Int) ∧ own_rank1 nk0.val nk1.val nk2.val nk3.val < 4 := by decide +kernel
theorem own_g1_3 : ∀ nk0 nk1 nk2 nk3 : Fin 1, ∀ j : Fin 1, (up (own_nx2 nk0.val nk1.val nk2.val nk3.val) nk2.val (((own_nx2 nk0.val nk1.val nk2.val nk3.val) nk2.val) + (1 : Int32))) j.val = (own_nx3 nk0.val nk1.val nk2.val nk3.val) j.val := by decide +kernel
theorem own_pl1_2 : ∀ nk0 nk1 nk2 nk3 : Fin 1, (((own_pre 1 nk0.val nk1.val nk2.val nk3.val) nk2.val) + ((own_nx2 nk0.val nk1.val nk2.val nk3.val) nk2.val)).toInt = ((own_rank2 nk0.val nk1.val nk2.val nk3.val : Nat) : Int) ∧ own_rank2 nk0.val nk1.val nk2.val nk3.val < 4 := by decide +kernel
theorem own_g1_4 : ∀ nk0 nk1 nk2 nk3 : Fin 1, ∀ j : Fin 1, (up (own_nx3 nk0.val nk1.val nk2.val nk3.val) nk3.val (((own_nx3 nk0.val nk1.val nk2.val nk3.val) nk3.val) + (1 : Int32))) j.val = (own_nx4 nk0.val nk1.val nk2.val nk3.val) j.val := by decide +kernel
theorem own_pl1_3 : ∀ nk0 nk1 nk2 nk3 : Fin 1, (((own_pre 1 nk0.val nk1.val nk2.val nk3.val) nk3.val) + ((own_nx3 nk0.val nk1.val nk2.val nk3.val) nk3.val)).toInt = ((own_rank3 nk0.val nk1.val nk2.val nk3.val : Nat) : Int) ∧ own_rank3 nk0.val nk1.val nk2.val nk3.val < 4 := by decide +kernel
theorem d1_126 : decode prog_49_method_2_code 126 = .ok (.aload 4, 2) := by decide +kernel
theorem d1_128 : decode prog_49_method_2_code 128 = .ok (.areturn, 1) := by decide +kernel
theorem pn_0 : plainName "com/example/xml_graph_join/xmlgraphjoin/graph/CountingSort" = true := by first | (simp [plainName, overriddenIn]; done) | decide +kernel
theorem ef1k1 (m : MethodId) (oa : Addr) (ob : Addr) (oc : Addr) : entryFrame m #[(.ref oa), (.ref ob), (.int (1 : Int32)), (.ref oc)] 9 = mkF m 0 #[.val (.ref oa), .val (.ref ob), .val (.int (1 : Int32)), .val (.ref oc), .unset, .unset, .unset, .unset, .unset] [] := by first | (simp [entryFrame, mkF, argsToLocals, Value.category]; done) | rfl
def Q1k1 (Z : State) (oa : Addr) (ob : Addr) (oc : Addr) (pa : Nat → Int32) (nk0 : Nat) (nk1 : Nat) (nk2 : Nat) (nk3 : Nat) (h0 : Heap) (n0 : Nat) (v : Option Value) (h : Heap) (L : List Loc) : Prop := ∃ oz : Addr, v = some (.ref oz) ∧ Fr n0 L ∧ Keep h0 h [oc] ∧ AI Z h oz .int 2 (own_pre 1 nk0 nk1 nk2 nk3) ∧ AI Z h oc .int 4 (up (up (up (up (fun _ => (0 : Int32)) (own_rank0 nk0 nk1 nk2 nk3) (pa 0)) (own_rank1 nk0 nk1 nk2 nk3) (pa 1)) (own_rank2 nk0 nk1 nk2 nk3) (pa 2)) (own_rank3 nk0 nk1 nk2 nk3) (pa 3)) ∧ (h0.size ≤ oz)
set_option maxRecDepth 65536 in
set_option maxHeartbeats 40000000 in
theorem rm1k1 (l : Launch) (Z : State) (a0 : Array Value) (hw : ∀ d ∈ tables_1, d.before a0 Z = true) (ws : List Jvm.Cond) (oa : Addr) (ob : Addr) (oc : Addr) (pa : Nat → Int32) (nk0 : Nat) (nk1 : Nat) (nk2 : Nat) (nk3 : Nat) (h0 : Heap) (n0 : Nat) (Z0 : n0 ≤ h0.size) (A_oa : AI Z h0 oa .int 4 pa) (A_ob : AI Z h0 ob .int 4 (own_keys nk0 nk1 nk2 nk3)) (A_oc : AI Z h0 oc .int 4 (fun _ => (0 : Int32))) (ne_oa_oc : oa ≠ oc) (ne_ob_oc : ob ≠ oc) (g_oc : n0 ≤ oc) (hnk0 : nk0 < 1) (hnk1 : nk1 < 1) (hnk2 : nk2 < 1) (hnk3 : nk3 < 1) :
    MetFree l (⟨"com/example/xml_graph_join/xmlgraphjoin/graph/CountingSort", "sort", "([I[II[I)[I"⟩ : MethodName) (head1 (Jvm.Cond.code (⟨"com/example/xml_graph_join/xmlgraphjoin/graph/CountingSort", "sort", "([I[II[I)[I"⟩ : MethodName) prog_49_method_2_code 9 (some (.array .int)) :: ws) ({ frames := 0, cells := 2, slots := 9, locals := 0 } : Room)) (fun a U => a = #[(.ref oa), (.ref ob), (.int (1 : Int32)), (.ref oc)] ∧ Z.Warmed39 U.vm ∧ U.heap = h0) (fun _ _ _ _ _ => True) (fun _ U o U' => ∃ v L, o = .returned v ∧ Q1k1 Z oa ob oc pa nk0 nk1 nk2 nk3 h0 n0 v U'.heap L ∧ FrameEnd U o U' L ({ frames := 0, cells := 2, slots := 9, locals := 0 } : Room).cells ({ frames := 0, cells := 2, slots := 9, locals := 0 } : Room).slots) := by
  refine MetFree.of_bodySF (plainFor_of_name pn_0) hisR ?_
  intro p e s m args below meth c s₁ Bd hml0 hP hK
  obtain ⟨rfl, hZ, hh⟩ := hP
  have hx := Bd.exec
  have hby := Bd.bytes
  have hml : c.maxLocals = 9 := hml0
  have hown : s.vm.findClass "com/example/xml_graph_join/xmlgraphjoin/graph/CountingSort" = some m.cls := findClass_of_methodNamed Bd.named
  have hnm := (name_of_methodNamed Bd.named Bd.method).1
  have X0 : Stand p l e ({ frames := 0, cells := 2, slots := 9, locals := 0 } : Room) s m #[(.ref oa), (.ref ob), (.int (1 : Int32)), (.ref oc)] below meth c s₁ [] 0 0 := Stand.of_body Bd
  have e0 : s₁.heap = h0 := by rw [← hh, Bd.state]; rfl
  have N0 := Fr.nil n0
  refine Goes.by (fun _ k => castTop (ef1k1 m oa ob oc) k) ?_
  show Goes p.tables e below (s₁.setTop (mkF m 0 #[.val (.ref oa), .val (.ref ob), .val (.int (1 : Int32)), .val (.ref oc), .unset, .unset, .unset, .unset, .unset] [])) _
  refine Goes.by (fun _ k => XS.iloadN X0.here hx rfl (hb hby d1_0) rfl k) ?_
  show Goes p.tables e below (s₁.setTop (mkF m 1 #[.val (.ref oa), .val (.ref ob), .val (.int (1 : Int32)), .val (.ref oc), .unset, .unset, .unset, .unset, .unset] [(.int (1 : Int32))])) _
  refine Goes.by (fun _ k => XS.iconst X0.here hx rfl (hb hby d1_1) k) ?_
  show Goes p.tables e below (s₁.setTop (mkF m 2 #[.val (.ref oa), .val (.ref ob), .val (.int (1 : Int32)), .val (.ref oc), .unset, .unset, .unset, .unset, .unset] [(.int (1 : Int32)), (.int (1 : Int32))])) _
  refine Goes.by (fun _ k => XS.iadd X0.here hx rfl (hb hby d1_2) rfl k) ?_
  show Goes p.tables e below (s₁.setTop (mkF m 3 #[.val (.ref oa), .val (.ref ob), .val (.int (1 : Int32)), .val (.ref oc), .unset, .unset, .unset, .unset, .unset] [(.int (2 : Int32))])) _
  obtain ⟨T1, h1, X1, e1, E1, A1, st1⟩ := nwA (n := 2) (cap := 2) (fr := (mkF m 3 #[.val (.ref oa), .val (.ref ob), .val (.int (1 : Int32)), .val (.ref oc), .unset, .unset, .unset, .unset, .unset] [(.int (2 : Int32))])) X0 hx hZ (hw _ (List.mem_of_getElem? (i := 0) rfl)) e0 (by decide) (by decide) (by decide) (by decide) (by decide) rfl rfl (hb hby d1_3)
  obtain ⟨b1, g1⟩ : ∃ z, z = h0.size := ⟨_, rfl⟩
  rw [← g1] at A1 st1
  have g_b1 : n0 ≤ b1 := Nat.le_trans Z0 (Nat.le_of_eq g1.symm)
  have sz_b1 : h0.size ≤ b1 := Nat.le_trans (Keep.refl h0 [oc]).1 (Nat.le_of_eq g1.symm)
  have ne_oa_b1 : oa ≠ b1 := Nat.ne_of_lt (Nat.lt_of_lt_of_le A_oa.lt (Nat.le_of_eq g1.symm))
  have ne_ob_b1 : ob ≠ b1 := Nat.ne_of_lt (Nat.lt_of_lt_of_le A_ob.lt (Nat.le_of_eq g1.symm))
  have ne_oc_b1 : oc ≠ b1 := Nat.ne_of_lt (Nat.lt_of_lt_of_le A_oc.lt (Nat.le_of_eq g1.symm))
  have Zs1 : n0 ≤ h1.size := Nat.le_trans Z0 E1.1
  have K1 : Keep h0 h1 [oc] := (Keep.refl h0 [oc]).ext E1
  refine Goes.by st1 ?_
  have A_oa : AI Z h1 oa .int 4 pa := A_oa.ext E1
  have A_ob : AI Z h1 ob .int 4 (own_keys nk0 nk1 nk2 nk3) := A_ob.ext E1
  have A_oc : AI Z h1 oc .int 4 (fun _ => (0 : Int32)) := A_oc.ext E1
  have A_b1 : AI Z h1 b1 .int 2 (fun _ => (0 : Int32)) := A1
  show Goes p.tables e below (T1.setTop (mkF m 5 #[.val (.ref oa), .val (.ref ob), .val (.int (1 : Int32)), .val (.ref oc), .unset, .unset, .unset, .unset, .unset] [(.ref b1)])) _
  refine Goes.by (fun _ k => XS.astore X1.here hx rfl (hb hby d1_5) rfl rfl (l' := #[.val (.ref oa), .val (.ref ob), .val (.int (1 : Int32)), .val (.ref oc), .val (.ref b1), .unset, .unset, .unset, .unset]) rfl k) ?_
  show Goes p.tables e below (T1.setTop (mkF m 7 #[.val (.ref oa), .val (.ref ob), .val (.int (1 : Int32)), .val (.ref oc), .val (.ref b1), .unset, .unset, .unset, .unset] [])) _
  refine Goes.by (fun _ k => XS.aloadN X1.here hx rfl (hb hby d1_7) rfl rfl k) ?_
  show Goes p.tables e below (T1.setTop (mkF m 8 #[.val (.ref oa), .val (.ref ob), .val (.int (1 : Int32)), .val (.ref oc), .val (.ref b1), .unset, .unset, .unset, .unset] [(.ref ob)])) _
  refine Goes.by (fun _ k => XS.astore X1.here hx rfl (hb hby d1_8) rfl rfl (l' := #[.val (.ref oa), .val (.ref ob), .val (.int (1 : Int32)), .val (.ref oc), .val (.ref b1), .val (.ref ob), .unset, .unset, .unset]) rfl k) ?_
  show Goes p.tables e below (T1.setTop (mkF m 10 #[.val (.ref oa), .val (.ref ob), .val (.int (1 : Int32)), .val (.ref oc), .val (.ref b1), .val (.ref ob), .unset, .unset, .unset] [])) _
  refine Goes.by (fun _ k => XS.aload X1.here hx rfl (hb hby d1_10) rfl rfl k) ?_
  show Goes p.tables e below (T1.setTop (mkF m 12 #[.val (.ref oa), .val (.ref ob), .val (.int (1 : Int32)), .val (.ref oc), .val (.ref b1), .val (.ref ob), .unset, .unset, .unset] [(.ref ob)])) _
  refine Goes.by (fun _ k => alen (z := (4 : Int32)) (fr := (mkF m 12 #[.val (.ref oa), .val (.ref ob), .val (.int (1 : Int32)), .val (.ref oc), .val (.ref b1), .val (.ref ob), .unset, .unset, .unset] [(.ref ob)])) X1 hx hZ e1 A_ob (by decide) rfl rfl (hb hby d1_12) k) ?_
  show Goes p.tables e below (T1.setTop (mkF m 13 #[.val (.ref oa), .val (.ref ob), .val (.int (1 : Int32)), .val (.ref oc), .val (.ref b1), .val (.ref ob), .unset, .unset, .unset] [(.int (4 : Int32))])) _
  refine Goes.by (fun _ k => XS.istore X1.here hx rfl (hb hby d1_13) rfl (l' := #[.val (.ref oa), .val (.ref ob), .val (.int (1 : Int32)), .val (.ref oc), .val (.ref b1), .val (.ref ob), .val (.int (4 : Int32)), .unset, .unset]) rfl k) ?_
  show Goes p.tables e below (T1.setTop (mkF m 15 #[.val (.ref oa), .val (.ref ob), .val (.int (1 : Int32)), .val (.ref oc), .val (.ref b1), .val (.ref ob), .val (.int (4 : Int32)), .unset, .unset] [])) _
  refine Goes.by (fun _ k => XS.iconst X1.here hx rfl (hb hby d1_15) k) ?_
  show Goes p.tables e below (T1.setTop (mkF m 16 #[.val (.ref oa), .val (.ref ob), .val (.int (1 : Int32)), .val (.ref oc), .val (.ref b1), .val (.ref ob), .val (.int (4 : Int32)), .unset, .unset] [(.int (0 : Int32))])) _
  refine Goes.by (fun _ k => XS.istore X1.here hx rfl (hb hby d1_16) rfl (l' := #[.val (.ref oa), .val (.ref ob), .val (.int (1 : Int32)), .val (.ref oc), .val (.ref b1), .val (.ref ob), .val (.int (4 : Int32)), .val (.int (0 : Int32)), .unset]) rfl k) ?_
  show Goes p.tables e below (T1.setTop (mkF m 18 #[.val (.ref oa), .val (.ref ob), .val (.int (1 : Int32)), .val (.ref oc), .val (.ref b1), .val (.ref ob), .val (.int (4 : Int32)), .val (.int (0 : Int32)), .unset] [])) _
  refine Goes.by (fun _ k => XS.iload X1.here hx rfl (hb hby d1_18) rfl k) ?_
  show Goes p.tables e below (T1.setTop (mkF m 20 #[.val (.ref oa), .val (.ref ob), .val (.int (1 : Int32)), .val (.ref oc), .val (.ref b1), .val (.ref ob), .val (.int (4 : Int32)), .val (.int (0 : Int32)), .unset] [(.int (0 : Int32))])) _
  refine Goes.by (fun _ k => XS.iload X1.here hx rfl (hb hby d1_20) rfl k) ?_
  show Goes p.tables e below (T1.setTop (mkF m 22 #[.val (.ref oa), .val (.ref ob), .val (.int (1 : Int32)), .val (.ref oc), .val (.ref b1), .val (.ref ob), .val (.int (4 : Int32)), .val (.int (0 : Int32)), .unset] [(.int (4 : Int32)), (.int (0 : Int32))])) _
  refine Goes.by (fun _ k => XS.icmpNo X1.here hx rfl (hb hby d1_22) rfl (tlt (by decide : (0 : Int32) < (4 : Int32))).2.1 k) ?_
  show Goes p.tables e below (T1.setTop (mkF m 25 #[.val (.ref oa), .val (.ref ob), .val (.int (1 : Int32)), .val (.ref oc), .val (.ref b1), .val (.ref ob), .val (.int (4 : Int32)), .val (.int (0 : Int32)), .unset] [])) _
  refine Goes.by (fun _ k => XS.aload X1.here hx rfl (hb hby d1_25) rfl rfl k) ?_
  show Goes p.tables e below (T1.setTop (mkF m 27 #[.val (.ref oa), .val (.ref ob), .val (.int (1 : Int32)), .val (.ref oc), .val (.ref b1), .val (.ref ob), .val (.int (4 : Int32)), .val (.int (0 : Int32)), .unset] [(.ref ob)])) _
  refine Goes.by (fun _ k => XS.iload X1.here hx rfl (hb hby d1_27) rfl k) ?_
  show Goes p.tables e below (T1.setTop (mkF m 29 #[.val (.ref oa), .val (.ref ob), .val (.int (1 : Int32)), .val (.ref oc), .val (.ref b1), .val (.ref ob), .val (.int (4 : Int32)), .val (.int (0 : Int32)), .unset] [(.int (0 : Int32)), (.ref ob)])) _
  refine Goes.by (fun _ k => ldI (v := (Int32.ofNat nk0)) (fr := (mkF m 29 #[.val (.ref oa), .val (.ref ob), .val (.int (1 : Int32)), .val (.ref oc), .val (.ref b1), .val (.ref ob), .val (.int (4 : Int32)), .val (.int (0 : Int32)), .unset] [(.int (0 : Int32)), (.ref ob)])) X1 hx hZ e1 A_ob (i := 0) (by decide) (by decide) rfl rfl rfl (hb hby d1_29) k) ?_
  show Goes p.tables e below (T1.setTop (mkF m 30 #[.val (.ref oa), .val (.ref ob), .val (.int (1 : Int32)), .val (.ref oc), .val (.ref b1), .val (.ref ob), .val (.int (4 : Int32)), .val (.int (0 : Int32)), .unset] [(.int (Int32.ofNat nk0))])) _
  refine Goes.by (fun _ k => XS.istore X1.here hx rfl (hb hby d1_30) rfl (l' := #[.val (.ref oa), .val (.ref ob), .val (.int (1 : Int32)), .val (.ref oc), .val (.ref b1), .val (.ref ob), .val (.int (4 : Int32)), .val (.int (0 : Int32)), .val (.int (Int32.ofNat nk0))]) rfl k) ?_
  show Goes p.tables e below (T1.setTop (mkF m 32 #[.val (.ref oa), .val (.ref ob), .val (.int (1 : Int32)), .val (.ref oc), .val (.ref b1), .val (.ref ob), .val (.int (4 : Int32)), .val (.int (0 : Int32)), .val (.int (Int32.ofNat nk0))] [])) _
  refine Goes.by (fun _ k => XS.aload X1.here hx rfl (hb hby d1_32) rfl rfl k) ?_
  show Goes p.tables e below (T1.setTop (mkF m 34 #[.val (.ref oa), .val (.ref ob), .val (.int (1 : Int32)), .val (.ref oc), .val (.ref b1), .val (.ref ob), .val (.int (4 : Int32)), .val (.int (0 : Int32)), .val (.int (Int32.ofNat nk0))] [(.ref b1)])) _
  refine Goes.by (fun _ k => XS.iload X1.here hx rfl (hb hby d1_34) rfl k) ?_
  show Goes p.tables e below (T1.setTop (mkF m 36 #[.val (.ref oa), .val (.ref ob), .val (.int (1 : Int32)), .val (.ref oc), .val (.ref b1), .val (.ref ob), .val (.int (4 : Int32)), .val (.int (0 : Int32)), .val (.int (Int32.ofNat nk0))] [(.int (Int32.ofNat nk0)), (.ref b1)])) _
  refine Goes.by (fun _ k => XS.iconst X1.here hx rfl (hb hby d1_36) k) ?_
  show Goes p.tables e below (T1.setTop (mkF m 37 #[.val (.ref oa), .val (.ref ob), .val (.int (1 : Int32)), .val (.ref oc), .val (.ref b1), .val (.ref ob), .val (.int (4 : Int32)), .val (.int (0 : Int32)), .val (.int (Int32.ofNat nk0))] [(.int (1 : Int32)), (.int (Int32.ofNat nk0)), (.ref b1)])) _
  refine Goes.by (fun _ k => XS.iadd X1.here hx rfl (hb hby d1_37) rfl k) ?_
  show Goes p.tables e below (T1.setTop (mkF m 38 #[.val (.ref oa), .val (.ref ob), .val (.int (1 : Int32)), .val (.ref oc), .val (.ref b1), .val (.ref ob), .val (.int (4 : Int32)), .val (.int (0 : Int32)), .val (.int (Int32.ofNat nk0))] [(.int ((Int32.ofNat nk0) + (1 : Int32))), (.ref b1)])) _
  have sd2 : ∀ u, Steps p.tables e below (T1.setTop (mkF m 39 #[.val (.ref oa), .val (.ref ob), .val (.int (1 : Int32)), .val (.ref oc), .val (.ref b1), .val (.ref ob), .val (.int (4 : Int32)), .val (.int (0 : Int32)), .val (.int (Int32.ofNat nk0))] [(.int ((Int32.ofNat nk0) + (1 : Int32))), (.ref b1), (.int ((Int32.ofNat nk0) + (1 : Int32))), (.ref b1)])) u → Steps p.tables e below (T1.setTop (mkF m 38 #[.val (.ref oa), .val (.ref ob), .val (.int (1 : Int32)), .val (.ref oc), .val (.ref b1), .val (.ref ob), .val (.int (4 : Int32)), .val (.int (0 : Int32)), .val (.int (Int32.ofNat nk0))] [(.int ((Int32.ofNat nk0) + (1 : Int32))), (.ref b1)])) u := by
    intro u k
    jvm_step X1.here [X1.here.top, hx, (hb hby d1_38), Value.category]
    exact k
  refine Goes.by (fun _ k => sd2 _ k) ?_
  show Goes p.tables e below (T1.setTop (mkF m 39 #[.val (.ref oa), .val (.ref ob), .val (.int (1 : Int32)), .val (.ref oc), .val (.ref b1), .val (.ref ob), .val (.int (4 : Int32)), .val (.int (0 : Int32)), .val (.int (Int32.ofNat nk0))] [(.int ((Int32.ofNat nk0) + (1 : Int32))), (.ref b1), (.int ((Int32.ofNat nk0) + (1 : Int32))), (.ref b1)])) _
  refine Goes.by (fun _ k => ldI (v := ((fun _ => (0 : Int32)) (nk0 + 1))) (fr := (mkF m 39 #[.val (.ref oa), .val (.ref ob), .val (.int (1 : Int32)), .val (.ref oc), .val (.ref b1), .val (.ref ob), .val (.int (4 : Int32)), .val (.int (0 : Int32)), .val (.int (Int32.ofNat nk0))] [(.int ((Int32.ofNat nk0) + (1 : Int32))), (.ref b1), (.int ((Int32.ofNat nk0) + (1 : Int32))), (.ref b1)])) X1 hx hZ e1 A_b1 (i := (nk0 + 1)) (own_i1 nk0 (Nat.lt_trans hnk0 (by decide))) (Nat.succ_lt_succ hnk0) rfl rfl rfl (hb hby d1_39) k) ?_
  show Goes p.tables e below (T1.setTop (mkF m 40 #[.val (.ref oa), .val (.ref ob), .val (.int (1 : Int32)), .val (.ref oc), .val (.ref b1), .val (.ref ob), .val (.int (4 : Int32)), .val (.int (0 : Int32)), .val (.int (Int32.ofNat nk0))] [(.int ((fun _ => (0 : Int32)) (nk0 + 1))), (.int ((Int32.ofNat nk0) + (1 : Int32))), (.ref b1)])) _
  refine Goes.by (fun _ k => XS.iconst X1.here hx rfl (hb hby d1_40) k) ?_
  show Goes p.tables e below (T1.setTop (mkF m 41 #[.val (.ref oa), .val (.ref ob), .val (.int (1 : Int32)), .val (.ref oc), .val (.ref b1), .val (.ref ob), .val (.int (4 : Int32)), .val (.int (0 : Int32)), .val (.int (Int32.ofNat nk0))] [(.int (1 : Int32)), (.int ((fun _ => (0 : Int32)) (nk0 + 1))), (.int ((Int32.ofNat nk0) + (1 : Int32))), (.ref b1)])) _
  refine Goes.by (fun _ k => XS.iadd X1.here hx rfl (hb hby d1_41) rfl k) ?_
  show Goes p.tables e below (T1.setTop (mkF m 42 #[.val (.ref oa), .val (.ref ob), .val (.int (1 : Int32)), .val (.ref oc), .val (.ref b1), .val (.ref ob), .val (.int (4 : Int32)), .val (.int (0 : Int32)), .val (.int (Int32.ofNat nk0))] [(.int (((fun _ => (0 : Int32)) (nk0 + 1)) + (1 : Int32))), (.int ((Int32.ofNat nk0) + (1 : Int32))), (.ref b1)])) _
  obtain ⟨T3, h3, X3, e3, W3, A3, st3⟩ := stAI (fr := (mkF m 42 #[.val (.ref oa), .val (.ref ob), .val (.int (1 : Int32)), .val (.ref oc), .val (.ref b1), .val (.ref ob), .val (.int (4 : Int32)), .val (.int (0 : Int32)), .val (.int (Int32.ofNat nk0))] [(.int (((fun _ => (0 : Int32)) (nk0 + 1)) + (1 : Int32))), (.int ((Int32.ofNat nk0) + (1 : Int32))), (.ref b1)])) X1 hx hZ e1 A_b1 (i := (nk0 + 1)) (own_i1 nk0 (Nat.lt_trans hnk0 (by decide))) (Nat.succ_lt_succ hnk0) rfl rfl (hb hby d1_42)
  refine Goes.by st3 ?_
  have A_b1 : AI Z h3 b1 .int 2 (own_cnt1 nk0 nk1 nk2 nk3) := A3.congr (fun j hj => own_f1_1 ⟨nk0, hnk0⟩ ⟨nk1, hnk1⟩ ⟨nk2, hnk2⟩ ⟨nk3, hnk3⟩ ⟨j, hj⟩)
  have N3 := Fr.snoc X3 N0 g_b1
  have Zs3 : n0 ≤ h3.size := Nat.le_trans Zs1 (Keep.of_wr W3).1
  have K3 : Keep h0 h3 [oc] := K1.wr W3 (Or.inr sz_b1)
  have A_oa : AI Z h3 oa .int 4 pa := A_oa.other W3 ne_oa_b1
  have A_ob : AI Z h3 ob .int 4 (own_keys nk0 nk1 nk2 nk3) := A_ob.other W3 ne_ob_b1
  have A_oc : AI Z h3 oc .int 4 (fun _ => (0 : Int32)) := A_oc.other W3 ne_oc_b1
  show Goes p.tables e below (T3.setTop (mkF m 43 #[.val (.ref oa), .val (.ref ob), .val (.int (1 : Int32)), .val (.ref oc), .val (.ref b1), .val (.ref ob), .val (.int (4 : Int32)), .val (.int (0 : Int32)), .val (.int (Int32.ofNat nk0))] [])) _
  refine Goes.by (fun _ k => XS.iinc X3.here hx rfl (hb hby d1_43) rfl (l' := #[.val (.ref oa), .val (.ref ob), .val (.int (1 : Int32)), .val (.ref oc), .val (.ref b1), .val (.ref ob), .val (.int (4 : Int32)), .val (.int (1 : Int32)), .val (.int (Int32.ofNat nk0))]) rfl k) ?_
  show Goes p.tables e below (T3.setTop (mkF m 46 #[.val (.ref oa), .val (.ref ob), .val (.int (1 : Int32)), .val (.ref oc), .val (.ref b1), .val (.ref ob), .val (.int (4 : Int32)), .val (.int (1 : Int32)), .val (.int (Int32.ofNat nk0))] [])) _
  refine Goes.by (fun _ k => XS.goto X3.here hx rfl (pc0 := 46) (pc' := 18) rfl (hb hby d1_46) (by decide) (by decide) k) ?_
  show Goes p.tables e below (T3.setTop (mkF m 18 #[.val (.ref oa), .val (.ref ob), .val (.int (1 : Int32)), .val (.ref oc), .val (.ref b1), .val (.ref ob), .val (.int (4 : Int32)), .val (.int (1 : Int32)), .val (.int (Int32.ofNat nk0))] [])) _
  refine Goes.by (fun _ k => XS.iload X3.here hx rfl (hb hby d1_18) rfl k) ?_
  show Goes p.tables e below (T3.setTop (mkF m 20 #[.val (.ref oa), .val (.ref ob), .val (.int (1 : Int32)), .val (.ref oc), .val (.ref b1), .val (.ref ob), .val (.int (4 : Int32)), .val (.int (1 : Int32)), .val (.int (Int32.ofNat nk0))] [(.int (1 : Int32))])) _
  refine Goes.by (fun _ k => XS.iload X3.here hx rfl (hb hby d1_20) rfl k) ?_
  show Goes p.tables e below (T3.setTop (mkF m 22 #[.val (.ref oa), .val (.ref ob), .val (.int (1 : Int32)), .val (.ref oc), .val (.ref b1), .val (.ref ob), .val (.int (4 : Int32)), .val (.int (1 : Int32)), .val (.int (Int32.ofNat nk0))] [(.int (4 : Int32)), (.int (1 : Int32))])) _
  refine Goes.by (fun _ k => XS.icmpNo X3.here hx rfl (hb hby d1_22) rfl (tlt (by decide : (1 : Int32) < (4 : Int32))).2.1 k) ?_
  show Goes p.tables e below (T3.setTop (mkF m 25 #[.val (.ref oa), .val (.ref ob), .val (.int (1 : Int32)), .val (.ref oc), .val (.ref b1), .val (.ref ob), .val (.int (4 : Int32)), .val (.int (1 : Int32)), .val (.int (Int32.ofNat nk0))] [])) _
  refine Goes.by (fun _ k => XS.aload X3.here hx rfl (hb hby d1_25) rfl rfl k) ?_
  show Goes p.tables e below (T3.setTop (mkF m 27 #[.val (.ref oa), .val (.ref ob), .val (.int (1 : Int32)), .val (.ref oc), .val (.ref b1), .val (.ref ob), .val (.int (4 : Int32)), .val (.int (1 : Int32)), .val (.int (Int32.ofNat nk0))] [(.ref ob)])) _
  refine Goes.by (fun _ k => XS.iload X3.here hx rfl (hb hby d1_27) rfl k) ?_
  show Goes p.tables e below (T3.setTop (mkF m 29 #[.val (.ref oa), .val (.ref ob), .val (.int (1 : Int32)), .val (.ref oc), .val (.ref b1), .val (.ref ob), .val (.int (4 : Int32)), .val (.int (1 : Int32)), .val (.int (Int32.ofNat nk0))] [(.int (1 : Int32)), (.ref ob)])) _
  refine Goes.by (fun _ k => ldI (v := (Int32.ofNat nk1)) (fr := (mkF m 29 #[.val (.ref oa), .val (.ref ob), .val (.int (1 : Int32)), .val (.ref oc), .val (.ref b1), .val (.ref ob), .val (.int (4 : Int32)), .val (.int (1 : Int32)), .val (.int (Int32.ofNat nk0))] [(.int (1 : Int32)), (.ref ob)])) X3 hx hZ e3 A_ob (i := 1) (by decide) (by decide) rfl rfl rfl (hb hby d1_29) k) ?_
  show Goes p.tables e below (T3.setTop (mkF m 30 #[.val (.ref oa), .val (.ref ob), .val (.int (1 : Int32)), .val (.ref oc), .val (.ref b1), .val (.ref ob), .val (.int (4 : Int32)), .val (.int (1 : Int32)), .val (.int (Int32.ofNat nk0))] [(.int (Int32.ofNat nk1))])) _
  refine Goes.by (fun _ k => XS.istore X3.here hx rfl (hb hby d1_30) rfl (l' := #[.val (.ref oa), .val (.ref ob), .val (.int (1 : Int32)), .val (.ref oc), .val (.ref b1), .val (.ref ob), .val (.int (4 : Int32)), .val (.int (1 : Int32)), .val (.int (Int32.ofNat nk1))]) rfl k) ?_
  show Goes p.tables e below (T3.setTop (mkF m 32 #[.val (.ref oa), .val (.ref ob), .val (.int (1 : Int32)), .val (.ref oc), .val (.ref b1), .val (.ref ob), .val (.int (4 : Int32)), .val (.int (1 : Int32)), .val (.int (Int32.ofNat nk1))] [])) _
  refine Goes.by (fun _ k => XS.aload X3.here hx rfl (hb hby d1_32) rfl rfl k) ?_
  show Goes p.tables e below (T3.setTop (mkF m 34 #[.val (.ref oa), .val (.ref ob), .val (.int (1 : Int32)), .val (.ref oc), .val (.ref b1), .val (.ref ob), .val (.int (4 : Int32)), .val (.int (1 : Int32)), .val (.int (Int32.ofNat nk1))] [(.ref b1)])) _
  refine Goes.by (fun _ k => XS.iload X3.here hx rfl (hb hby d1_34) rfl k) ?_
  show Goes p.tables e below (T3.setTop (mkF m 36 #[.val (.ref oa), .val (.ref ob), .val (.int (1 : Int32)), .val (.ref oc), .val (.ref b1), .val (.ref ob), .val (.int (4 : Int32)), .val (.int (1 : Int32)), .val (.int (Int32.ofNat nk1))] [(.int (Int32.ofNat nk1)), (.ref b1)])) _
  refine Goes.by (fun _ k => XS.iconst X3.here hx rfl (hb hby d1_36) k) ?_
  show Goes p.tables e below (T3.setTop (mkF m 37 #[.val (.ref oa), .val (.ref ob), .val (.int (1 : Int32)), .val (.ref oc), .val (.ref b1), .val (.ref ob), .val (.int (4 : Int32)), .val (.int (1 : Int32)), .val (.int (Int32.ofNat nk1))] [(.int (1 : Int32)), (.int (Int32.ofNat nk1)), (.ref b1)])) _
  refine Goes.by (fun _ k => XS.iadd X3.here hx rfl (hb hby d1_37) rfl k) ?_
  show Goes p.tables e below (T3.setTop (mkF m 38 #[.val (.ref oa), .val (.ref ob), .val (.int (1 : Int32)), .val (.ref oc), .val (.ref b1), .val (.ref ob), .val (.int (4 : Int32)), .val (.int (1 : Int32)), .val (.int (Int32.ofNat nk1))] [(.int ((Int32.ofNat nk1) + (1 : Int32))), (.ref b1)])) _
  have sd4 : ∀ u, Steps p.tables e below (T3.setTop (mkF m 39 #[.val (.ref oa), .val (.ref ob), .val (.int (1 : Int32)), .val (.ref oc), .val (.ref b1), .val (.ref ob), .val (.int (4 : Int32)), .val (.int (1 : Int32)), .val (.int (Int32.ofNat nk1))] [(.int ((Int32.ofNat nk1) + (1 : Int32))), (.ref b1), (.int ((Int32.ofNat nk1) + (1 : Int32))), (.ref b1)])) u → Steps p.tables e below (T3.setTop (mkF m 38 #[.val (.ref oa), .val (.ref ob), .val (.int (1 : Int32)), .val (.ref oc), .val (.ref b1), .val (.ref ob), .val (.int (4 : Int32)), .val (.int (1 : Int32)), .val (.int (Int32.ofNat nk1))] [(.int ((Int32.ofNat nk1) + (1 : Int32))), (.ref b1)])) u := by
    intro u k
    jvm_step X3.here [X3.here.top, hx, (hb hby d1_38), Value.category]
    exact k
  refine Goes.by (fun _ k => sd4 _ k) ?_
  show Goes p.tables e below (T3.setTop (mkF m 39 #[.val (.ref oa), .val (.ref ob), .val (.int (1 : Int32)), .val (.ref oc), .val (.ref b1), .val (.ref ob), .val (.int (4 : Int32)), .val (.int (1 : Int32)), .val (.int (Int32.ofNat nk1))] [(.int ((Int32.ofNat nk1) + (1 : Int32))), (.ref b1), (.int ((Int32.ofNat nk1) + (1 : Int32))), (.ref b1)])) _
  refine Goes.by (fun _ k => ldI (v := ((own_cnt1 nk0 nk1 nk2 nk3) (nk1 + 1))) (fr := (mkF m 39 #[.val (.ref oa), .val (.ref ob), .val (.int (1 : Int32)), .val (.ref oc), .val (.ref b1), .val (.ref ob), .val (.int (4 : Int32)), .val (.int (1 : Int32)), .val (.int (Int32.ofNat nk1))] [(.int ((Int32.ofNat nk1) + (1 : Int32))), (.ref b1), (.int ((Int32.ofNat nk1) + (1 : Int32))), (.ref b1)])) X3 hx hZ e3 A_b1 (i := (nk1 + 1)) (own_i1 nk1 (Nat.lt_trans hnk1 (by decide))) (Nat.succ_lt_succ hnk1) rfl rfl rfl (hb hby d1_39) k) ?_
  show Goes p.tables e below (T3.setTop (mkF m 40 #[.val (.ref oa), .val (.ref ob), .val (.int (1 : Int32)), .val (.ref oc), .val (.ref b1), .val (.ref ob), .val (.int (4 : Int32)), .val (.int (1 : Int32)), .val (.int (Int32.ofNat nk1))] [(.int ((own_cnt1 nk0 nk1 nk2 nk3) (nk1 + 1))), (.int ((Int32.ofNat nk1) + (1 : Int32))), (.ref b1)])) _
  refine Goes.by (fun _ k => XS.iconst X3.here hx rfl (hb hby d1_40) k) ?_
  show Goes p.tables e below (T3.setTop (mkF m 41 #[.val (.ref oa), .val (.ref ob), .val (.int (1 : Int32)), .val (.ref oc), .val (.ref b1), .val (.ref ob), .val (.int (4 : Int32)), .val (.int (1 : Int32)), .val (.int (Int32.ofNat nk1))] [(.int (1 : Int32)), (.int ((own_cnt1 nk0 nk1 nk2 nk3) (nk1 + 1))), (.int ((Int32.ofNat nk1) + (1 : Int32))), (.ref b1)])) _
  refine Goes.by (fun _ k => XS.iadd X3.here hx rfl (hb hby d1_41) rfl k) ?_
  show Goes p.tables e below (T3.setTop (mkF m 42 #[.val (.ref oa), .val (.ref ob), .val (.int (1 : Int32)), .val (.ref oc), .val (.ref b1), .val (.ref ob), .val (.int (4 : Int32)), .val (.int (1 : Int32)), .val (.int (Int32.ofNat nk1))] [(.int (((own_cnt1 nk0 nk1 nk2 nk3) (nk1 + 1)) + (1 : Int32))), (.int ((Int32.ofNat nk1) + (1 : Int32))), (.ref b1)])) _
  obtain ⟨T5, h5, X5, e5, W5, A5, st5⟩ := stAI (fr := (mkF m 42 #[.val (.ref oa), .val (.ref ob), .val (.int (1 : Int32)), .val (.ref oc), .val (.ref b1), .val (.ref ob), .val (.int (4 : Int32)), .val (.int (1 : Int32)), .val (.int (Int32.ofNat nk1))] [(.int (((own_cnt1 nk0 nk1 nk2 nk3) (nk1 + 1)) + (1 : Int32))), (.int ((Int32.ofNat nk1) + (1 : Int32))), (.ref b1)])) X3 hx hZ e3 A_b1 (i := (nk1 + 1)) (own_i1 nk1 (Nat.lt_trans hnk1 (by decide))) (Nat.succ_lt_succ hnk1) rfl rfl (hb hby d1_42)
  refine Goes.by st5 ?_
  have A_b1 : AI Z h5 b1 .int 2 (own_cnt2 nk0 nk1 nk2 nk3) := A5.congr (fun j hj => own_f1_2 ⟨nk0, hnk0⟩ ⟨nk1, hnk1⟩ ⟨nk2, hnk2⟩ ⟨nk3, hnk3⟩ ⟨j, hj⟩)
  have N5 := Fr.snoc X5 N3 g_b1
  have Zs5 : n0 ≤ h5.size := Nat.le_trans Zs3 (Keep.of_wr W5).1
  have K5 : Keep h0 h5 [oc] := K3.wr W5 (Or.inr sz_b1)
  have A_oa : AI Z h5 oa .int 4 pa := A_oa.other W5 ne_oa_b1
  have A_ob : AI Z h5 ob .int 4 (own_keys nk0 nk1 nk2 nk3) := A_ob.other W5 ne_ob_b1
  have A_oc : AI Z h5 oc .int 4 (fun _ => (0 : Int32)) := A_oc.other W5 ne_oc_b1
  show Goes p.tables e below (T5.setTop (mkF m 43 #[.val (.ref oa), .val (.ref ob), .val (.int (1 : Int32)), .val (.ref oc), .val (.ref b1), .val (.ref ob), .val (.int (4 : Int32)), .val (.int (1 : Int32)), .val (.int (Int32.ofNat nk1))] [])) _
  refine Goes.by (fun _ k => XS.iinc X5.here hx rfl (hb hby d1_43) rfl (l' := #[.val (.ref oa), .val (.ref ob), .val (.int (1 : Int32)), .val (.ref oc), .val (.ref b1), .val (.ref ob), .val (.int (4 : Int32)), .val (.int (2 : Int32)), .val (.int (Int32.ofNat nk1))]) rfl k) ?_
  show Goes p.tables e below (T5.setTop (mkF m 46 #[.val (.ref oa), .val (.ref ob), .val (.int (1 : Int32)), .val (.ref oc), .val (.ref b1), .val (.ref ob), .val (.int (4 : Int32)), .val (.int (2 : Int32)), .val (.int (Int32.ofNat nk1))] [])) _
  refine Goes.by (fun _ k => XS.goto X5.here hx rfl (pc0 := 46) (pc' := 18) rfl (hb hby d1_46) (by decide) (by decide) k) ?_
  show Goes p.tables e below (T5.setTop (mkF m 18 #[.val (.ref oa), .val (.ref ob), .val (.int (1 : Int32)), .val (.ref oc), .val (.ref b1), .val (.ref ob), .val (.int (4 : Int32)), .val (.int (2 : Int32)), .val (.int (Int32.ofNat nk1))] [])) _
  refine Goes.by (fun _ k => XS.iload X5.here hx rfl (hb hby d1_18) rfl k) ?_
  show Goes p.tables e below (T5.setTop (mkF m 20 #[.val (.ref oa), .val (.ref ob), .val (.int (1 : Int32)), .val (.ref oc), .val (.ref b1), .val (.ref ob), .val (.int (4 : Int32)), .val (.int (2 : Int32)), .val (.int (Int32.ofNat nk1))] [(.int (2 : Int32))])) _
  refine Goes.by (fun _ k => XS.iload X5.here hx rfl (hb hby d1_20) rfl k) ?_
  show Goes p.tables e below (T5.setTop (mkF m 22 #[.val (.ref oa), .val (.ref ob), .val (.int (1 : Int32)), .val (.ref oc), .val (.ref b1), .val (.ref ob), .val (.int (4 : Int32)), .val (.int (2 : Int32)), .val (.int (Int32.ofNat nk1))] [(.int (4 : Int32)), (.int (2 : Int32))])) _
  refine Goes.by (fun _ k => XS.icmpNo X5.here hx rfl (hb hby d1_22) rfl (tlt (by decide : (2 : Int32) < (4 : Int32))).2.1 k) ?_
  show Goes p.tables e below (T5.setTop (mkF m 25 #[.val (.ref oa), .val (.ref ob), .val (.int (1 : Int32)), .val (.ref oc), .val (.ref b1), .val (.ref ob), .val (.int (4 : Int32)), .val (.int (2 : Int32)), .val (.int (Int32.ofNat nk1))] [])) _
  refine Goes.by (fun _ k => XS.aload X5.here hx rfl (hb hby d1_25) rfl rfl k) ?_
  show Goes p.tables e below (T5.setTop (mkF m 27 #[.val (.ref oa), .val (.ref ob), .val (.int (1 : Int32)), .val (.ref oc), .val (.ref b1), .val (.ref ob), .val (.int (4 : Int32)), .val (.int (2 : Int32)), .val (.int (Int32.ofNat nk1))] [(.ref ob)])) _
  refine Goes.by (fun _ k => XS.iload X5.here hx rfl (hb hby d1_27) rfl k) ?_
  show Goes p.tables e below (T5.setTop (mkF m 29 #[.val (.ref oa), .val (.ref ob), .val (.int (1 : Int32)), .val (.ref oc), .val (.ref b1), .val (.ref ob), .val (.int (4 : Int32)), .val (.int (2 : Int32)), .val (.int (Int32.ofNat nk1))] [(.int (2 : Int32)), (.ref ob)])) _
  refine Goes.by (fun _ k => ldI (v := (Int32.ofNat nk2)) (fr := (mkF m 29 #[.val (.ref oa), .val (.ref ob), .val (.int (1 : Int32)), .val (.ref oc), .val (.ref b1), .val (.ref ob), .val (.int (4 : Int32)), .val (.int (2 : Int32)), .val (.int (Int32.ofNat nk1))] [(.int (2 : Int32)), (.ref ob)])) X5 hx hZ e5 A_ob (i := 2) (by decide) (by decide) rfl rfl rfl (hb hby d1_29) k) ?_
  show Goes p.tables e below (T5.setTop (mkF m 30 #[.val (.ref oa), .val (.ref ob), .val (.int (1 : Int32)), .val (.ref oc), .val (.ref b1), .val (.ref ob), .val (.int (4 : Int32)), .val (.int (2 : Int32)), .val (.int (Int32.ofNat nk1))] [(.int (Int32.ofNat nk2))])) _
  refine Goes.by (fun _ k => XS.istore X5.here hx rfl (hb hby d1_30) rfl (l' := #[.val (.ref oa), .val (.ref ob), .val (.int (1 : Int32)), .val (.ref oc), .val (.ref b1), .val (.ref ob), .val (.int (4 : Int32)), .val (.int (2 : Int32)), .val (.int (Int32.ofNat nk2))]) rfl k) ?_
  show Goes p.tables e below (T5.setTop (mkF m 32 #[.val (.ref oa), .val (.ref ob), .val (.int (1 : Int32)), .val (.ref oc), .val (.ref b1), .val (.ref ob), .val (.int (4 : Int32)), .val (.int (2 : Int32)), .val (.int (Int32.ofNat nk2))] [])) _
  refine Goes.by (fun _ k => XS.aload X5.here hx rfl (hb hby d1_32) rfl rfl k) ?_
  show Goes p.tables e below (T5.setTop (mkF m 34 #[.val (.ref oa), .val (.ref ob), .val (.int (1 : Int32)), .val (.ref oc), .val (.ref b1), .val (.ref ob), .val (.int (4 : Int32)), .val (.int (2 : Int32)), .val (.int (Int32.ofNat nk2))] [(.ref b1)])) _
  refine Goes.by (fun _ k => XS.iload X5.here hx rfl (hb hby d1_34) rfl k) ?_
  show Goes p.tables e below (T5.setTop (mkF m 36 #[.val (.ref oa), .val (.ref ob), .val (.int (1 : Int32)), .val (.ref oc), .val (.ref b1), .val (.ref ob), .val (.int (4 : Int32)), .val (.int (2 : Int32)), .val (.int (Int32.ofNat nk2))] [(.int (Int32.ofNat nk2)), (.ref b1)])) _
  refine Goes.by (fun _ k => XS.iconst X5.here hx rfl (hb hby d1_36) k) ?_
  show Goes p.tables e below (T5.setTop (mkF m 37 #[.val (.ref oa), .val (.ref ob), .val (.int (1 : Int32)), .val (.ref oc), .val (.ref b1), .val (.ref ob), .val (.int (4 : Int32)), .val (.int (2 : Int32)), .val (.int (Int32.ofNat nk2))] [(.int (1 : Int32)), (.int (Int32.ofNat nk2)), (.ref b1)])) _
  refine Goes.by (fun _ k => XS.iadd X5.here hx rfl (hb hby d1_37) rfl k) ?_
  show Goes p.tables e below (T5.setTop (mkF m 38 #[.val (.ref oa), .val (.ref ob), .val (.int (1 : Int32)), .val (.ref oc), .val (.ref b1), .val (.ref ob), .val (.int (4 : Int32)), .val (.int (2 : Int32)), .val (.int (Int32.ofNat nk2))] [(.int ((Int32.ofNat nk2) + (1 : Int32))), (.ref b1)])) _
  have sd6 : ∀ u, Steps p.tables e below (T5.setTop (mkF m 39 #[.val (.ref oa), .val (.ref ob), .val (.int (1 : Int32)), .val (.ref oc), .val (.ref b1), .val (.ref ob), .val (.int (4 : Int32)), .val (.int (2 : Int32)), .val (.int (Int32.ofNat nk2))] [(.int ((Int32.ofNat nk2) + (1 : Int32))), (.ref b1), (.int ((Int32.ofNat nk2) + (1 : Int32))), (.ref b1)])) u → Steps p.tables e below (T5.setTop (mkF m 38 #[.val (.ref oa), .val (.ref ob), .val (.int (1 : Int32)), .val (.ref oc), .val (.ref b1), .val (.ref ob), .val (.int (4 : Int32)), .val (.int (2 : Int32)), .val (.int (Int32.ofNat nk2))] [(.int ((Int32.ofNat nk2) + (1 : Int32))), (.ref b1)])) u := by
    intro u k
    jvm_step X5.here [X5.here.top, hx, (hb hby d1_38), Value.category]
    exact k
  refine Goes.by (fun _ k => sd6 _ k) ?_
  show Goes p.tables e below (T5.setTop (mkF m 39 #[.val (.ref oa), .val (.ref ob), .val (.int (1 : Int32)), .val (.ref oc), .val (.ref b1), .val (.ref ob), .val (.int (4 : Int32)), .val (.int (2 : Int32)), .val (.int (Int32.ofNat nk2))] [(.int ((Int32.ofNat nk2) + (1 : Int32))), (.ref b1), (.int ((Int32.ofNat nk2) + (1 : Int32))), (.ref b1)])) _
  refine Goes.by (fun _ k => ldI (v := ((own_cnt2 nk0 nk1 nk2 nk3) (nk2 + 1))) (fr := (mkF m 39 #[.val (.ref oa), .val (.ref ob), .val (.int (1 : Int32)), .val (.ref oc), .val (.ref b1), .val (.ref ob), .val (.int (4 : Int32)), .val (.int (2 : Int32)), .val (.int (Int32.ofNat nk2))] [(.int ((Int32.ofNat nk2) + (1 : Int32))), (.ref b1), (.int ((Int32.ofNat nk2) + (1 : Int32))), (.ref b1)])) X5 hx hZ e5 A_b1 (i := (nk2 + 1)) (own_i1 nk2 (Nat.lt_trans hnk2 (by decide))) (Nat.succ_lt_succ hnk2) rfl rfl rfl (hb hby d1_39) k) ?_
  show Goes p.tables e below (T5.setTop (mkF m 40 #[.val (.ref oa), .val (.ref ob), .val (.int (1 : Int32)), .val (.ref oc), .val (.ref b1), .val (.ref ob), .val (.int (4 : Int32)), .val (.int (2 : Int32)), .val (.int (Int32.ofNat nk2))] [(.int ((own_cnt2 nk0 nk1 nk2 nk3) (nk2 + 1))), (.int ((Int32.ofNat nk2) + (1 : Int32))), (.ref b1)])) _
  refine Goes.by (fun _ k => XS.iconst X5.here hx rfl (hb hby d1_40) k) ?_
  show Goes p.tables e below (T5.setTop (mkF m 41 #[.val (.ref oa), .val (.ref ob), .val (.int (1 : Int32)), .val (.ref oc), .val (.ref b1), .val (.ref ob), .val (.int (4 : Int32)), .val (.int (2 : Int32)), .val (.int (Int32.ofNat nk2))] [(.int (1 : Int32)), (.int ((own_cnt2 nk0 nk1 nk2 nk3) (nk2 + 1))), (.int ((Int32.ofNat nk2) + (1 : Int32))), (.ref b1)])) _
  refine Goes.by (fun _ k => XS.iadd X5.here hx rfl (hb hby d1_41) rfl k) ?_
  show Goes p.tables e below (T5.setTop (mkF m 42 #[.val (.ref oa), .val (.ref ob), .val (.int (1 : Int32)), .val (.ref oc), .val (.ref b1), .val (.ref ob), .val (.int (4 : Int32)), .val (.int (2 : Int32)), .val (.int (Int32.ofNat nk2))] [(.int (((own_cnt2 nk0 nk1 nk2 nk3) (nk2 + 1)) + (1 : Int32))), (.int ((Int32.ofNat nk2) + (1 : Int32))), (.ref b1)])) _
  obtain ⟨T7, h7, X7, e7, W7, A7, st7⟩ := stAI (fr := (mkF m 42 #[.val (.ref oa), .val (.ref ob), .val (.int (1 : Int32)), .val (.ref oc), .val (.ref b1), .val (.ref ob), .val (.int (4 : Int32)), .val (.int (2 : Int32)), .val (.int (Int32.ofNat nk2))] [(.int (((own_cnt2 nk0 nk1 nk2 nk3) (nk2 + 1)) + (1 : Int32))), (.int ((Int32.ofNat nk2) + (1 : Int32))), (.ref b1)])) X5 hx hZ e5 A_b1 (i := (nk2 + 1)) (own_i1 nk2 (Nat.lt_trans hnk2 (by decide))) (Nat.succ_lt_succ hnk2) rfl rfl (hb hby d1_42)
  refine Goes.by st7 ?_
  have A_b1 : AI Z h7 b1 .int 2 (own_cnt3 nk0 nk1 nk2 nk3) := A7.congr (fun j hj => own_f1_3 ⟨nk0, hnk0⟩ ⟨nk1, hnk1⟩ ⟨nk2, hnk2⟩ ⟨nk3, hnk3⟩ ⟨j, hj⟩)
  have N7 := Fr.snoc X7 N5 g_b1
  have Zs7 : n0 ≤ h7.size := Nat.le_trans Zs5 (Keep.of_wr W7).1
  have K7 : Keep h0 h7 [oc] := K5.wr W7 (Or.inr sz_b1)
  have A_oa : AI Z h7 oa .int 4 pa := A_oa.other W7 ne_oa_b1
  have A_ob : AI Z h7 ob .int 4 (own_keys nk0 nk1 nk2 nk3) := A_ob.other W7 ne_ob_b1
  have A_oc : AI Z h7 oc .int 4 (fun _ => (0 : Int32)) := A_oc.other W7 ne_oc_b1
  show Goes p.tables e below (T7.setTop (mkF m 43 #[.val (.ref oa), .val (.ref ob), .val (.int (1 : Int32)), .val (.ref oc), .val (.ref b1), .val (.ref ob), .val (.int (4 : Int32)), .val (.int (2 : Int32)), .val (.int (Int32.ofNat nk2))] [])) _
  refine Goes.by (fun _ k => XS.iinc X7.here hx rfl (hb hby d1_43) rfl (l' := #[.val (.ref oa), .val (.ref ob), .val (.int (1 : Int32)), .val (.ref oc), .val (.ref b1), .val (.ref ob), .val (.int (4 : Int32)), .val (.int (3 : Int32)), .val (.int (Int32.ofNat nk2))]) rfl k) ?_
  show Goes p.tables e below (T7.setTop (mkF m 46 #[.val (.ref oa), .val (.ref ob), .val (.int (1 : Int32)), .val (.ref oc), .val (.ref b1), .val (.ref ob), .val (.int (4 : Int32)), .val (.int (3 : Int32)), .val (.int (Int32.ofNat nk2))] [])) _
  refine Goes.by (fun _ k => XS.goto X7.here hx rfl (pc0 := 46) (pc' := 18) rfl (hb hby d1_46) (by decide) (by decide) k) ?_
  show Goes p.tables e below (T7.setTop (mkF m 18 #[.val (.ref oa), .val (.ref ob), .val (.int (1 : Int32)), .val (.ref oc), .val (.ref b1), .val (.ref ob), .val (.int (4 : Int32)), .val (.int (3 : Int32)), .val (.int (Int32.ofNat nk2))] [])) _
  refine Goes.by (fun _ k => XS.iload X7.here hx rfl (hb hby d1_18) rfl k) ?_
  show Goes p.tables e below (T7.setTop (mkF m 20 #[.val (.ref oa), .val (.ref ob), .val (.int (1 : Int32)), .val (.ref oc), .val (.ref b1), .val (.ref ob), .val (.int (4 : Int32)), .val (.int (3 : Int32)), .val (.int (Int32.ofNat nk2))] [(.int (3 : Int32))])) _
  refine Goes.by (fun _ k => XS.iload X7.here hx rfl (hb hby d1_20) rfl k) ?_
  show Goes p.tables e below (T7.setTop (mkF m 22 #[.val (.ref oa), .val (.ref ob), .val (.int (1 : Int32)), .val (.ref oc), .val (.ref b1), .val (.ref ob), .val (.int (4 : Int32)), .val (.int (3 : Int32)), .val (.int (Int32.ofNat nk2))] [(.int (4 : Int32)), (.int (3 : Int32))])) _
  refine Goes.by (fun _ k => XS.icmpNo X7.here hx rfl (hb hby d1_22) rfl (tlt (by decide : (3 : Int32) < (4 : Int32))).2.1 k) ?_
  show Goes p.tables e below (T7.setTop (mkF m 25 #[.val (.ref oa), .val (.ref ob), .val (.int (1 : Int32)), .val (.ref oc), .val (.ref b1), .val (.ref ob), .val (.int (4 : Int32)), .val (.int (3 : Int32)), .val (.int (Int32.ofNat nk2))] [])) _
  refine Goes.by (fun _ k => XS.aload X7.here hx rfl (hb hby d1_25) rfl rfl k) ?_
  show Goes p.tables e below (T7.setTop (mkF m 27 #[.val (.ref oa), .val (.ref ob), .val (.int (1 : Int32)), .val (.ref oc), .val (.ref b1), .val (.ref ob), .val (.int (4 : Int32)), .val (.int (3 : Int32)), .val (.int (Int32.ofNat nk2))] [(.ref ob)])) _
  refine Goes.by (fun _ k => XS.iload X7.here hx rfl (hb hby d1_27) rfl k) ?_
  show Goes p.tables e below (T7.setTop (mkF m 29 #[.val (.ref oa), .val (.ref ob), .val (.int (1 : Int32)), .val (.ref oc), .val (.ref b1), .val (.ref ob), .val (.int (4 : Int32)), .val (.int (3 : Int32)), .val (.int (Int32.ofNat nk2))] [(.int (3 : Int32)), (.ref ob)])) _
  refine Goes.by (fun _ k => ldI (v := (Int32.ofNat nk3)) (fr := (mkF m 29 #[.val (.ref oa), .val (.ref ob), .val (.int (1 : Int32)), .val (.ref oc), .val (.ref b1), .val (.ref ob), .val (.int (4 : Int32)), .val (.int (3 : Int32)), .val (.int (Int32.ofNat nk2))] [(.int (3 : Int32)), (.ref ob)])) X7 hx hZ e7 A_ob (i := 3) (by decide) (by decide) rfl rfl rfl (hb hby d1_29) k) ?_
  show Goes p.tables e below (T7.setTop (mkF m 30 #[.val (.ref oa), .val (.ref ob), .val (.int (1 : Int32)), .val (.ref oc), .val (.ref b1), .val (.ref ob), .val (.int (4 : Int32)), .val (.int (3 : Int32)), .val (.int (Int32.ofNat nk2))] [(.int (Int32.ofNat nk3))])) _
  refine Goes.by (fun _ k => XS.istore X7.here hx rfl (hb hby d1_30) rfl (l' := #[.val (.ref oa), .val (.ref ob), .val (.int (1 : Int32)), .val (.ref oc), .val (.ref b1), .val (.ref ob), .val (.int (4 : Int32)), .val (.int (3 : Int32)), .val (.int (Int32.ofNat nk3))]) rfl k) ?_
  show Goes p.tables e below (T7.setTop (mkF m 32 #[.val (.ref oa), .val (.ref ob), .val (.int (1 : Int32)), .val (.ref oc), .val (.ref b1), .val (.ref ob), .val (.int (4 : Int32)), .val (.int (3 : Int32)), .val (.int (Int32.ofNat nk3))] [])) _
  refine Goes.by (fun _ k => XS.aload X7.here hx rfl (hb hby d1_32) rfl rfl k) ?_
  show Goes p.tables e below (T7.setTop (mkF m 34 #[.val (.ref oa), .val (.ref ob), .val (.int (1 : Int32)), .val (.ref oc), .val (.ref b1), .val (.ref ob), .val (.int (4 : Int32)), .val (.int (3 : Int32)), .val (.int (Int32.ofNat nk3))] [(.ref b1)])) _
  refine Goes.by (fun _ k => XS.iload X7.here hx rfl (hb hby d1_34) rfl k) ?_
  show Goes p.tables e below (T7.setTop (mkF m 36 #[.val (.ref oa), .val (.ref ob), .val (.int (1 : Int32)), .val (.ref oc), .val (.ref b1), .val (.ref ob), .val (.int (4 : Int32)), .val (.int (3 : Int32)), .val (.int (Int32.ofNat nk3))] [(.int (Int32.ofNat nk3)), (.ref b1)])) _
  refine Goes.by (fun _ k => XS.iconst X7.here hx rfl (hb hby d1_36) k) ?_
  show Goes p.tables e below (T7.setTop (mkF m 37 #[.val (.ref oa), .val (.ref ob), .val (.int (1 : Int32)), .val (.ref oc), .val (.ref b1), .val (.ref ob), .val (.int (4 : Int32)), .val (.int (3 : Int32)), .val (.int (Int32.ofNat nk3))] [(.int (1 : Int32)), (.int (Int32.ofNat nk3)), (.ref b1)])) _
  refine Goes.by (fun _ k => XS.iadd X7.here hx rfl (hb hby d1_37) rfl k) ?_
  show Goes p.tables e below (T7.setTop (mkF m 38 #[.val (.ref oa), .val (.ref ob), .val (.int (1 : Int32)), .val (.ref oc), .val (.ref b1), .val (.ref ob), .val (.int (4 : Int32)), .val (.int (3 : Int32)), .val (.int (Int32.ofNat nk3))] [(.int ((Int32.ofNat nk3) + (1 : Int32))), (.ref b1)])) _
  have sd8 : ∀ u, Steps p.tables e below (T7.setTop (mkF m 39 #[.val (.ref oa), .val (.ref ob), .val (.int (1 : Int32)), .val (.ref oc), .val (.ref b1), .val (.ref ob), .val (.int (4 : Int32)), .val (.int (3 : Int32)), .val (.int (Int32.ofNat nk3))] [(.int ((Int32.ofNat nk3) + (1 : Int32))), (.ref b1), (.int ((Int32.ofNat nk3) + (1 : Int32))), (.ref b1)])) u → Steps p.tables e below (T7.setTop (mkF m 38 #[.val (.ref oa), .val (.ref ob), .val (.int (1 : Int32)), .val (.ref oc), .val (.ref b1), .val (.ref ob), .val (.int (4 : Int32)), .val (.int (3 : Int32)), .val (.int (Int32.ofNat nk3))] [(.int ((Int32.ofNat nk3) + (1 : Int32))), (.ref b1)])) u := by
    intro u k
    jvm_step X7.here [X7.here.top, hx, (hb hby d1_38), Value.category]
    exact k
  refine Goes.by (fun _ k => sd8 _ k) ?_
  show Goes p.tables e below (T7.setTop (mkF m 39 #[.val (.ref oa), .val (.ref ob), .val (.int (1 : Int32)), .val (.ref oc), .val (.ref b1), .val (.ref ob), .val (.int (4 : Int32)), .val (.int (3 : Int32)), .val (.int (Int32.ofNat nk3))] [(.int ((Int32.ofNat nk3) + (1 : Int32))), (.ref b1), (.int ((Int32.ofNat nk3) + (1 : Int32))), (.ref b1)])) _
  refine Goes.by (fun _ k => ldI (v := ((own_cnt3 nk0 nk1 nk2 nk3) (nk3 + 1))) (fr := (mkF m 39 #[.val (.ref oa), .val (.ref ob), .val (.int (1 : Int32)), .val (.ref oc), .val (.ref b1), .val (.ref ob), .val (.int (4 : Int32)), .val (.int (3 : Int32)), .val (.int (Int32.ofNat nk3))] [(.int ((Int32.ofNat nk3) + (1 : Int32))), (.ref b1), (.int ((Int32.ofNat nk3) + (1 : Int32))), (.ref b1)])) X7 hx hZ e7 A_b1 (i := (nk3 + 1)) (own_i1 nk3 (Nat.lt_trans hnk3 (by decide))) (Nat.succ_lt_succ hnk3) rfl rfl rfl (hb hby d1_39) k) ?_
  show Goes p.tables e below (T7.setTop (mkF m 40 #[.val (.ref oa), .val (.ref ob), .val (.int (1 : Int32)), .val (.ref oc), .val (.ref b1), .val (.ref ob), .val (.int (4 : Int32)), .val (.int (3 : Int32)), .val (.int (Int32.ofNat nk3))] [(.int ((own_cnt3 nk0 nk1 nk2 nk3) (nk3 + 1))), (.int ((Int32.ofNat nk3) + (1 : Int32))), (.ref b1)])) _
  refine Goes.by (fun _ k => XS.iconst X7.here hx rfl (hb hby d1_40) k) ?_
  show Goes p.tables e below (T7.setTop (mkF m 41 #[.val (.ref oa), .val (.ref ob), .val (.int (1 : Int32)), .val (.ref oc), .val (.ref b1), .val (.ref ob), .val (.int (4 : Int32)), .val (.int (3 : Int32)), .val (.int (Int32.ofNat nk3))] [(.int (1 : Int32)), (.int ((own_cnt3 nk0 nk1 nk2 nk3) (nk3 + 1))), (.int ((Int32.ofNat nk3) + (1 : Int32))), (.ref b1)])) _
  refine Goes.by (fun _ k => XS.iadd X7.here hx rfl (hb hby d1_41) rfl k) ?_
  show Goes p.tables e below (T7.setTop (mkF m 42 #[.val (.ref oa), .val (.ref ob), .val (.int (1 : Int32)), .val (.ref oc), .val (.ref b1), .val (.ref ob), .val (.int (4 : Int32)), .val (.int (3 : Int32)), .val (.int (Int32.ofNat nk3))] [(.int (((own_cnt3 nk0 nk1 nk2 nk3) (nk3 + 1)) + (1 : Int32))), (.int ((Int32.ofNat nk3) + (1 : Int32))), (.ref b1)])) _
  obtain ⟨T9, h9, X9, e9, W9, A9, st9⟩ := stAI (fr := (mkF m 42 #[.val (.ref oa), .val (.ref ob), .val (.int (1 : Int32)), .val (.ref oc), .val (.ref b1), .val (.ref ob), .val (.int (4 : Int32)), .val (.int (3 : Int32)), .val (.int (Int32.ofNat nk3))] [(.int (((own_cnt3 nk0 nk1 nk2 nk3) (nk3 + 1)) + (1 : Int32))), (.int ((Int32.ofNat nk3) + (1 : Int32))), (.ref b1)])) X7 hx hZ e7 A_b1 (i := (nk3 + 1)) (own_i1 nk3 (Nat.lt_trans hnk3 (by decide))) (Nat.succ_lt_succ hnk3) rfl rfl (hb hby d1_42)
  refine Goes.by st9 ?_
  have A_b1 : AI Z h9 b1 .int 2 (own_cnt4 nk0 nk1 nk2 nk3) := A9.congr (fun j hj => own_f1_4 ⟨nk0, hnk0⟩ ⟨nk1, hnk1⟩ ⟨nk2, hnk2⟩ ⟨nk3, hnk3⟩ ⟨j, hj⟩)
  have N9 := Fr.snoc X9 N7 g_b1
  have Zs9 : n0 ≤ h9.size := Nat.le_trans Zs7 (Keep.of_wr W9).1
  have K9 : Keep h0 h9 [oc] := K7.wr W9 (Or.inr sz_b1)
  have A_oa : AI Z h9 oa .int 4 pa := A_oa.other W9 ne_oa_b1
  have A_ob : AI Z h9 ob .int 4 (own_keys nk0 nk1 nk2 nk3) := A_ob.other W9 ne_ob_b1
  have A_oc : AI Z h9 oc .int 4 (fun _ => (0 : Int32)) := A_oc.other W9 ne_oc_b1
  show Goes p.tables e below (T9.setTop (mkF m 43 #[.val (.ref oa), .val (.ref ob), .val (.int (1 : Int32)), .val (.ref oc), .val (.ref b1), .val (.ref ob), .val (.int (4 : Int32)), .val (.int (3 : Int32)), .val (.int (Int32.ofNat nk3))] [])) _
  refine Goes.by (fun _ k => XS.iinc X9.here hx rfl (hb hby d1_43) rfl (l' := #[.val (.ref oa), .val (.ref ob), .val (.int (1 : Int32)), .val (.ref oc), .val (.ref b1), .val (.ref ob), .val (.int (4 : Int32)), .val (.int (4 : Int32)), .val (.int (Int32.ofNat nk3))]) rfl k) ?_
  show Goes p.tables e below (T9.setTop (mkF m 46 #[.val (.ref oa), .val (.ref ob), .val (.int (1 : Int32)), .val (.ref oc), .val (.ref b1), .val (.ref ob), .val (.int (4 : Int32)), .val (.int (4 : Int32)), .val (.int (Int32.ofNat nk3))] [])) _
  refine Goes.by (fun _ k => XS.goto X9.here hx rfl (pc0 := 46) (pc' := 18) rfl (hb hby d1_46) (by decide) (by decide) k) ?_
  show Goes p.tables e below (T9.setTop (mkF m 18 #[.val (.ref oa), .val (.ref ob), .val (.int (1 : Int32)), .val (.ref oc), .val (.ref b1), .val (.ref ob), .val (.int (4 : Int32)), .val (.int (4 : Int32)), .val (.int (Int32.ofNat nk3))] [])) _
  refine Goes.by (fun _ k => XS.iload X9.here hx rfl (hb hby d1_18) rfl k) ?_
  show Goes p.tables e below (T9.setTop (mkF m 20 #[.val (.ref oa), .val (.ref ob), .val (.int (1 : Int32)), .val (.ref oc), .val (.ref b1), .val (.ref ob), .val (.int (4 : Int32)), .val (.int (4 : Int32)), .val (.int (Int32.ofNat nk3))] [(.int (4 : Int32))])) _
  refine Goes.by (fun _ k => XS.iload X9.here hx rfl (hb hby d1_20) rfl k) ?_
  show Goes p.tables e below (T9.setTop (mkF m 22 #[.val (.ref oa), .val (.ref ob), .val (.int (1 : Int32)), .val (.ref oc), .val (.ref b1), .val (.ref ob), .val (.int (4 : Int32)), .val (.int (4 : Int32)), .val (.int (Int32.ofNat nk3))] [(.int (4 : Int32)), (.int (4 : Int32))])) _
  refine Goes.by (fun _ k => XS.icmpYes X9.here hx rfl (pc0 := 22) (pc' := 49) rfl (hb hby d1_22) rfl (flt (by decide : ¬ ((4 : Int32) < (4 : Int32)))).2.1 (by decide) (by decide) k) ?_
  show Goes p.tables e below (T9.setTop (mkF m 49 #[.val (.ref oa), .val (.ref ob), .val (.int (1 : Int32)), .val (.ref oc), .val (.ref b1), .val (.ref ob), .val (.int (4 : Int32)), .val (.int (4 : Int32)), .val (.int (Int32.ofNat nk3))] [])) _
  refine Goes.by (fun _ k => XS.iconst X9.here hx rfl (hb hby d1_49) k) ?_
  show Goes p.tables e below (T9.setTop (mkF m 50 #[.val (.ref oa), .val (.ref ob), .val (.int (1 : Int32)), .val (.ref oc), .val (.ref b1), .val (.ref ob), .val (.int (4 : Int32)), .val (.int (4 : Int32)), .val (.int (Int32.ofNat nk3))] [(.int (0 : Int32))])) _
  refine Goes.by (fun _ k => XS.istore X9.here hx rfl (hb hby d1_50) rfl (l' := #[.val (.ref oa), .val (.ref ob), .val (.int (1 : Int32)), .val (.ref oc), .val (.ref b1), .val (.int (0 : Int32)), .val (.int (4 : Int32)), .val (.int (4 : Int32)), .val (.int (Int32.ofNat nk3))]) rfl k) ?_
  show Goes p.tables e below (T9.setTop (mkF m 52 #[.val (.ref oa), .val (.ref ob), .val (.int (1 : Int32)), .val (.ref oc), .val (.ref b1), .val (.int (0 : Int32)), .val (.int (4 : Int32)), .val (.int (4 : Int32)), .val (.int (Int32.ofNat nk3))] [])) _
  refine Goes.by (fun _ k => XS.iload X9.here hx rfl (hb hby d1_52) rfl k) ?_
  show Goes p.tables e below (T9.setTop (mkF m 54 #[.val (.ref oa), .val (.ref ob), .val (.int (1 : Int32)), .val (.ref oc), .val (.ref b1), .val (.int (0 : Int32)), .val (.int (4 : Int32)), .val (.int (4 : Int32)), .val (.int (Int32.ofNat nk3))] [(.int (0 : Int32))])) _
  refine Goes.by (fun _ k => XS.iloadN X9.here hx rfl (hb hby d1_54) rfl k) ?_
  show Goes p.tables e below (T9.setTop (mkF m 55 #[.val (.ref oa), .val (.ref ob), .val (.int (1 : Int32)), .val (.ref oc), .val (.ref b1), .val (.int (0 : Int32)), .val (.int (4 : Int32)), .val (.int (4 : Int32)), .val (.int (Int32.ofNat nk3))] [(.int (1 : Int32)), (.int (0 : Int32))])) _
  refine Goes.by (fun _ k => XS.icmpNo X9.here hx rfl (hb hby d1_55) rfl (tlt (by decide : (0 : Int32) < (1 : Int32))).2.1 k) ?_
  show Goes p.tables e below (T9.setTop (mkF m 58 #[.val (.ref oa), .val (.ref ob), .val (.int (1 : Int32)), .val (.ref oc), .val (.ref b1), .val (.int (0 : Int32)), .val (.int (4 : Int32)), .val (.int (4 : Int32)), .val (.int (Int32.ofNat nk3))] [])) _
  refine Goes.by (fun _ k => XS.aload X9.here hx rfl (hb hby d1_58) rfl rfl k) ?_
  show Goes p.tables e below (T9.setTop (mkF m 60 #[.val (.ref oa), .val (.ref ob), .val (.int (1 : Int32)), .val (.ref oc), .val (.ref b1), .val (.int (0 : Int32)), .val (.int (4 : Int32)), .val (.int (4 : Int32)), .val (.int (Int32.ofNat nk3))] [(.ref b1)])) _
  refine Goes.by (fun _ k => XS.iload X9.here hx rfl (hb hby d1_60) rfl k) ?_
  show Goes p.tables e below (T9.setTop (mkF m 62 #[.val (.ref oa), .val (.ref ob), .val (.int (1 : Int32)), .val (.ref oc), .val (.ref b1), .val (.int (0 : Int32)), .val (.int (4 : Int32)), .val (.int (4 : Int32)), .val (.int (Int32.ofNat nk3))] [(.int (0 : Int32)), (.ref b1)])) _
  refine Goes.by (fun _ k => XS.iconst X9.here hx rfl (hb hby d1_62) k) ?_
  show Goes p.tables e below (T9.setTop (mkF m 63 #[.val (.ref oa), .val (.ref ob), .val (.int (1 : Int32)), .val (.ref oc), .val (.ref b1), .val (.int (0 : Int32)), .val (.int (4 : Int32)), .val (.int (4 : Int32)), .val (.int (Int32.ofNat nk3))] [(.int (1 : Int32)), (.int (0 : Int32)), (.ref b1)])) _
  refine Goes.by (fun _ k => XS.iadd X9.here hx rfl (hb hby d1_63) rfl k) ?_
  show Goes p.tables e below (T9.setTop (mkF m 64 #[.val (.ref oa), .val (.ref ob), .val (.int (1 : Int32)), .val (.ref oc), .val (.ref b1), .val (.int (0 : Int32)), .val (.int (4 : Int32)), .val (.int (4 : Int32)), .val (.int (Int32.ofNat nk3))] [(.int (1 : Int32)), (.ref b1)])) _
  have sd10 : ∀ u, Steps p.tables e below (T9.setTop (mkF m 65 #[.val (.ref oa), .val (.ref ob), .val (.int (1 : Int32)), .val (.ref oc), .val (.ref b1), .val (.int (0 : Int32)), .val (.int (4 : Int32)), .val (.int (4 : Int32)), .val (.int (Int32.ofNat nk3))] [(.int (1 : Int32)), (.ref b1), (.int (1 : Int32)), (.ref b1)])) u → Steps p.tables e below (T9.setTop (mkF m 64 #[.val (.ref oa), .val (.ref ob), .val (.int (1 : Int32)), .val (.ref oc), .val (.ref b1), .val (.int (0 : Int32)), .val (.int (4 : Int32)), .val (.int (4 : Int32)), .val (.int (Int32.ofNat nk3))] [(.int (1 : Int32)), (.ref b1)])) u := by
    intro u k
    jvm_step X9.here [X9.here.top, hx, (hb hby d1_64), Value.category]
    exact k
  refine Goes.by (fun _ k => sd10 _ k) ?_
  show Goes p.tables e below (T9.setTop (mkF m 65 #[.val (.ref oa), .val (.ref ob), .val (.int (1 : Int32)), .val (.ref oc), .val (.ref b1), .val (.int (0 : Int32)), .val (.int (4 : Int32)), .val (.int (4 : Int32)), .val (.int (Int32.ofNat nk3))] [(.int (1 : Int32)), (.ref b1), (.int (1 : Int32)), (.ref b1)])) _
  refine Goes.by (fun _ k => ldI (v := ((own_cnt4 nk0 nk1 nk2 nk3) 1)) (fr := (mkF m 65 #[.val (.ref oa), .val (.ref ob), .val (.int (1 : Int32)), .val (.ref oc), .val (.ref b1), .val (.int (0 : Int32)), .val (.int (4 : Int32)), .val (.int (4 : Int32)), .val (.int (Int32.ofNat nk3))] [(.int (1 : Int32)), (.ref b1), (.int (1 : Int32)), (.ref b1)])) X9 hx hZ e9 A_b1 (i := 1) (by decide) (by decide) rfl rfl rfl (hb hby d1_65) k) ?_
  show Goes p.tables e below (T9.setTop (mkF m 66 #[.val (.ref oa), .val (.ref ob), .val (.int (1 : Int32)), .val (.ref oc), .val (.ref b1), .val (.int (0 : Int32)), .val (.int (4 : Int32)), .val (.int (4 : Int32)), .val (.int (Int32.ofNat nk3))] [(.int ((own_cnt4 nk0 nk1 nk2 nk3) 1)), (.int (1 : Int32)), (.ref b1)])) _
  refine Goes.by (fun _ k => XS.aload X9.here hx rfl (hb hby d1_66) rfl rfl k) ?_
  show Goes p.tables e below (T9.setTop (mkF m 68 #[.val (.ref oa), .val (.ref ob), .val (.int (1 : Int32)), .val (.ref oc), .val (.ref b1), .val (.int (0 : Int32)), .val (.int (4 : Int32)), .val (.int (4 : Int32)), .val (.int (Int32.ofNat nk3))] [(.ref b1), (.int ((own_cnt4 nk0 nk1 nk2 nk3) 1)), (.int (1 : Int32)), (.ref b1)])) _
  refine Goes.by (fun _ k => XS.iload X9.here hx rfl (hb hby d1_68) rfl k) ?_
  show Goes p.tables e below (T9.setTop (mkF m 70 #[.val (.ref oa), .val (.ref ob), .val (.int (1 : Int32)), .val (.ref oc), .val (.ref b1), .val (.int (0 : Int32)), .val (.int (4 : Int32)), .val (.int (4 : Int32)), .val (.int (Int32.ofNat nk3))] [(.int (0 : Int32)), (.ref b1), (.int ((own_cnt4 nk0 nk1 nk2 nk3) 1)), (.int (1 : Int32)), (.ref b1)])) _
  refine Goes.by (fun _ k => ldI (v := ((own_cnt4 nk0 nk1 nk2 nk3) 0)) (fr := (mkF m 70 #[.val (.ref oa), .val (.ref ob), .val (.int (1 : Int32)), .val (.ref oc), .val (.ref b1), .val (.int (0 : Int32)), .val (.int (4 : Int32)), .val (.int (4 : Int32)), .val (.int (Int32.ofNat nk3))] [(.int (0 : Int32)), (.ref b1), (.int ((own_cnt4 nk0 nk1 nk2 nk3) 1)), (.int (1 : Int32)), (.ref b1)])) X9 hx hZ e9 A_b1 (i := 0) (by decide) (by decide) rfl rfl rfl (hb hby d1_70) k) ?_
  show Goes p.tables e below (T9.setTop (mkF m 71 #[.val (.ref oa), .val (.ref ob), .val (.int (1 : Int32)), .val (.ref oc), .val (.ref b1), .val (.int (0 : Int32)), .val (.int (4 : Int32)), .val (.int (4 : Int32)), .val (.int (Int32.ofNat nk3))] [(.int ((own_cnt4 nk0 nk1 nk2 nk3) 0)), (.int ((own_cnt4 nk0 nk1 nk2 nk3) 1)), (.int (1 : Int32)), (.ref b1)])) _
  refine Goes.by (fun _ k => XS.iadd X9.here hx rfl (hb hby d1_71) rfl k) ?_
  show Goes p.tables e below (T9.setTop (mkF m 72 #[.val (.ref oa), .val (.ref ob), .val (.int (1 : Int32)), .val (.ref oc), .val (.ref b1), .val (.int (0 : Int32)), .val (.int (4 : Int32)), .val (.int (4 : Int32)), .val (.int (Int32.ofNat nk3))] [(.int (((own_cnt4 nk0 nk1 nk2 nk3) 1) + ((own_cnt4 nk0 nk1 nk2 nk3) 0))), (.int (1 : Int32)), (.ref b1)])) _
  obtain ⟨T11, h11, X11, e11, W11, A11, st11⟩ := stAI (fr := (mkF m 72 #[.val (.ref oa), .val (.ref ob), .val (.int (1 : Int32)), .val (.ref oc), .val (.ref b1), .val (.int (0 : Int32)), .val (.int (4 : Int32)), .val (.int (4 : Int32)), .val (.int (Int32.ofNat nk3))] [(.int (((own_cnt4 nk0 nk1 nk2 nk3) 1) + ((own_cnt4 nk0 nk1 nk2 nk3) 0))), (.int (1 : Int32)), (.ref b1)])) X9 hx hZ e9 A_b1 (i := 1) (by decide) (by decide) rfl rfl (hb hby d1_72)
  refine Goes.by st11 ?_
  have A_b1 : AI Z h11 b1 .int 2 (own_pre 1 nk0 nk1 nk2 nk3) := A11.congr (fun j hj => own_f1_5 ⟨nk0, hnk0⟩ ⟨nk1, hnk1⟩ ⟨nk2, hnk2⟩ ⟨nk3, hnk3⟩ ⟨j, hj⟩)
  have N11 := Fr.snoc X11 N9 g_b1
  have Zs11 : n0 ≤ h11.size := Nat.le_trans Zs9 (Keep.of_wr W11).1
  have K11 : Keep h0 h11 [oc] := K9.wr W11 (Or.inr sz_b1)
  have A_oa : AI Z h11 oa .int 4 pa := A_oa.other W11 ne_oa_b1
  have A_ob : AI Z h11 ob .int 4 (own_keys nk0 nk1 nk2 nk3) := A_ob.other W11 ne_ob_b1
  have A_oc : AI Z h11 oc .int 4 (fun _ => (0 : Int32)) := A_oc.other W11 ne_oc_b1
  show Goes p.tables e below (T11.setTop (mkF m 73 #[.val (.ref oa), .val (.ref ob), .val (.int (1 : Int32)), .val (.ref oc), .val (.ref b1), .val (.int (0 : Int32)), .val (.int (4 : Int32)), .val (.int (4 : Int32)), .val (.int (Int32.ofNat nk3))] [])) _
  refine Goes.by (fun _ k => XS.iinc X11.here hx rfl (hb hby d1_73) rfl (l' := #[.val (.ref oa), .val (.ref ob), .val (.int (1 : Int32)), .val (.ref oc), .val (.ref b1), .val (.int (1 : Int32)), .val (.int (4 : Int32)), .val (.int (4 : Int32)), .val (.int (Int32.ofNat nk3))]) rfl k) ?_
  show Goes p.tables e below (T11.setTop (mkF m 76 #[.val (.ref oa), .val (.ref ob), .val (.int (1 : Int32)), .val (.ref oc), .val (.ref b1), .val (.int (1 : Int32)), .val (.int (4 : Int32)), .val (.int (4 : Int32)), .val (.int (Int32.ofNat nk3))] [])) _
  refine Goes.by (fun _ k => XS.goto X11.here hx rfl (pc0 := 76) (pc' := 52) rfl (hb hby d1_76) (by decide) (by decide) k) ?_
  show Goes p.tables e below (T11.setTop (mkF m 52 #[.val (.ref oa), .val (.ref ob), .val (.int (1 : Int32)), .val (.ref oc), .val (.ref b1), .val (.int (1 : Int32)), .val (.int (4 : Int32)), .val (.int (4 : Int32)), .val (.int (Int32.ofNat nk3))] [])) _
  refine Goes.by (fun _ k => XS.iload X11.here hx rfl (hb hby d1_52) rfl k) ?_
  show Goes p.tables e below (T11.setTop (mkF m 54 #[.val (.ref oa), .val (.ref ob), .val (.int (1 : Int32)), .val (.ref oc), .val (.ref b1), .val (.int (1 : Int32)), .val (.int (4 : Int32)), .val (.int (4 : Int32)), .val (.int (Int32.ofNat nk3))] [(.int (1 : Int32))])) _
  refine Goes.by (fun _ k => XS.iloadN X11.here hx rfl (hb hby d1_54) rfl k) ?_
  show Goes p.tables e below (T11.setTop (mkF m 55 #[.val (.ref oa), .val (.ref ob), .val (.int (1 : Int32)), .val (.ref oc), .val (.ref b1), .val (.int (1 : Int32)), .val (.int (4 : Int32)), .val (.int (4 : Int32)), .val (.int (Int32.ofNat nk3))] [(.int (1 : Int32)), (.int (1 : Int32))])) _
  refine Goes.by (fun _ k => XS.icmpYes X11.here hx rfl (pc0 := 55) (pc' := 79) rfl (hb hby d1_55) rfl (flt (by decide : ¬ ((1 : Int32) < (1 : Int32)))).2.1 (by decide) (by decide) k) ?_
  show Goes p.tables e below (T11.setTop (mkF m 79 #[.val (.ref oa), .val (.ref ob), .val (.int (1 : Int32)), .val (.ref oc), .val (.ref b1), .val (.int (1 : Int32)), .val (.int (4 : Int32)), .val (.int (4 : Int32)), .val (.int (Int32.ofNat nk3))] [])) _
  refine Goes.by (fun _ k => XS.iloadN X11.here hx rfl (hb hby d1_79) rfl k) ?_
  show Goes p.tables e below (T11.setTop (mkF m 80 #[.val (.ref oa), .val (.ref ob), .val (.int (1 : Int32)), .val (.ref oc), .val (.ref b1), .val (.int (1 : Int32)), .val (.int (4 : Int32)), .val (.int (4 : Int32)), .val (.int (Int32.ofNat nk3))] [(.int (1 : Int32))])) _
  obtain ⟨T12, h12, X12, e12, E12, A12, st12⟩ := nwA (n := 1) (cap := 1) (fr := (mkF m 80 #[.val (.ref oa), .val (.ref ob), .val (.int (1 : Int32)), .val (.ref oc), .val (.ref b1), .val (.int (1 : Int32)), .val (.int (4 : Int32)), .val (.int (4 : Int32)), .val (.int (Int32.ofNat nk3))] [(.int (1 : Int32))])) X11 hx hZ (hw _ (List.mem_of_getElem? (i := 0) rfl)) e11 (by decide) (by decide) (by decide) (by decide) (by decide) rfl rfl (hb hby d1_80)
  obtain ⟨b12, g12⟩ : ∃ z, z = h11.size := ⟨_, rfl⟩
  rw [← g12] at A12 st12
  have g_b12 : n0 ≤ b12 := Nat.le_trans Zs11 (Nat.le_of_eq g12.symm)
  have sz_b12 : h0.size ≤ b12 := Nat.le_trans K11.1 (Nat.le_of_eq g12.symm)
  have ne_oa_b12 : oa ≠ b12 := Nat.ne_of_lt (Nat.lt_of_lt_of_le A_oa.lt (Nat.le_of_eq g12.symm))
  have ne_ob_b12 : ob ≠ b12 := Nat.ne_of_lt (Nat.lt_of_lt_of_le A_ob.lt (Nat.le_of_eq g12.symm))
  have ne_oc_b12 : oc ≠ b12 := Nat.ne_of_lt (Nat.lt_of_lt_of_le A_oc.lt (Nat.le_of_eq g12.symm))
  have ne_b1_b12 : b1 ≠ b12 := Nat.ne_of_lt (Nat.lt_of_lt_of_le A_b1.lt (Nat.le_of_eq g12.symm))
  have Zs12 : n0 ≤ h12.size := Nat.le_trans Zs11 E12.1
  have K12 : Keep h0 h12 [oc] := K11.ext E12
  refine Goes.by st12 ?_
  have A_oa : AI Z h12 oa .int 4 pa := A_oa.ext E12
  have A_ob : AI Z h12 ob .int 4 (own_keys nk0 nk1 nk2 nk3) := A_ob.ext E12
  have A_oc : AI Z h12 oc .int 4 (fun _ => (0 : Int32)) := A_oc.ext E12
  have A_b1 : AI Z h12 b1 .int 2 (own_pre 1 nk0 nk1 nk2 nk3) := A_b1.ext E12
  have A_b12 : AI Z h12 b12 .int 1 (fun _ => (0 : Int32)) := A12
  show Goes p.tables e below (T12.setTop (mkF m 82 #[.val (.ref oa), .val (.ref ob), .val (.int (1 : Int32)), .val (.ref oc), .val (.ref b1), .val (.int (1 : Int32)), .val (.int (4 : Int32)), .val (.int (4 : Int32)), .val (.int (Int32.ofNat nk3))] [(.ref b12)])) _
  refine Goes.by (fun _ k => XS.astore X12.here hx rfl (hb hby d1_82) rfl rfl (l' := #[.val (.ref oa), .val (.ref ob), .val (.int (1 : Int32)), .val (.ref oc), .val (.ref b1), .val (.ref b12), .val (.int (4 : Int32)), .val (.int (4 : Int32)), .val (.int (Int32.ofNat nk3))]) rfl k) ?_
  show Goes p.tables e below (T12.setTop (mkF m 84 #[.val (.ref oa), .val (.ref ob), .val (.int (1 : Int32)), .val (.ref oc), .val (.ref b1), .val (.ref b12), .val (.int (4 : Int32)), .val (.int (4 : Int32)), .val (.int (Int32.ofNat nk3))] [])) _
  refine Goes.by (fun _ k => XS.iconst X12.here hx rfl (hb hby d1_84) k) ?_
  show Goes p.tables e below (T12.setTop (mkF m 85 #[.val (.ref oa), .val (.ref ob), .val (.int (1 : Int32)), .val (.ref oc), .val (.ref b1), .val (.ref b12), .val (.int (4 : Int32)), .val (.int (4 : Int32)), .val (.int (Int32.ofNat nk3))] [(.int (0 : Int32))])) _
  refine Goes.by (fun _ k => XS.istore X12.here hx rfl (hb hby d1_85) rfl (l' := #[.val (.ref oa), .val (.ref ob), .val (.int (1 : Int32)), .val (.ref oc), .val (.ref b1), .val (.ref b12), .val (.int (0 : Int32)), .val (.int (4 : Int32)), .val (.int (Int32.ofNat nk3))]) rfl k) ?_
  show Goes p.tables e below (T12.setTop (mkF m 87 #[.val (.ref oa), .val (.ref ob), .val (.int (1 : Int32)), .val (.ref oc), .val (.ref b1), .val (.ref b12), .val (.int (0 : Int32)), .val (.int (4 : Int32)), .val (.int (Int32.ofNat nk3))] [])) _
  refine Goes.by (fun _ k => XS.iload X12.here hx rfl (hb hby d1_87) rfl k) ?_
  show Goes p.tables e below (T12.setTop (mkF m 89 #[.val (.ref oa), .val (.ref ob), .val (.int (1 : Int32)), .val (.ref oc), .val (.ref b1), .val (.ref b12), .val (.int (0 : Int32)), .val (.int (4 : Int32)), .val (.int (Int32.ofNat nk3))] [(.int (0 : Int32))])) _
  refine Goes.by (fun _ k => XS.aloadN X12.here hx rfl (hb hby d1_89) rfl rfl k) ?_
  show Goes p.tables e below (T12.setTop (mkF m 90 #[.val (.ref oa), .val (.ref ob), .val (.int (1 : Int32)), .val (.ref oc), .val (.ref b1), .val (.ref b12), .val (.int (0 : Int32)), .val (.int (4 : Int32)), .val (.int (Int32.ofNat nk3))] [(.ref oa), (.int (0 : Int32))])) _
  refine Goes.by (fun _ k => alen (z := (4 : Int32)) (fr := (mkF m 90 #[.val (.ref oa), .val (.ref ob), .val (.int (1 : Int32)), .val (.ref oc), .val (.ref b1), .val (.ref b12), .val (.int (0 : Int32)), .val (.int (4 : Int32)), .val (.int (Int32.ofNat nk3))] [(.ref oa), (.int (0 : Int32))])) X12 hx hZ e12 A_oa (by decide) rfl rfl (hb hby d1_90) k) ?_
  show Goes p.tables e below (T12.setTop (mkF m 91 #[.val (.ref oa), .val (.ref ob), .val (.int (1 : Int32)), .val (.ref oc), .val (.ref b1), .val (.ref b12), .val (.int (0 : Int32)), .val (.int (4 : Int32)), .val (.int (Int32.ofNat nk3))] [(.int (4 : Int32)), (.int (0 : Int32))])) _
  refine Goes.by (fun _ k => XS.icmpNo X12.here hx rfl (hb hby d1_91) rfl (tlt (by decide : (0 : Int32) < (4 : Int32))).2.1 k) ?_
  show Goes p.tables e below (T12.setTop (mkF m 94 #[.val (.ref oa), .val (.ref ob), .val (.int (1 : Int32)), .val (.ref oc), .val (.ref b1), .val (.ref b12), .val (.int (0 : Int32)), .val (.int (4 : Int32)), .val (.int (Int32.ofNat nk3))] [])) _
  refine Goes.by (fun _ k => XS.aloadN X12.here hx rfl (hb hby d1_94) rfl rfl k) ?_
  show Goes p.tables e below (T12.setTop (mkF m 95 #[.val (.ref oa), .val (.ref ob), .val (.int (1 : Int32)), .val (.ref oc), .val (.ref b1), .val (.ref b12), .val (.int (0 : Int32)), .val (.int (4 : Int32)), .val (.int (Int32.ofNat nk3))] [(.ref oc)])) _
  refine Goes.by (fun _ k => XS.aload X12.here hx rfl (hb hby d1_95) rfl rfl k) ?_
  show Goes p.tables e below (T12.setTop (mkF m 97 #[.val (.ref oa), .val (.ref ob), .val (.int (1 : Int32)), .val (.ref oc), .val (.ref b1), .val (.ref b12), .val (.int (0 : Int32)), .val (.int (4 : Int32)), .val (.int (Int32.ofNat nk3))] [(.ref b1), (.ref oc)])) _
  refine Goes.by (fun _ k => XS.aloadN X12.here hx rfl (hb hby d1_97) rfl rfl k) ?_
  show Goes p.tables e below (T12.setTop (mkF m 98 #[.val (.ref oa), .val (.ref ob), .val (.int (1 : Int32)), .val (.ref oc), .val (.ref b1), .val (.ref b12), .val (.int (0 : Int32)), .val (.int (4 : Int32)), .val (.int (Int32.ofNat nk3))] [(.ref ob), (.ref b1), (.ref oc)])) _
  refine Goes.by (fun _ k => XS.iload X12.here hx rfl (hb hby d1_98) rfl k) ?_
  show Goes p.tables e below (T12.setTop (mkF m 100 #[.val (.ref oa), .val (.ref ob), .val (.int (1 : Int32)), .val (.ref oc), .val (.ref b1), .val (.ref b12), .val (.int (0 : Int32)), .val (.int (4 : Int32)), .val (.int (Int32.ofNat nk3))] [(.int (0 : Int32)), (.ref ob), (.ref b1), (.ref oc)])) _
  refine Goes.by (fun _ k => ldI (v := (Int32.ofNat nk0)) (fr := (mkF m 100 #[.val (.ref oa), .val (.ref ob), .val (.int (1 : Int32)), .val (.ref oc), .val (.ref b1), .val (.ref b12), .val (.int (0 : Int32)), .val (.int (4 : Int32)), .val (.int (Int32.ofNat nk3))] [(.int (0 : Int32)), (.ref ob), (.ref b1), (.ref oc)])) X12 hx hZ e12 A_ob (i := 0) (by decide) (by decide) rfl rfl rfl (hb hby d1_100) k) ?_
  show Goes p.tables e below (T12.setTop (mkF m 101 #[.val (.ref oa), .val (.ref ob), .val (.int (1 : Int32)), .val (.ref oc), .val (.ref b1), .val (.ref b12), .val (.int (0 : Int32)), .val (.int (4 : Int32)), .val (.int (Int32.ofNat nk3))] [(.int (Int32.ofNat nk0)), (.ref b1), (.ref oc)])) _
  refine Goes.by (fun _ k => ldI (v := ((own_pre 1 nk0 nk1 nk2 nk3) nk0)) (fr := (mkF m 101 #[.val (.ref oa), .val (.ref ob), .val (.int (1 : Int32)), .val (.ref oc), .val (.ref b1), .val (.ref b12), .val (.int (0 : Int32)), .val (.int (4 : Int32)), .val (.int (Int32.ofNat nk3))] [(.int (Int32.ofNat nk0)), (.ref b1), (.ref oc)])) X12 hx hZ e12 A_b1 (i := nk0) (own_i0 nk0 (Nat.lt_trans hnk0 (by decide))) (Nat.lt_succ_of_lt hnk0) rfl rfl rfl (hb hby d1_101) k) ?_
  show Goes p.tables e below (T12.setTop (mkF m 102 #[.val (.ref oa), .val (.ref ob), .val (.int (1 : Int32)), .val (.ref oc), .val (.ref b1), .val (.ref b12), .val (.int (0 : Int32)), .val (.int (4 : Int32)), .val (.int (Int32.ofNat nk3))] [(.int ((own_pre 1 nk0 nk1 nk2 nk3) nk0)), (.ref oc)])) _
  refine Goes.by (fun _ k => XS.aload X12.here hx rfl (hb hby d1_102) rfl rfl k) ?_
  show Goes p.tables e below (T12.setTop (mkF m 104 #[.val (.ref oa), .val (.ref ob), .val (.int (1 : Int32)), .val (.ref oc), .val (.ref b1), .val (.ref b12), .val (.int (0 : Int32)), .val (.int (4 : Int32)), .val (.int (Int32.ofNat nk3))] [(.ref b12), (.int ((own_pre 1 nk0 nk1 nk2 nk3) nk0)), (.ref oc)])) _
  refine Goes.by (fun _ k => XS.aloadN X12.here hx rfl (hb hby d1_104) rfl rfl k) ?_
  show Goes p.tables e below (T12.setTop (mkF m 105 #[.val (.ref oa), .val (.ref ob), .val (.int (1 : Int32)), .val (.ref oc), .val (.ref b1), .val (.ref b12), .val (.int (0 : Int32)), .val (.int (4 : Int32)), .val (.int (Int32.ofNat nk3))] [(.ref ob), (.ref b12), (.int ((own_pre 1 nk0 nk1 nk2 nk3) nk0)), (.ref oc)])) _
  refine Goes.by (fun _ k => XS.iload X12.here hx rfl (hb hby d1_105) rfl k) ?_
  show Goes p.tables e below (T12.setTop (mkF m 107 #[.val (.ref oa), .val (.ref ob), .val (.int (1 : Int32)), .val (.ref oc), .val (.ref b1), .val (.ref b12), .val (.int (0 : Int32)), .val (.int (4 : Int32)), .val (.int (Int32.ofNat nk3))] [(.int (0 : Int32)), (.ref ob), (.ref b12), (.int ((own_pre 1 nk0 nk1 nk2 nk3) nk0)), (.ref oc)])) _
  refine Goes.by (fun _ k => ldI (v := (Int32.ofNat nk0)) (fr := (mkF m 107 #[.val (.ref oa), .val (.ref ob), .val (.int (1 : Int32)), .val (.ref oc), .val (.ref b1), .val (.ref b12), .val (.int (0 : Int32)), .val (.int (4 : Int32)), .val (.int (Int32.ofNat nk3))] [(.int (0 : Int32)), (.ref ob), (.ref b12), (.int ((own_pre 1 nk0 nk1 nk2 nk3) nk0)), (.ref oc)])) X12 hx hZ e12 A_ob (i := 0) (by decide) (by decide) rfl rfl rfl (hb hby d1_107) k) ?_
  show Goes p.tables e below (T12.setTop (mkF m 108 #[.val (.ref oa), .val (.ref ob), .val (.int (1 : Int32)), .val (.ref oc), .val (.ref b1), .val (.ref b12), .val (.int (0 : Int32)), .val (.int (4 : Int32)), .val (.int (Int32.ofNat nk3))] [(.int (Int32.ofNat nk0)), (.ref b12), (.int ((own_pre 1 nk0 nk1 nk2 nk3) nk0)), (.ref oc)])) _
  have sd13 : ∀ u, Steps p.tables e below (T12.setTop (mkF m 109 #[.val (.ref oa), .val (.ref ob), .val (.int (1 : Int32)), .val (.ref oc), .val (.ref b1), .val (.ref b12), .val (.int (0 : Int32)), .val (.int (4 : Int32)), .val (.int (Int32.ofNat nk3))] [(.int (Int32.ofNat nk0)), (.ref b12), (.int (Int32.ofNat nk0)), (.ref b12), (.int ((own_pre 1 nk0 nk1 nk2 nk3) nk0)), (.ref oc)])) u → Steps p.tables e below (T12.setTop (mkF m 108 #[.val (.ref oa), .val (.ref ob), .val (.int (1 : Int32)), .val (.ref oc), .val (.ref b1), .val (.ref b12), .val (.int (0 : Int32)), .val (.int (4 : Int32)), .val (.int (Int32.ofNat nk3))] [(.int (Int32.ofNat nk0)), (.ref b12), (.int ((own_pre 1 nk0 nk1 nk2 nk3) nk0)), (.ref oc)])) u := by
    intro u k
    jvm_step X12.here [X12.here.top, hx, (hb hby d1_108), Value.category]
    exact k
  refine Goes.by (fun _ k => sd13 _ k) ?_
  show Goes p.tables e below (T12.setTop (mkF m 109 #[.val (.ref oa), .val (.ref ob), .val (.int (1 : Int32)), .val (.ref oc), .val (.ref b1), .val (.ref b12), .val (.int (0 : Int32)), .val (.int (4 : Int32)), .val (.int (Int32.ofNat nk3))] [(.int (Int32.ofNat nk0)), (.ref b12), (.int (Int32.ofNat nk0)), (.ref b12), (.int ((own_pre 1 nk0 nk1 nk2 nk3) nk0)), (.ref oc)])) _
  refine Goes.by (fun _ k => ldI (v := ((fun _ => (0 : Int32)) nk0)) (fr := (mkF m 109 #[.val (.ref oa), .val (.ref ob), .val (.int (1 : Int32)), .val (.ref oc), .val (.ref b1), .val (.ref b12), .val (.int (0 : Int32)), .val (.int (4 : Int32)), .val (.int (Int32.ofNat nk3))] [(.int (Int32.ofNat nk0)), (.ref b12), (.int (Int32.ofNat nk0)), (.ref b12), (.int ((own_pre 1 nk0 nk1 nk2 nk3) nk0)), (.ref oc)])) X12 hx hZ e12 A_b12 (i := nk0) (own_i0 nk0 (Nat.lt_trans hnk0 (by decide))) hnk0 rfl rfl rfl (hb hby d1_109) k) ?_
  show Goes p.tables e below (T12.setTop (mkF m 110 #[.val (.ref oa), .val (.ref ob), .val (.int (1 : Int32)), .val (.ref oc), .val (.ref b1), .val (.ref b12), .val (.int (0 : Int32)), .val (.int (4 : Int32)), .val (.int (Int32.ofNat nk3))] [(.int ((fun _ => (0 : Int32)) nk0)), (.int (Int32.ofNat nk0)), (.ref b12), (.int ((own_pre 1 nk0 nk1 nk2 nk3) nk0)), (.ref oc)])) _
  have sd14 : ∀ u, Steps p.tables e below (T12.setTop (mkF m 111 #[.val (.ref oa), .val (.ref ob), .val (.int (1 : Int32)), .val (.ref oc), .val (.ref b1), .val (.ref b12), .val (.int (0 : Int32)), .val (.int (4 : Int32)), .val (.int (Int32.ofNat nk3))] [(.int ((fun _ => (0 : Int32)) nk0)), (.int (Int32.ofNat nk0)), (.ref b12), (.int ((fun _ => (0 : Int32)) nk0)), (.int ((own_pre 1 nk0 nk1 nk2 nk3) nk0)), (.ref oc)])) u → Steps p.tables e below (T12.setTop (mkF m 110 #[.val (.ref oa), .val (.ref ob), .val (.int (1 : Int32)), .val (.ref oc), .val (.ref b1), .val (.ref b12), .val (.int (0 : Int32)), .val (.int (4 : Int32)), .val (.int (Int32.ofNat nk3))] [(.int ((fun _ => (0 : Int32)) nk0)), (.int (Int32.ofNat nk0)), (.ref b12), (.int ((own_pre 1 nk0 nk1 nk2 nk3) nk0)), (.ref oc)])) u := by
    intro u k
    jvm_step X12.here [X12.here.top, hx, (hb hby d1_110), Value.category]
    exact k
  refine Goes.by (fun _ k => sd14 _ k) ?_
  show Goes p.tables e below (T12.setTop (mkF m 111 #[.val (.ref oa), .val (.ref ob), .val (.int (1 : Int32)), .val (.ref oc), .val (.ref b1), .val (.ref b12), .val (.int (0 : Int32)), .val (.int (4 : Int32)), .val (.int (Int32.ofNat nk3))] [(.int ((fun _ => (0 : Int32)) nk0)), (.int (Int32.ofNat nk0)), (.ref b12), (.int ((fun _ => (0 : Int32)) nk0)), (.int ((own_pre 1 nk0 nk1 nk2 nk3) nk0)), (.ref oc)])) _
  refine Goes.by (fun _ k => XS.iconst X12.here hx rfl (hb hby d1_111) k) ?_
  show Goes p.tables e below (T12.setTop (mkF m 112 #[.val (.ref oa), .val (.ref ob), .val (.int (1 : Int32)), .val (.ref oc), .val (.ref b1), .val (.ref b12), .val (.int (0 : Int32)), .val (.int (4 : Int32)), .val (.int (Int32.ofNat nk3))] [(.int (1 : Int32)), (.int ((fun _ => (0 : Int32)) nk0)), (.int (Int32.ofNat nk0)), (.ref b12), (.int ((fun _ => (0 : Int32)) nk0)), (.int ((own_pre 1 nk0 nk1 nk2 nk3) nk0)), (.ref oc)])) _
  refine Goes.by (fun _ k => XS.iadd X12.here hx rfl (hb hby d1_112) rfl k) ?_
  show Goes p.tables e below (T12.setTop (mkF m 113 #[.val (.ref oa), .val (.ref ob), .val (.int (1 : Int32)), .val (.ref oc), .val (.ref b1), .val (.ref b12), .val (.int (0 : Int32)), .val (.int (4 : Int32)), .val (.int (Int32.ofNat nk3))] [(.int (((fun _ => (0 : Int32)) nk0) + (1 : Int32))), (.int (Int32.ofNat nk0)), (.ref b12), (.int ((fun _ => (0 : Int32)) nk0)), (.int ((own_pre 1 nk0 nk1 nk2 nk3) nk0)), (.ref oc)])) _
  obtain ⟨T15, h15, X15, e15, W15, A15, st15⟩ := stAI (fr := (mkF m 113 #[.val (.ref oa), .val (.ref ob), .val (.int (1 : Int32)), .val (.ref oc), .val (.ref b1), .val (.ref b12), .val (.int (0 : Int32)), .val (.int (4 : Int32)), .val (.int (Int32.ofNat nk3))] [(.int (((fun _ => (0 : Int32)) nk0) + (1 : Int32))), (.int (Int32.ofNat nk0)), (.ref b12), (.int ((fun _ => (0 : Int32)) nk0)), (.int ((own_pre 1 nk0 nk1 nk2 nk3) nk0)), (.ref oc)])) X12 hx hZ e12 A_b12 (i := nk0) (own_i0 nk0 (Nat.lt_trans hnk0 (by decide))) hnk0 rfl rfl (hb hby d1_113)
  refine Goes.by st15 ?_
  have A_b12 : AI Z h15 b12 .int 1 (own_nx1 nk0 nk1 nk2 nk3) := A15.congr (fun j hj => own_g1_1 ⟨nk0, hnk0⟩ ⟨nk1, hnk1⟩ ⟨nk2, hnk2⟩ ⟨nk3, hnk3⟩ ⟨j, hj⟩)
  have N15 := Fr.snoc X15 N11 g_b12
  have Zs15 : n0 ≤ h15.size := Nat.le_trans Zs12 (Keep.of_wr W15).1
  have K15 : Keep h0 h15 [oc] := K12.wr W15 (Or.inr sz_b12)
  have A_oa : AI Z h15 oa .int 4 pa := A_oa.other W15 ne_oa_b12
  have A_ob : AI Z h15 ob .int 4 (own_keys nk0 nk1 nk2 nk3) := A_ob.other W15 ne_ob_b12
  have A_oc : AI Z h15 oc .int 4 (fun _ => (0 : Int32)) := A_oc.other W15 ne_oc_b12
  have A_b1 : AI Z h15 b1 .int 2 (own_pre 1 nk0 nk1 nk2 nk3) := A_b1.other W15 ne_b1_b12
  show Goes p.tables e below (T15.setTop (mkF m 114 #[.val (.ref oa), .val (.ref ob), .val (.int (1 : Int32)), .val (.ref oc), .val (.ref b1), .val (.ref b12), .val (.int (0 : Int32)), .val (.int (4 : Int32)), .val (.int (Int32.ofNat nk3))] [(.int ((fun _ => (0 : Int32)) nk0)), (.int ((own_pre 1 nk0 nk1 nk2 nk3) nk0)), (.ref oc)])) _
  refine Goes.by (fun _ k => XS.iadd X15.here hx rfl (hb hby d1_114) rfl k) ?_
  show Goes p.tables e below (T15.setTop (mkF m 115 #[.val (.ref oa), .val (.ref ob), .val (.int (1 : Int32)), .val (.ref oc), .val (.ref b1), .val (.ref b12), .val (.int (0 : Int32)), .val (.int (4 : Int32)), .val (.int (Int32.ofNat nk3))] [(.int (((own_pre 1 nk0 nk1 nk2 nk3) nk0) + ((fun _ => (0 : Int32)) nk0))), (.ref oc)])) _
  refine Goes.by (fun _ k => XS.aloadN X15.here hx rfl (hb hby d1_115) rfl rfl k) ?_
  show Goes p.tables e below (T15.setTop (mkF m 116 #[.val (.ref oa), .val (.ref ob), .val (.int (1 : Int32)), .val (.ref oc), .val (.ref b1), .val (.ref b12), .val (.int (0 : Int32)), .val (.int (4 : Int32)), .val (.int (Int32.ofNat nk3))] [(.ref oa), (.int (((own_pre 1 nk0 nk1 nk2 nk3) nk0) + ((fun _ => (0 : Int32)) nk0))), (.ref oc)])) _
  refine Goes.by (fun _ k => XS.iload X15.here hx rfl (hb hby d1_116) rfl k) ?_
  show Goes p.tables e below (T15.setTop (mkF m 118 #[.val (.ref oa), .val (.ref ob), .val (.int (1 : Int32)), .val (.ref oc), .val (.ref b1), .val (.ref b12), .val (.int (0 : Int32)), .val (.int (4 : Int32)), .val (.int (Int32.ofNat nk3))] [(.int (0 : Int32)), (.ref oa), (.int (((own_pre 1 nk0 nk1 nk2 nk3) nk0) + ((fun _ => (0 : Int32)) nk0))), (.ref oc)])) _
  refine Goes.by (fun _ k => ldI (v := (pa 0)) (fr := (mkF m 118 #[.val (.ref oa), .val (.ref ob), .val (.int (1 : Int32)), .val (.ref oc), .val (.ref b1), .val (.ref b12), .val (.int (0 : Int32)), .val (.int (4 : Int32)), .val (.int (Int32.ofNat nk3))] [(.int (0 : Int32)), (.ref oa), (.int (((own_pre 1 nk0 nk1 nk2 nk3) nk0) + ((fun _ => (0 : Int32)) nk0))), (.ref oc)])) X15 hx hZ e15 A_oa (i := 0) (by decide) (by decide) rfl rfl rfl (hb hby d1_118) k) ?_
  show Goes p.tables e below (T15.setTop (mkF m 119 #[.val (.ref oa), .val (.ref ob), .val (.int (1 : Int32)), .val (.ref oc), .val (.ref b1), .val (.ref b12), .val (.int (0 : Int32)), .val (.int (4 : Int32)), .val (.int (Int32.ofNat nk3))] [(.int (pa 0)), (.int (((own_pre 1 nk0 nk1 nk2 nk3) nk0) + ((fun _ => (0 : Int32)) nk0))), (.ref oc)])) _
  obtain ⟨T16, h16, X16, e16, W16, A16, st16⟩ := stAI (fr := (mkF m 119 #[.val (.ref oa), .val (.ref ob), .val (.int (1 : Int32)), .val (.ref oc), .val (.ref b1), .val (.ref b12), .val (.int (0 : Int32)), .val (.int (4 : Int32)), .val (.int (Int32.ofNat nk3))] [(.int (pa 0)), (.int (((own_pre 1 nk0 nk1 nk2 nk3) nk0) + ((fun _ => (0 : Int32)) nk0))), (.ref oc)])) X15 hx hZ e15 A_oc (i := (own_rank0 nk0 nk1 nk2 nk3)) (own_pl1_0 ⟨nk0, hnk0⟩ ⟨nk1, hnk1⟩ ⟨nk2, hnk2⟩ ⟨nk3, hnk3⟩).1 (own_pl1_0 ⟨nk0, hnk0⟩ ⟨nk1, hnk1⟩ ⟨nk2, hnk2⟩ ⟨nk3, hnk3⟩).2 rfl rfl (hb hby d1_119)
  refine Goes.by st16 ?_
  have A_oc : AI Z h16 oc .int 4 (up (fun _ => (0 : Int32)) (own_rank0 nk0 nk1 nk2 nk3) (pa 0)) := A16
  have N16 := Fr.snoc X16 N15 g_oc
  have Zs16 : n0 ≤ h16.size := Nat.le_trans Zs15 (Keep.of_wr W16).1
  have K16 : Keep h0 h16 [oc] := K15.wr W16 (Or.inl (List.mem_of_getElem? (i := 0) rfl))
  have A_oa : AI Z h16 oa .int 4 pa := A_oa.other W16 ne_oa_oc
  have A_ob : AI Z h16 ob .int 4 (own_keys nk0 nk1 nk2 nk3) := A_ob.other W16 ne_ob_oc
  have A_b1 : AI Z h16 b1 .int 2 (own_pre 1 nk0 nk1 nk2 nk3) := A_b1.other W16 (Ne.symm ne_oc_b1)
  have A_b12 : AI Z h16 b12 .int 1 (own_nx1 nk0 nk1 nk2 nk3) := A_b12.other W16 (Ne.symm ne_oc_b12)
  show Goes p.tables e below (T16.setTop (mkF m 120 #[.val (.ref oa), .val (.ref ob), .val (.int (1 : Int32)), .val (.ref oc), .val (.ref b1), .val (.ref b12), .val (.int (0 : Int32)), .val (.int (4 : Int32)), .val (.int (Int32.ofNat nk3))] [])) _
  refine Goes.by (fun _ k => XS.iinc X16.here hx rfl (hb hby d1_120) rfl (l' := #[.val (.ref oa), .val (.ref ob), .val (.int (1 : Int32)), .val (.ref oc), .val (.ref b1), .val (.ref b12), .val (.int (1 : Int32)), .val (.int (4 : Int32)), .val (.int (Int32.ofNat nk3))]) rfl k) ?_
  show Goes p.tables e below (T16.setTop (mkF m 123 #[.val (.ref oa), .val (.ref ob), .val (.int (1 : Int32)), .val (.ref oc), .val (.ref b1), .val (.ref b12), .val (.int (1 : Int32)), .val (.int (4 : Int32)), .val (.int (Int32.ofNat nk3))] [])) _
  refine Goes.by (fun _ k => XS.goto X16.here hx rfl (pc0 := 123) (pc' := 87) rfl (hb hby d1_123) (by decide) (by decide) k) ?_
  show Goes p.tables e below (T16.setTop (mkF m 87 #[.val (.ref oa), .val (.ref ob), .val (.int (1 : Int32)), .val (.ref oc), .val (.ref b1), .val (.ref b12), .val (.int (1 : Int32)), .val (.int (4 : Int32)), .val (.int (Int32.ofNat nk3))] [])) _
  refine Goes.by (fun _ k => XS.iload X16.here hx rfl (hb hby d1_87) rfl k) ?_
  show Goes p.tables e below (T16.setTop (mkF m 89 #[.val (.ref oa), .val (.ref ob), .val (.int (1 : Int32)), .val (.ref oc), .val (.ref b1), .val (.ref b12), .val (.int (1 : Int32)), .val (.int (4 : Int32)), .val (.int (Int32.ofNat nk3))] [(.int (1 : Int32))])) _
  refine Goes.by (fun _ k => XS.aloadN X16.here hx rfl (hb hby d1_89) rfl rfl k) ?_
  show Goes p.tables e below (T16.setTop (mkF m 90 #[.val (.ref oa), .val (.ref ob), .val (.int (1 : Int32)), .val (.ref oc), .val (.ref b1), .val (.ref b12), .val (.int (1 : Int32)), .val (.int (4 : Int32)), .val (.int (Int32.ofNat nk3))] [(.ref oa), (.int (1 : Int32))])) _
  refine Goes.by (fun _ k => alen (z := (4 : Int32)) (fr := (mkF m 90 #[.val (.ref oa), .val (.ref ob), .val (.int (1 : Int32)), .val (.ref oc), .val (.ref b1), .val (.ref b12), .val (.int (1 : Int32)), .val (.int (4 : Int32)), .val (.int (Int32.ofNat nk3))] [(.ref oa), (.int (1 : Int32))])) X16 hx hZ e16 A_oa (by decide) rfl rfl (hb hby d1_90) k) ?_
  show Goes p.tables e below (T16.setTop (mkF m 91 #[.val (.ref oa), .val (.ref ob), .val (.int (1 : Int32)), .val (.ref oc), .val (.ref b1), .val (.ref b12), .val (.int (1 : Int32)), .val (.int (4 : Int32)), .val (.int (Int32.ofNat nk3))] [(.int (4 : Int32)), (.int (1 : Int32))])) _
  refine Goes.by (fun _ k => XS.icmpNo X16.here hx rfl (hb hby d1_91) rfl (tlt (by decide : (1 : Int32) < (4 : Int32))).2.1 k) ?_
  show Goes p.tables e below (T16.setTop (mkF m 94 #[.val (.ref oa), .val (.ref ob), .val (.int (1 : Int32)), .val (.ref oc), .val (.ref b1), .val (.ref b12), .val (.int (1 : Int32)), .val (.int (4 : Int32)), .val (.int (Int32.ofNat nk3))] [])) _
  refine Goes.by (fun _ k => XS.aloadN X16.here hx rfl (hb hby d1_94) rfl rfl k) ?_
  show Goes p.tables e below (T16.setTop (mkF m 95 #[.val (.ref oa), .val (.ref ob), .val (.int (1 : Int32)), .val (.ref oc), .val (.ref b1), .val (.ref b12), .val (.int (1 : Int32)), .val (.int (4 : Int32)), .val (.int (Int32.ofNat nk3))] [(.ref oc)])) _
  refine Goes.by (fun _ k => XS.aload X16.here hx rfl (hb hby d1_95) rfl rfl k) ?_
  show Goes p.tables e below (T16.setTop (mkF m 97 #[.val (.ref oa), .val (.ref ob), .val (.int (1 : Int32)), .val (.ref oc), .val (.ref b1), .val (.ref b12), .val (.int (1 : Int32)), .val (.int (4 : Int32)), .val (.int (Int32.ofNat nk3))] [(.ref b1), (.ref oc)])) _
  refine Goes.by (fun _ k => XS.aloadN X16.here hx rfl (hb hby d1_97) rfl rfl k) ?_
  show Goes p.tables e below (T16.setTop (mkF m 98 #[.val (.ref oa), .val (.ref ob), .val (.int (1 : Int32)), .val (.ref oc), .val (.ref b1), .val (.ref b12), .val (.int (1 : Int32)), .val (.int (4 : Int32)), .val (.int (Int32.ofNat nk3))] [(.ref ob), (.ref b1), (.ref oc)])) _
  refine Goes.by (fun _ k => XS.iload X16.here hx rfl (hb hby d1_98) rfl k) ?_
  show Goes p.tables e below (T16.setTop (mkF m 100 #[.val (.ref oa), .val (.ref ob), .val (.int (1 : Int32)), .val (.ref oc), .val (.ref b1), .val (.ref b12), .val (.int (1 : Int32)), .val (.int (4 : Int32)), .val (.int (Int32.ofNat nk3))] [(.int (1 : Int32)), (.ref ob), (.ref b1), (.ref oc)])) _
  refine Goes.by (fun _ k => ldI (v := (Int32.ofNat nk1)) (fr := (mkF m 100 #[.val (.ref oa), .val (.ref ob), .val (.int (1 : Int32)), .val (.ref oc), .val (.ref b1), .val (.ref b12), .val (.int (1 : Int32)), .val (.int (4 : Int32)), .val (.int (Int32.ofNat nk3))] [(.int (1 : Int32)), (.ref ob), (.ref b1), (.ref oc)])) X16 hx hZ e16 A_ob (i := 1) (by decide) (by decide) rfl rfl rfl (hb hby d1_100) k) ?_
  show Goes p.tables e below (T16.setTop (mkF m 101 #[.val (.ref oa), .val (.ref ob), .val (.int (1 : Int32)), .val (.ref oc), .val (.ref b1), .val (.ref b12), .val (.int (1 : Int32)), .val (.int (4 : Int32)), .val (.int (Int32.ofNat nk3))] [(.int (Int32.ofNat nk1)), (.ref b1), (.ref oc)])) _
  refine Goes.by (fun _ k => ldI (v := ((own_pre 1 nk0 nk1 nk2 nk3) nk1)) (fr := (mkF m 101 #[.val (.ref oa), .val (.ref ob), .val (.int (1 : Int32)), .val (.ref oc), .val (.ref b1), .val (.ref b12), .val (.int (1 : Int32)), .val (.int (4 : Int32)), .val (.int (Int32.ofNat nk3))] [(.int (Int32.ofNat nk1)), (.ref b1), (.ref oc)])) X16 hx hZ e16 A_b1 (i := nk1) (own_i0 nk1 (Nat.lt_trans hnk1 (by decide))) (Nat.lt_succ_of_lt hnk1) rfl rfl rfl (hb hby d1_101) k) ?_
  show Goes p.tables e below (T16.setTop (mkF m 102 #[.val (.ref oa), .val (.ref ob), .val (.int (1 : Int32)), .val (.ref oc), .val (.ref b1), .val (.ref b12), .val (.int (1 : Int32)), .val (.int (4 : Int32)), .val (.int (Int32.ofNat nk3))] [(.int ((own_pre 1 nk0 nk1 nk2 nk3) nk1)), (.ref oc)])) _
  refine Goes.by (fun _ k => XS.aload X16.here hx rfl (hb hby d1_102) rfl rfl k) ?_
  show Goes p.tables e below (T16.setTop (mkF m 104 #[.val (.ref oa), .val (.ref ob), .val (.int (1 : Int32)), .val (.ref oc), .val (.ref b1), .val (.ref b12), .val (.int (1 : Int32)), .val (.int (4 : Int32)), .val (.int (Int32.ofNat nk3))] [(.ref b12), (.int ((own_pre 1 nk0 nk1 nk2 nk3) nk1)), (.ref oc)])) _
  refine Goes.by (fun _ k => XS.aloadN X16.here hx rfl (hb hby d1_104) rfl rfl k) ?_
  show Goes p.tables e below (T16.setTop (mkF m 105 #[.val (.ref oa), .val (.ref ob), .val (.int (1 : Int32)), .val (.ref oc), .val (.ref b1), .val (.ref b12), .val (.int (1 : Int32)), .val (.int (4 : Int32)), .val (.int (Int32.ofNat nk3))] [(.ref ob), (.ref b12), (.int ((own_pre 1 nk0 nk1 nk2 nk3) nk1)), (.ref oc)])) _
  refine Goes.by (fun _ k => XS.iload X16.here hx rfl (hb hby d1_105) rfl k) ?_
  show Goes p.tables e below (T16.setTop (mkF m 107 #[.val (.ref oa), .val (.ref ob), .val (.int (1 : Int32)), .val (.ref oc), .val (.ref b1), .val (.ref b12), .val (.int (1 : Int32)), .val (.int (4 : Int32)), .val (.int (Int32.ofNat nk3))] [(.int (1 : Int32)), (.ref ob), (.ref b12), (.int ((own_pre 1 nk0 nk1 nk2 nk3) nk1)), (.ref oc)])) _
  refine Goes.by (fun _ k => ldI (v := (Int32.ofNat nk1)) (fr := (mkF m 107 #[.val (.ref oa), .val (.ref ob), .val (.int (1 : Int32)), .val (.ref oc), .val (.ref b1), .val (.ref b12), .val (.int (1 : Int32)), .val (.int (4 : Int32)), .val (.int (Int32.ofNat nk3))] [(.int (1 : Int32)), (.ref ob), (.ref b12), (.int ((own_pre 1 nk0 nk1 nk2 nk3) nk1)), (.ref oc)])) X16 hx hZ e16 A_ob (i := 1) (by decide) (by decide) rfl rfl rfl (hb hby d1_107) k) ?_
  show Goes p.tables e below (T16.setTop (mkF m 108 #[.val (.ref oa), .val (.ref ob), .val (.int (1 : Int32)), .val (.ref oc), .val (.ref b1), .val (.ref b12), .val (.int (1 : Int32)), .val (.int (4 : Int32)), .val (.int (Int32.ofNat nk3))] [(.int (Int32.ofNat nk1)), (.ref b12), (.int ((own_pre 1 nk0 nk1 nk2 nk3) nk1)), (.ref oc)])) _
  have sd17 : ∀ u, Steps p.tables e below (T16.setTop (mkF m 109 #[.val (.ref oa), .val (.ref ob), .val (.int (1 : Int32)), .val (.ref oc), .val (.ref b1), .val (.ref b12), .val (.int (1 : Int32)), .val (.int (4 : Int32)), .val (.int (Int32.ofNat nk3))] [(.int (Int32.ofNat nk1)), (.ref b12), (.int (Int32.ofNat nk1)), (.ref b12), (.int ((own_pre 1 nk0 nk1 nk2 nk3) nk1)), (.ref oc)])) u → Steps p.tables e below (T16.setTop (mkF m 108 #[.val (.ref oa), .val (.ref ob), .val (.int (1 : Int32)), .val (.ref oc), .val (.ref b1), .val (.ref b12), .val (.int (1 : Int32)), .val (.int (4 : Int32)), .val (.int (Int32.ofNat nk3))] [(.int (Int32.ofNat nk1)), (.ref b12), (.int ((own_pre 1 nk0 nk1 nk2 nk3) nk1)), (.ref oc)])) u := by
    intro u k
    jvm_step X16.here [X16.here.top, hx, (hb hby d1_108), Value.category]
    exact k
  refine Goes.by (fun _ k => sd17 _ k) ?_
  show Goes p.tables e below (T16.setTop (mkF m 109 #[.val (.ref oa), .val (.ref ob), .val (.int (1 : Int32)), .val (.ref oc), .val (.ref b1), .val (.ref b12), .val (.int (1 : Int32)), .val (.int (4 : Int32)), .val (.int (Int32.ofNat nk3))] [(.int (Int32.ofNat nk1)), (.ref b12), (.int (Int32.ofNat nk1)), (.ref b12), (.int ((own_pre 1 nk0 nk1 nk2 nk3) nk1)), (.ref oc)])) _
  refine Goes.by (fun _ k => ldI (v := ((own_nx1 nk0 nk1 nk2 nk3) nk1)) (fr := (mkF m 109 #[.val (.ref oa), .val (.ref ob), .val (.int (1 : Int32)), .val (.ref oc), .val (.ref b1), .val (.ref b12), .val (.int (1 : Int32)), .val (.int (4 : Int32)), .val (.int (Int32.ofNat nk3))] [(.int (Int32.ofNat nk1)), (.ref b12), (.int (Int32.ofNat nk1)), (.ref b12), (.int ((own_pre 1 nk0 nk1 nk2 nk3) nk1)), (.ref oc)])) X16 hx hZ e16 A_b12 (i := nk1) (own_i0 nk1 (Nat.lt_trans hnk1 (by decide))) hnk1 rfl rfl rfl (hb hby d1_109) k) ?_
  show Goes p.tables e below (T16.setTop (mkF m 110 #[.val (.ref oa), .val (.ref ob), .val (.int (1 : Int32)), .val (.ref oc), .val (.ref b1), .val (.ref b12), .val (.int (1 : Int32)), .val (.int (4 : Int32)), .val (.int (Int32.ofNat nk3))] [(.int ((own_nx1 nk0 nk1 nk2 nk3) nk1)), (.int (Int32.ofNat nk1)), (.ref b12), (.int ((own_pre 1 nk0 nk1 nk2 nk3) nk1)), (.ref oc)])) _
  have sd18 : ∀ u, Steps p.tables e below (T16.setTop (mkF m 111 #[.val (.ref oa), .val (.ref ob), .val (.int (1 : Int32)), .val (.ref oc), .val (.ref b1), .val (.ref b12), .val (.int (1 : Int32)), .val (.int (4 : Int32)), .val (.int (Int32.ofNat nk3))] [(.int ((own_nx1 nk0 nk1 nk2 nk3) nk1)), (.int (Int32.ofNat nk1)), (.ref b12), (.int ((own_nx1 nk0 nk1 nk2 nk3) nk1)), (.int ((own_pre 1 nk0 nk1 nk2 nk3) nk1)), (.ref oc)])) u → Steps p.tables e below (T16.setTop (mkF m 110 #[.val (.ref oa), .val (.ref ob), .val (.int (1 : Int32)), .val (.ref oc), .val (.ref b1), .val (.ref b12), .val (.int (1 : Int32)), .val (.int (4 : Int32)), .val (.int (Int32.ofNat nk3))] [(.int ((own_nx1 nk0 nk1 nk2 nk3) nk1)), (.int (Int32.ofNat nk1)), (.ref b12), (.int ((own_pre 1 nk0 nk1 nk2 nk3) nk1)), (.ref oc)])) u := by
    intro u k
    jvm_step X16.here [X16.here.top, hx, (hb hby d1_110), Value.category]
    exact k
  refine Goes.by (fun _ k => sd18 _ k) ?_
  show Goes p.tables e below (T16.setTop (mkF m 111 #[.val (.ref oa), .val (.ref ob), .val (.int (1 : Int32)), .val (.ref oc), .val (.ref b1), .val (.ref b12), .val (.int (1 : Int32)), .val (.int (4 : Int32)), .val (.int (Int32.ofNat nk3))] [(.int ((own_nx1 nk0 nk1 nk2 nk3) nk1)), (.int (Int32.ofNat nk1)), (.ref b12), (.int ((own_nx1 nk0 nk1 nk2 nk3) nk1)), (.int ((own_pre 1 nk0 nk1 nk2 nk3) nk1)), (.ref oc)])) _
  refine Goes.by (fun _ k => XS.iconst X16.here hx rfl (hb hby d1_111) k) ?_
  show Goes p.tables e below (T16.setTop (mkF m 112 #[.val (.ref oa), .val (.ref ob), .val (.int (1 : Int32)), .val (.ref oc), .val (.ref b1), .val (.ref b12), .val (.int (1 : Int32)), .val (.int (4 : Int32)), .val (.int (Int32.ofNat nk3))] [(.int (1 : Int32)), (.int ((own_nx1 nk0 nk1 nk2 nk3) nk1)), (.int (Int32.ofNat nk1)), (.ref b12), (.int ((own_nx1 nk0 nk1 nk2 nk3) nk1)), (.int ((own_pre 1 nk0 nk1 nk2 nk3) nk1)), (.ref oc)])) _
  refine Goes.by (fun _ k => XS.iadd X16.here hx rfl (hb hby d1_112) rfl k) ?_
  show Goes p.tables e below (T16.setTop (mkF m 113 #[.val (.ref oa), .val (.ref ob), .val (.int (1 : Int32)), .val (.ref oc), .val (.ref b1), .val (.ref b12), .val (.int (1 : Int32)), .val (.int (4 : Int32)), .val (.int (Int32.ofNat nk3))] [(.int (((own_nx1 nk0 nk1 nk2 nk3) nk1) + (1 : Int32))), (.int (Int32.ofNat nk1)), (.ref b12), (.int ((own_nx1 nk0 nk1 nk2 nk3) nk1)), (.int ((own_pre 1 nk0 nk1 nk2 nk3) nk1)), (.ref oc)])) _
  obtain ⟨T19, h19, X19, e19, W19, A19, st19⟩ := stAI (fr := (mkF m 113 #[.val (.ref oa), .val (.ref ob), .val (.int (1 : Int32)), .val (.ref oc), .val (.ref b1), .val (.ref b12), .val (.int (1 : Int32)), .val (.int (4 : Int32)), .val (.int (Int32.ofNat nk3))] [(.int (((own_nx1 nk0 nk1 nk2 nk3) nk1) + (1 : Int32))), (.int (Int32.ofNat nk1)), (.ref b12), (.int ((own_nx1 nk0 nk1 nk2 nk3) nk1)), (.int ((own_pre 1 nk0 nk1 nk2 nk3) nk1)), (.ref oc)])) X16 hx hZ e16 A_b12 (i := nk1) (own_i0 nk1 (Nat.lt_trans hnk1 (by decide))) hnk1 rfl rfl (hb hby d1_113)
  refine Goes.by st19 ?_
  have A_b12 : AI Z h19 b12 .int 1 (own_nx2 nk0 nk1 nk2 nk3) := A19.congr (fun j hj => own_g1_2 ⟨nk0, hnk0⟩ ⟨nk1, hnk1⟩ ⟨nk2, hnk2⟩ ⟨nk3, hnk3⟩ ⟨j, hj⟩)
  have N19 := Fr.snoc X19 N16 g_b12
  have Zs19 : n0 ≤ h19.size := Nat.le_trans Zs16 (Keep.of_wr W19).1
  have K19 : Keep h0 h19 [oc] := K16.wr W19 (Or.inr sz_b12)
  have A_oa : AI Z h19 oa .int 4 pa := A_oa.other W19 ne_oa_b12
  have A_ob : AI Z h19 ob .int 4 (own_keys nk0 nk1 nk2 nk3) := A_ob.other W19 ne_ob_b12
  have A_oc : AI Z h19 oc .int 4 (up (fun _ => (0 : Int32)) (own_rank0 nk0 nk1 nk2 nk3) (pa 0)) := A_oc.other W19 ne_oc_b12
  have A_b1 : AI Z h19 b1 .int 2 (own_pre 1 nk0 nk1 nk2 nk3) := A_b1.other W19 ne_b1_b12
  show Goes p.tables e below (T19.setTop (mkF m 114 #[.val (.ref oa), .val (.ref ob), .val (.int (1 : Int32)), .val (.ref oc), .val (.ref b1), .val (.ref b12), .val (.int (1 : Int32)), .val (.int (4 : Int32)), .val (.int (Int32.ofNat nk3))] [(.int ((own_nx1 nk0 nk1 nk2 nk3) nk1)), (.int ((own_pre 1 nk0 nk1 nk2 nk3) nk1)), (.ref oc)])) _
  refine Goes.by (fun _ k => XS.iadd X19.here hx rfl (hb hby d1_114) rfl k) ?_
  show Goes p.tables e below (T19.setTop (mkF m 115 #[.val (.ref oa), .val (.ref ob), .val (.int (1 : Int32)), .val (.ref oc), .val (.ref b1), .val (.ref b12), .val (.int (1 : Int32)), .val (.int (4 : Int32)), .val (.int (Int32.ofNat nk3))] [(.int (((own_pre 1 nk0 nk1 nk2 nk3) nk1) + ((own_nx1 nk0 nk1 nk2 nk3) nk1))), (.ref oc)])) _
  refine Goes.by (fun _ k => XS.aloadN X19.here hx rfl (hb hby d1_115) rfl rfl k) ?_
  show Goes p.tables e below (T19.setTop (mkF m 116 #[.val (.ref oa), .val (.ref ob), .val (.int (1 : Int32)), .val (.ref oc), .val (.ref b1), .val (.ref b12), .val (.int (1 : Int32)), .val (.int (4 : Int32)), .val (.int (Int32.ofNat nk3))] [(.ref oa), (.int (((own_pre 1 nk0 nk1 nk2 nk3) nk1) + ((own_nx1 nk0 nk1 nk2 nk3) nk1))), (.ref oc)])) _
  refine Goes.by (fun _ k => XS.iload X19.here hx rfl (hb hby d1_116) rfl k) ?_
  show Goes p.tables e below (T19.setTop (mkF m 118 #[.val (.ref oa), .val (.ref ob), .val (.int (1 : Int32)), .val (.ref oc), .val (.ref b1), .val (.ref b12), .val (.int (1 : Int32)), .val (.int (4 : Int32)), .val (.int (Int32.ofNat nk3))] [(.int (1 : Int32)), (.ref oa), (.int (((own_pre 1 nk0 nk1 nk2 nk3) nk1) + ((own_nx1 nk0 nk1 nk2 nk3) nk1))), (.ref oc)])) _
  refine Goes.by (fun _ k => ldI (v := (pa 1)) (fr := (mkF m 118 #[.val (.ref oa), .val (.ref ob), .val (.int (1 : Int32)), .val (.ref oc), .val (.ref b1), .val (.ref b12), .val (.int (1 : Int32)), .val (.int (4 : Int32)), .val (.int (Int32.ofNat nk3))] [(.int (1 : Int32)), (.ref oa), (.int (((own_pre 1 nk0 nk1 nk2 nk3) nk1) + ((own_nx1 nk0 nk1 nk2 nk3) nk1))), (.ref oc)])) X19 hx hZ e19 A_oa (i := 1) (by decide) (by decide) rfl rfl rfl (hb hby d1_118) k) ?_
  show Goes p.tables e below (T19.setTop (mkF m 119 #[.val (.ref oa), .val (.ref ob), .val (.int (1 : Int32)), .val (.ref oc), .val (.ref b1), .val (.ref b12), .val (.int (1 : Int32)), .val (.int (4 : Int32)), .val (.int (Int32.ofNat nk3))] [(.int (pa 1)), (.int (((own_pre 1 nk0 nk1 nk2 nk3) nk1) + ((own_nx1 nk0 nk1 nk2 nk3) nk1))), (.ref oc)])) _
  obtain ⟨T20, h20, X20, e20, W20, A20, st20⟩ := stAI (fr := (mkF m 119 #[.val (.ref oa), .val (.ref ob), .val (.int (1 : Int32)), .val (.ref oc), .val (.ref b1), .val (.ref b12), .val (.int (1 : Int32)), .val (.int (4 : Int32)), .val (.int (Int32.ofNat nk3))] [(.int (pa 1)), (.int (((own_pre 1 nk0 nk1 nk2 nk3) nk1) + ((own_nx1 nk0 nk1 nk2 nk3) nk1))), (.ref oc)])) X19 hx hZ e19 A_oc (i := (own_rank1 nk0 nk1 nk2 nk3)) (own_pl1_1 ⟨nk0, hnk0⟩ ⟨nk1, hnk1⟩ ⟨nk2, hnk2⟩ ⟨nk3, hnk3⟩).1 (own_pl1_1 ⟨nk0, hnk0⟩ ⟨nk1, hnk1⟩ ⟨nk2, hnk2⟩ ⟨nk3, hnk3⟩).2 rfl rfl (hb hby d1_119)
  refine Goes.by st20 ?_
  have A_oc : AI Z h20 oc .int 4 (up (up (fun _ => (0 : Int32)) (own_rank0 nk0 nk1 nk2 nk3) (pa 0)) (own_rank1 nk0 nk1 nk2 nk3) (pa 1)) := A20
  have N20 := Fr.snoc X20 N19 g_oc
  have Zs20 : n0 ≤ h20.size := Nat.le_trans Zs19 (Keep.of_wr W20).1
  have K20 : Keep h0 h20 [oc] := K19.wr W20 (Or.inl (List.mem_of_getElem? (i := 0) rfl))
  have A_oa : AI Z h20 oa .int 4 pa := A_oa.other W20 ne_oa_oc
  have A_ob : AI Z h20 ob .int 4 (own_keys nk0 nk1 nk2 nk3) := A_ob.other W20 ne_ob_oc
  have A_b1 : AI Z h20 b1 .int 2 (own_pre 1 nk0 nk1 nk2 nk3) := A_b1.other W20 (Ne.symm ne_oc_b1)
  have A_b12 : AI Z h20 b12 .int 1 (own_nx2 nk0 nk1 nk2 nk3) := A_b12.other W20 (Ne.symm ne_oc_b12)
  show Goes p.tables e below (T20.setTop (mkF m 120 #[.val (.ref oa), .val (.ref ob), .val (.int (1 : Int32)), .val (.ref oc), .val (.ref b1), .val (.ref b12), .val (.int (1 : Int32)), .val (.int (4 : Int32)), .val (.int (Int32.ofNat nk3))] [])) _
  refine Goes.by (fun _ k => XS.iinc X20.here hx rfl (hb hby d1_120) rfl (l' := #[.val (.ref oa), .val (.ref ob), .val (.int (1 : Int32)), .val (.ref oc), .val (.ref b1), .val (.ref b12), .val (.int (2 : Int32)), .val (.int (4 : Int32)), .val (.int (Int32.ofNat nk3))]) rfl k) ?_
  show Goes p.tables e below (T20.setTop (mkF m 123 #[.val (.ref oa), .val (.ref ob), .val (.int (1 : Int32)), .val (.ref oc), .val (.ref b1), .val (.ref b12), .val (.int (2 : Int32)), .val (.int (4 : Int32)), .val (.int (Int32.ofNat nk3))] [])) _
  refine Goes.by (fun _ k => XS.goto X20.here hx rfl (pc0 := 123) (pc' := 87) rfl (hb hby d1_123) (by decide) (by decide) k) ?_
  show Goes p.tables e below (T20.setTop (mkF m 87 #[.val (.ref oa), .val (.ref ob), .val (.int (1 : Int32)), .val (.ref oc), .val (.ref b1), .val (.ref b12), .val (.int (2 : Int32)), .val (.int (4 : Int32)), .val (.int (Int32.ofNat nk3))] [])) _
  refine Goes.by (fun _ k => XS.iload X20.here hx rfl (hb hby d1_87) rfl k) ?_
  show Goes p.tables e below (T20.setTop (mkF m 89 #[.val (.ref oa), .val (.ref ob), .val (.int (1 : Int32)), .val (.ref oc), .val (.ref b1), .val (.ref b12), .val (.int (2 : Int32)), .val (.int (4 : Int32)), .val (.int (Int32.ofNat nk3))] [(.int (2 : Int32))])) _
  refine Goes.by (fun _ k => XS.aloadN X20.here hx rfl (hb hby d1_89) rfl rfl k) ?_
  show Goes p.tables e below (T20.setTop (mkF m 90 #[.val (.ref oa), .val (.ref ob), .val (.int (1 : Int32)), .val (.ref oc), .val (.ref b1), .val (.ref b12), .val (.int (2 : Int32)), .val (.int (4 : Int32)), .val (.int (Int32.ofNat nk3))] [(.ref oa), (.int (2 : Int32))])) _
  refine Goes.by (fun _ k => alen (z := (4 : Int32)) (fr := (mkF m 90 #[.val (.ref oa), .val (.ref ob), .val (.int (1 : Int32)), .val (.ref oc), .val (.ref b1), .val (.ref b12), .val (.int (2 : Int32)), .val (.int (4 : Int32)), .val (.int (Int32.ofNat nk3))] [(.ref oa), (.int (2 : Int32))])) X20 hx hZ e20 A_oa (by decide) rfl rfl (hb hby d1_90) k) ?_
  show Goes p.tables e below (T20.setTop (mkF m 91 #[.val (.ref oa), .val (.ref ob), .val (.int (1 : Int32)), .val (.ref oc), .val (.ref b1), .val (.ref b12), .val (.int (2 : Int32)), .val (.int (4 : Int32)), .val (.int (Int32.ofNat nk3))] [(.int (4 : Int32)), (.int (2 : Int32))])) _
  refine Goes.by (fun _ k => XS.icmpNo X20.here hx rfl (hb hby d1_91) rfl (tlt (by decide : (2 : Int32) < (4 : Int32))).2.1 k) ?_
  show Goes p.tables e below (T20.setTop (mkF m 94 #[.val (.ref oa), .val (.ref ob), .val (.int (1 : Int32)), .val (.ref oc), .val (.ref b1), .val (.ref b12), .val (.int (2 : Int32)), .val (.int (4 : Int32)), .val (.int (Int32.ofNat nk3))] [])) _
  refine Goes.by (fun _ k => XS.aloadN X20.here hx rfl (hb hby d1_94) rfl rfl k) ?_
  show Goes p.tables e below (T20.setTop (mkF m 95 #[.val (.ref oa), .val (.ref ob), .val (.int (1 : Int32)), .val (.ref oc), .val (.ref b1), .val (.ref b12), .val (.int (2 : Int32)), .val (.int (4 : Int32)), .val (.int (Int32.ofNat nk3))] [(.ref oc)])) _
  refine Goes.by (fun _ k => XS.aload X20.here hx rfl (hb hby d1_95) rfl rfl k) ?_
  show Goes p.tables e below (T20.setTop (mkF m 97 #[.val (.ref oa), .val (.ref ob), .val (.int (1 : Int32)), .val (.ref oc), .val (.ref b1), .val (.ref b12), .val (.int (2 : Int32)), .val (.int (4 : Int32)), .val (.int (Int32.ofNat nk3))] [(.ref b1), (.ref oc)])) _
  refine Goes.by (fun _ k => XS.aloadN X20.here hx rfl (hb hby d1_97) rfl rfl k) ?_
  show Goes p.tables e below (T20.setTop (mkF m 98 #[.val (.ref oa), .val (.ref ob), .val (.int (1 : Int32)), .val (.ref oc), .val (.ref b1), .val (.ref b12), .val (.int (2 : Int32)), .val (.int (4 : Int32)), .val (.int (Int32.ofNat nk3))] [(.ref ob), (.ref b1), (.ref oc)])) _
  refine Goes.by (fun _ k => XS.iload X20.here hx rfl (hb hby d1_98) rfl k) ?_
  show Goes p.tables e below (T20.setTop (mkF m 100 #[.val (.ref oa), .val (.ref ob), .val (.int (1 : Int32)), .val (.ref oc), .val (.ref b1), .val (.ref b12), .val (.int (2 : Int32)), .val (.int (4 : Int32)), .val (.int (Int32.ofNat nk3))] [(.int (2 : Int32)), (.ref ob), (.ref b1), (.ref oc)])) _
  refine Goes.by (fun _ k => ldI (v := (Int32.ofNat nk2)) (fr := (mkF m 100 #[.val (.ref oa), .val (.ref ob), .val (.int (1 : Int32)), .val (.ref oc), .val (.ref b1), .val (.ref b12), .val (.int (2 : Int32)), .val (.int (4 : Int32)), .val (.int (Int32.ofNat nk3))] [(.int (2 : Int32)), (.ref ob), (.ref b1), (.ref oc)])) X20 hx hZ e20 A_ob (i := 2) (by decide) (by decide) rfl rfl rfl (hb hby d1_100) k) ?_
  show Goes p.tables e below (T20.setTop (mkF m 101 #[.val (.ref oa), .val (.ref ob), .val (.int (1 : Int32)), .val (.ref oc), .val (.ref b1), .val (.ref b12), .val (.int (2 : Int32)), .val (.int (4 : Int32)), .val (.int (Int32.ofNat nk3))] [(.int (Int32.ofNat nk2)), (.ref b1), (.ref oc)])) _
  refine Goes.by (fun _ k => ldI (v := ((own_pre 1 nk0 nk1 nk2 nk3) nk2)) (fr := (mkF m 101 #[.val (.ref oa), .val (.ref ob), .val (.int (1 : Int32)), .val (.ref oc), .val (.ref b1), .val (.ref b12), .val (.int (2 : Int32)), .val (.int (4 : Int32)), .val (.int (Int32.ofNat nk3))] [(.int (Int32.ofNat nk2)), (.ref b1), (.ref oc)])) X20 hx hZ e20 A_b1 (i := nk2) (own_i0 nk2 (Nat.lt_trans hnk2 (by decide))) (Nat.lt_succ_of_lt hnk2) rfl rfl rfl (hb hby d1_101) k) ?_
  show Goes p.tables e below (T20.setTop (mkF m 102 #[.val (.ref oa), .val (.ref ob), .val (.int (1 : Int32)), .val (.ref oc), .val (.ref b1), .val (.ref b12), .val (.int (2 : Int32)), .val (.int (4 : Int32)), .val (.int (Int32.ofNat nk3))] [(.int ((own_pre 1 nk0 nk1 nk2 nk3) nk2)), (.ref oc)])) _
  refine Goes.by (fun _ k => XS.aload X20.here hx rfl (hb hby d1_102) rfl rfl k) ?_
  show Goes p.tables e below (T20.setTop (mkF m 104 #[.val (.ref oa), .val (.ref ob), .val (.int (1 : Int32)), .val (.ref oc), .val (.ref b1), .val (.ref b12), .val (.int (2 : Int32)), .val (.int (4 : Int32)), .val (.int (Int32.ofNat nk3))] [(.ref b12), (.int ((own_pre 1 nk0 nk1 nk2 nk3) nk2)), (.ref oc)])) _
  refine Goes.by (fun _ k => XS.aloadN X20.here hx rfl (hb hby d1_104) rfl rfl k) ?_
  show Goes p.tables e below (T20.setTop (mkF m 105 #[.val (.ref oa), .val (.ref ob), .val (.int (1 : Int32)), .val (.ref oc), .val (.ref b1), .val (.ref b12), .val (.int (2 : Int32)), .val (.int (4 : Int32)), .val (.int (Int32.ofNat nk3))] [(.ref ob), (.ref b12), (.int ((own_pre 1 nk0 nk1 nk2 nk3) nk2)), (.ref oc)])) _
  refine Goes.by (fun _ k => XS.iload X20.here hx rfl (hb hby d1_105) rfl k) ?_
  show Goes p.tables e below (T20.setTop (mkF m 107 #[.val (.ref oa), .val (.ref ob), .val (.int (1 : Int32)), .val (.ref oc), .val (.ref b1), .val (.ref b12), .val (.int (2 : Int32)), .val (.int (4 : Int32)), .val (.int (Int32.ofNat nk3))] [(.int (2 : Int32)), (.ref ob), (.ref b12), (.int ((own_pre 1 nk0 nk1 nk2 nk3) nk2)), (.ref oc)])) _
  refine Goes.by (fun _ k => ldI (v := (Int32.ofNat nk2)) (fr := (mkF m 107 #[.val (.ref oa), .val (.ref ob), .val (.int (1 : Int32)), .val (.ref oc), .val (.ref b1), .val (.ref b12), .val (.int (2 : Int32)), .val (.int (4 : Int32)), .val (.int (Int32.ofNat nk3))] [(.int (2 : Int32)), (.ref ob), (.ref b12), (.int ((own_pre 1 nk0 nk1 nk2 nk3) nk2)), (.ref oc)])) X20 hx hZ e20 A_ob (i := 2) (by decide) (by decide) rfl rfl rfl (hb hby d1_107) k) ?_
  show Goes p.tables e below (T20.setTop (mkF m 108 #[.val (.ref oa), .val (.ref ob), .val (.int (1 : Int32)), .val (.ref oc), .val (.ref b1), .val (.ref b12), .val (.int (2 : Int32)), .val (.int (4 : Int32)), .val (.int (Int32.ofNat nk3))] [(.int (Int32.ofNat nk2)), (.ref b12), (.int ((own_pre 1 nk0 nk1 nk2 nk3) nk2)), (.ref oc)])) _
  have sd21 : ∀ u, Steps p.tables e below (T20.setTop (mkF m 109 #[.val (.ref oa), .val (.ref ob), .val (.int (1 : Int32)), .val (.ref oc), .val (.ref b1), .val (.ref b12), .val (.int (2 : Int32)), .val (.int (4 : Int32)), .val (.int (Int32.ofNat nk3))] [(.int (Int32.ofNat nk2)), (.ref b12), (.int (Int32.ofNat nk2)), (.ref b12), (.int ((own_pre 1 nk0 nk1 nk2 nk3) nk2)), (.ref oc)])) u → Steps p.tables e below (T20.setTop (mkF m 108 #[.val (.ref oa), .val (.ref ob), .val (.int (1 : Int32)), .val (.ref oc), .val (.ref b1), .val (.ref b12), .val (.int (2 : Int32)), .val (.int (4 : Int32)), .val (.int (Int32.ofNat nk3))] [(.int (Int32.ofNat nk2)), (.ref b12), (.int ((own_pre 1 nk0 nk1 nk2 nk3) nk2)), (.ref oc)])) u := by
    intro u k
    jvm_step X20.here [X20.here.top, hx, (hb hby d1_108), Value.category]
    exact k
  refine Goes.by (fun _ k => sd21 _ k) ?_
  show Goes p.tables e below (T20.setTop (mkF m 109 #[.val (.ref oa), .val (.ref ob), .val (.int (1 : Int32)), .val (.ref oc), .val (.ref b1), .val (.ref b12), .val (.int (2 : Int32)), .val (.int (4 : Int32)), .val (.int (Int32.ofNat nk3))] [(.int (Int32.ofNat nk2)), (.ref b12), (.int (Int32.ofNat nk2)), (.ref b12), (.int ((own_pre 1 nk0 nk1 nk2 nk3) nk2)), (.ref oc)])) _
  refine Goes.by (fun _ k => ldI (v := ((own_nx2 nk0 nk1 nk2 nk3) nk2)) (fr := (mkF m 109 #[.val (.ref oa), .val (.ref ob), .val (.int (1 : Int32)), .val (.ref oc), .val (.ref b1), .val (.ref b12), .val (.int (2 : Int32)), .val (.int (4 : Int32)), .val (.int (Int32.ofNat nk3))] [(.int (Int32.ofNat nk2)), (.ref b12), (.int (Int32.ofNat nk2)), (.ref b12), (.int ((own_pre 1 nk0 nk1 nk2 nk3) nk2)), (.ref oc)])) X20 hx hZ e20 A_b12 (i := nk2) (own_i0 nk2 (Nat.lt_trans hnk2 (by decide))) hnk2 rfl rfl rfl (hb hby d1_109) k) ?_
  show Goes p.tables e below (T20.setTop (mkF m 110 #[.val (.ref oa), .val (.ref ob), .val (.int (1 : Int32)), .val (.ref oc), .val (.ref b1), .val (.ref b12), .val (.int (2 : Int32)), .val (.int (4 : Int32)), .val (.int (Int32.ofNat nk3))] [(.int ((own_nx2 nk0 nk1 nk2 nk3) nk2)), (.int (Int32.ofNat nk2)), (.ref b12), (.int ((own_pre 1 nk0 nk1 nk2 nk3) nk2)), (.ref oc)])) _
  have sd22 : ∀ u, Steps p.tables e below (T20.setTop (mkF m 111 #[.val (.ref oa), .val (.ref ob), .val (.int (1 : Int32)), .val (.ref oc), .val (.ref b1), .val (.ref b12), .val (.int (2 : Int32)), .val (.int (4 : Int32)), .val (.int (Int32.ofNat nk3))] [(.int ((own_nx2 nk0 nk1 nk2 nk3) nk2)), (.int (Int32.ofNat nk2)), (.ref b12), (.int ((own_nx2 nk0 nk1 nk2 nk3) nk2)), (.int ((own_pre 1 nk0 nk1 nk2 nk3) nk2)), (.ref oc)])) u → Steps p.tables e below (T20.setTop (mkF m 110 #[.val (.ref oa), .val (.ref ob), .val (.int (1 : Int32)), .val (.ref oc), .val (.ref b1), .val (.ref b12), .val (.int (2 : Int32)), .val (.int (4 : Int32)), .val (.int (Int32.ofNat nk3))] [(.int ((own_nx2 nk0 nk1 nk2 nk3) nk2)), (.int (Int32.ofNat nk2)), (.ref b12), (.int ((own_pre 1 nk0 nk1 nk2 nk3) nk2)), (.ref oc)])) u := by
    intro u k
    jvm_step X20.here [X20.here.top, hx, (hb hby d1_110), Value.category]
    exact k
  refine Goes.by (fun _ k => sd22 _ k) ?_
  show Goes p.tables e below (T20.setTop (mkF m 111 #[.val (.ref oa), .val (.ref ob), .val (.int (1 : Int32)), .val (.ref oc), .val (.ref b1), .val (.ref b12), .val (.int (2 : Int32)), .val (.int (4 : Int32)), .val (.int (Int32.ofNat nk3))] [(.int ((own_nx2 nk0 nk1 nk2 nk3) nk2)), (.int (Int32.ofNat nk2)), (.ref b12), (.int ((own_nx2 nk0 nk1 nk2 nk3) nk2)), (.int ((own_pre 1 nk0 nk1 nk2 nk3) nk2)), (.ref oc)])) _
  refine Goes.by (fun _ k => XS.iconst X20.here hx rfl (hb hby d1_111) k) ?_
  show Goes p.tables e below (T20.setTop (mkF m 112 #[.val (.ref oa), .val (.ref ob), .val (.int (1 : Int32)), .val (.ref oc), .val (.ref b1), .val (.ref b12), .val (.int (2 : Int32)), .val (.int (4 : Int32)), .val (.int (Int32.ofNat nk3))] [(.int (1 : Int32)), (.int ((own_nx2 nk0 nk1 nk2 nk3) nk2)), (.int (Int32.ofNat nk2)), (.ref b12), (.int ((own_nx2 nk0 nk1 nk2 nk3) nk2)), (.int ((own_pre 1 nk0 nk1 nk2 nk3) nk2)), (.ref oc)])) _
  refine Goes.by (fun _ k => XS.iadd X20.here hx rfl (hb hby d1_112) rfl k) ?_
  show Goes p.tables e below (T20.setTop (mkF m 113 #[.val (.ref oa), .val (.ref ob), .val (.int (1 : Int32)), .val (.ref oc), .val (.ref b1), .val (.ref b12), .val (.int (2 : Int32)), .val (.int (4 : Int32)), .val (.int (Int32.ofNat nk3))] [(.int (((own_nx2 nk0 nk1 nk2 nk3) nk2) + (1 : Int32))), (.int (Int32.ofNat nk2)), (.ref b12), (.int ((own_nx2 nk0 nk1 nk2 nk3) nk2)), (.int ((own_pre 1 nk0 nk1 nk2 nk3) nk2)), (.ref oc)])) _
  obtain ⟨T23, h23, X23, e23, W23, A23, st23⟩ := stAI (fr := (mkF m 113 #[.val (.ref oa), .val (.ref ob), .val (.int (1 : Int32)), .val (.ref oc), .val (.ref b1), .val (.ref b12), .val (.int (2 : Int32)), .val (.int (4 : Int32)), .val (.int (Int32.ofNat nk3))] [(.int (((own_nx2 nk0 nk1 nk2 nk3) nk2) + (1 : Int32))), (.int (Int32.ofNat nk2)), (.ref b12), (.int ((own_nx2 nk0 nk1 nk2 nk3) nk2)), (.int ((own_pre 1 nk0 nk1 nk2 nk3) nk2)), (.ref oc)])) X20 hx hZ e20 A_b12 (i := nk2) (own_i0 nk2 (Nat.lt_trans hnk2 (by decide))) hnk2 rfl rfl (hb hby d1_113)
  refine Goes.by st23 ?_
  have A_b12 : AI Z h23 b12 .int 1 (own_nx3 nk0 nk1 nk2 nk3) := A23.congr (fun j hj => own_g1_3 ⟨nk0, hnk0⟩ ⟨nk1, hnk1⟩ ⟨nk2, hnk2⟩ ⟨nk3, hnk3⟩ ⟨j, hj⟩)
  have N23 := Fr.snoc X23 N20 g_b12
  have Zs23 : n0 ≤ h23.size := Nat.le_trans Zs20 (Keep.of_wr W23).1
  have K23 : Keep h0 h23 [oc] := K20.wr W23 (Or.inr sz_b12)
  have A_oa : AI Z h23 oa .int 4 pa := A_oa.other W23 ne_oa_b12
  have A_ob : AI Z h23 ob .int 4 (own_keys nk0 nk1 nk2 nk3) := A_ob.other W23 ne_ob_b12
  have A_oc : AI Z h23 oc .int 4 (up (up (fun _ => (0 : Int32)) (own_rank0 nk0 nk1 nk2 nk3) (pa 0)) (own_rank1 nk0 nk1 nk2 nk3) (pa 1)) := A_oc.other W23 ne_oc_b12
  have A_b1 : AI Z h23 b1 .int 2 (own_pre 1 nk0 nk1 nk2 nk3) := A_b1.other W23 ne_b1_b12
  show Goes p.tables e below (T23.setTop (mkF m 114 #[.val (.ref oa), .val (.ref ob), .val (.int (1 : Int32)), .val (.ref oc), .val (.ref b1), .val (.ref b12), .val (.int (2 : Int32)), .val (.int (4 : Int32)), .val (.int (Int32.ofNat nk3))] [(.int ((own_nx2 nk0 nk1 nk2 nk3) nk2)), (.int ((own_pre 1 nk0 nk1 nk2 nk3) nk2)), (.ref oc)])) _
  refine Goes.by (fun _ k => XS.iadd X23.here hx rfl (hb hby d1_114) rfl k) ?_
  show Goes p.tables e below (T23.setTop (mkF m 115 #[.val (.ref oa), .val (.ref ob), .val (.int (1 : Int32)), .val (.ref oc), .val (.ref b1), .val (.ref b12), .val (.int (2 : Int32)), .val (.int (4 : Int32)), .val (.int (Int32.ofNat nk3))] [(.int (((own_pre 1 nk0 nk1 nk2 nk3) nk2) + ((own_nx2 nk0 nk1 nk2 nk3) nk2))), (.ref oc)])) _
  refine Goes.by (fun _ k => XS.aloadN X23.here hx rfl (hb hby d1_115) rfl rfl k) ?_
  show Goes p.tables e below (T23.setTop (mkF m 116 #[.val (.ref oa), .val (.ref ob), .val (.int (1 : Int32)), .val (.ref oc), .val (.ref b1), .val (.ref b12), .val (.int (2 : Int32)), .val (.int (4 : Int32)), .val (.int (Int32.ofNat nk3))] [(.ref oa), (.int (((own_pre 1 nk0 nk1 nk2 nk3) nk2) + ((own_nx2 nk0 nk1 nk2 nk3) nk2))), (.ref oc)])) _
  refine Goes.by (fun _ k => XS.iload X23.here hx rfl (hb hby d1_116) rfl k) ?_
  show Goes p.tables e below (T23.setTop (mkF m 118 #[.val (.ref oa), .val (.ref ob), .val (.int (1 : Int32)), .val (.ref oc), .val (.ref b1), .val (.ref b12), .val (.int (2 : Int32)), .val (.int (4 : Int32)), .val (.int (Int32.ofNat nk3))] [(.int (2 : Int32)), (.ref oa), (.int (((own_pre 1 nk0 nk1 nk2 nk3) nk2) + ((own_nx2 nk0 nk1 nk2 nk3) nk2))), (.ref oc)])) _
  refine Goes.by (fun _ k => ldI (v := (pa 2)) (fr := (mkF m 118 #[.val (.ref oa), .val (.ref ob), .val (.int (1 : Int32)), .val (.ref oc), .val (.ref b1), .val (.ref b12), .val (.int (2 : Int32)), .val (.int (4 : Int32)), .val (.int (Int32.ofNat nk3))] [(.int (2 : Int32)), (.ref oa), (.int (((own_pre 1 nk0 nk1 nk2 nk3) nk2) + ((own_nx2 nk0 nk1 nk2 nk3) nk2))), (.ref oc)])) X23 hx hZ e23 A_oa (i := 2) (by decide) (by decide) rfl rfl rfl (hb hby d1_118) k) ?_
  show Goes p.tables e below (T23.setTop (mkF m 119 #[.val (.ref oa), .val (.ref ob), .val (.int (1 : Int32)), .val (.ref oc), .val (.ref b1), .val (.ref b12), .val (.int (2 : Int32)), .val (.int (4 : Int32)), .val (.int (Int32.ofNat nk3))] [(.int (pa 2)), (.int (((own_pre 1 nk0 nk1 nk2 nk3) nk2) + ((own_nx2 nk0 nk1 nk2 nk3) nk2))), (.ref oc)])) _
  obtain ⟨T24, h24, X24, e24, W24, A24, st24⟩ := stAI (fr := (mkF m 119 #[.val (.ref oa), .val (.ref ob), .val (.int (1 : Int32)), .val (.ref oc), .val (.ref b1), .val (.ref b12), .val (.int (2 : Int32)), .val (.int (4 : Int32)), .val (.int (Int32.ofNat nk3))] [(.int (pa 2)), (.int (((own_pre 1 nk0 nk1 nk2 nk3) nk2) + ((own_nx2 nk0 nk1 nk2 nk3) nk2))), (.ref oc)])) X23 hx hZ e23 A_oc (i := (own_rank2 nk0 nk1 nk2 nk3)) (own_pl1_2 ⟨nk0, hnk0⟩ ⟨nk1, hnk1⟩ ⟨nk2, hnk2⟩ ⟨nk3, hnk3⟩).1 (own_pl1_2 ⟨nk0, hnk0⟩ ⟨nk1, hnk1⟩ ⟨nk2, hnk2⟩ ⟨nk3, hnk3⟩).2 rfl rfl (hb hby d1_119)
  refine Goes.by st24 ?_
  have A_oc : AI Z h24 oc .int 4 (up (up (up (fun _ => (0 : Int32)) (own_rank0 nk0 nk1 nk2 nk3) (pa 0)) (own_rank1 nk0 nk1 nk2 nk3) (pa 1)) (own_rank2 nk0 nk1 nk2 nk3) (pa 2)) := A24
  have N24 := Fr.snoc X24 N23 g_oc
  have Zs24 : n0 ≤ h24.size := Nat.le_trans Zs23 (Keep.of_wr W24).1
  have K24 : Keep h0 h24 [oc] := K23.wr W24 (Or.inl (List.mem_of_getElem? (i := 0) rfl))
  have A_oa : AI Z h24 oa .int 4 pa := A_oa.other W24 ne_oa_oc
  have A_ob : AI Z h24 ob .int 4 (own_keys nk0 nk1 nk2 nk3) := A_ob.other W24 ne_ob_oc
  have A_b1 : AI Z h24 b1 .int 2 (own_pre 1 nk0 nk1 nk2 nk3) := A_b1.other W24 (Ne.symm ne_oc_b1)
  have A_b12 : AI Z h24 b12 .int 1 (own_nx3 nk0 nk1 nk2 nk3) := A_b12.other W24 (Ne.symm ne_oc_b12)
  show Goes p.tables e below (T24.setTop (mkF m 120 #[.val (.ref oa), .val (.ref ob), .val (.int (1 : Int32)), .val (.ref oc), .val (.ref b1), .val (.ref b12), .val (.int (2 : Int32)), .val (.int (4 : Int32)), .val (.int (Int32.ofNat nk3))] [])) _
  refine Goes.by (fun _ k => XS.iinc X24.here hx rfl (hb hby d1_120) rfl (l' := #[.val (.ref oa), .val (.ref ob), .val (.int (1 : Int32)), .val (.ref oc), .val (.ref b1), .val (.ref b12), .val (.int (3 : Int32)), .val (.int (4 : Int32)), .val (.int (Int32.ofNat nk3))]) rfl k) ?_
  show Goes p.tables e below (T24.setTop (mkF m 123 #[.val (.ref oa), .val (.ref ob), .val (.int (1 : Int32)), .val (.ref oc), .val (.ref b1), .val (.ref b12), .val (.int (3 : Int32)), .val (.int (4 : Int32)), .val (.int (Int32.ofNat nk3))] [])) _
  refine Goes.by (fun _ k => XS.goto X24.here hx rfl (pc0 := 123) (pc' := 87) rfl (hb hby d1_123) (by decide) (by decide) k) ?_
  show Goes p.tables e below (T24.setTop (mkF m 87 #[.val (.ref oa), .val (.ref ob), .val (.int (1 : Int32)), .val (.ref oc), .val (.ref b1), .val (.ref b12), .val (.int (3 : Int32)), .val (.int (4 : Int32)), .val (.int (Int32.ofNat nk3))] [])) _
  refine Goes.by (fun _ k => XS.iload X24.here hx rfl (hb hby d1_87) rfl k) ?_
  show Goes p.tables e below (T24.setTop (mkF m 89 #[.val (.ref oa), .val (.ref ob), .val (.int (1 : Int32)), .val (.ref oc), .val (.ref b1), .val (.ref b12), .val (.int (3 : Int32)), .val (.int (4 : Int32)), .val (.int (Int32.ofNat nk3))] [(.int (3 : Int32))])) _
  refine Goes.by (fun _ k => XS.aloadN X24.here hx rfl (hb hby d1_89) rfl rfl k) ?_
  show Goes p.tables e below (T24.setTop (mkF m 90 #[.val (.ref oa), .val (.ref ob), .val (.int (1 : Int32)), .val (.ref oc), .val (.ref b1), .val (.ref b12), .val (.int (3 : Int32)), .val (.int (4 : Int32)), .val (.int (Int32.ofNat nk3))] [(.ref oa), (.int (3 : Int32))])) _
  refine Goes.by (fun _ k => alen (z := (4 : Int32)) (fr := (mkF m 90 #[.val (.ref oa), .val (.ref ob), .val (.int (1 : Int32)), .val (.ref oc), .val (.ref b1), .val (.ref b12), .val (.int (3 : Int32)), .val (.int (4 : Int32)), .val (.int (Int32.ofNat nk3))] [(.ref oa), (.int (3 : Int32))])) X24 hx hZ e24 A_oa (by decide) rfl rfl (hb hby d1_90) k) ?_
  show Goes p.tables e below (T24.setTop (mkF m 91 #[.val (.ref oa), .val (.ref ob), .val (.int (1 : Int32)), .val (.ref oc), .val (.ref b1), .val (.ref b12), .val (.int (3 : Int32)), .val (.int (4 : Int32)), .val (.int (Int32.ofNat nk3))] [(.int (4 : Int32)), (.int (3 : Int32))])) _
  refine Goes.by (fun _ k => XS.icmpNo X24.here hx rfl (hb hby d1_91) rfl (tlt (by decide : (3 : Int32) < (4 : Int32))).2.1 k) ?_
  show Goes p.tables e below (T24.setTop (mkF m 94 #[.val (.ref oa), .val (.ref ob), .val (.int (1 : Int32)), .val (.ref oc), .val (.ref b1), .val (.ref b12), .val (.int (3 : Int32)), .val (.int (4 : Int32)), .val (.int (Int32.ofNat nk3))] [])) _
  refine Goes.by (fun _ k => XS.aloadN X24.here hx rfl (hb hby d1_94) rfl rfl k) ?_
  show Goes p.tables e below (T24.setTop (mkF m 95 #[.val (.ref oa), .val (.ref ob), .val (.int (1 : Int32)), .val (.ref oc), .val (.ref b1), .val (.ref b12), .val (.int (3 : Int32)), .val (.int (4 : Int32)), .val (.int (Int32.ofNat nk3))] [(.ref oc)])) _
  refine Goes.by (fun _ k => XS.aload X24.here hx rfl (hb hby d1_95) rfl rfl k) ?_
  show Goes p.tables e below (T24.setTop (mkF m 97 #[.val (.ref oa), .val (.ref ob), .val (.int (1 : Int32)), .val (.ref oc), .val (.ref b1), .val (.ref b12), .val (.int (3 : Int32)), .val (.int (4 : Int32)), .val (.int (Int32.ofNat nk3))] [(.ref b1), (.ref oc)])) _
  refine Goes.by (fun _ k => XS.aloadN X24.here hx rfl (hb hby d1_97) rfl rfl k) ?_
  show Goes p.tables e below (T24.setTop (mkF m 98 #[.val (.ref oa), .val (.ref ob), .val (.int (1 : Int32)), .val (.ref oc), .val (.ref b1), .val (.ref b12), .val (.int (3 : Int32)), .val (.int (4 : Int32)), .val (.int (Int32.ofNat nk3))] [(.ref ob), (.ref b1), (.ref oc)])) _
  refine Goes.by (fun _ k => XS.iload X24.here hx rfl (hb hby d1_98) rfl k) ?_
  show Goes p.tables e below (T24.setTop (mkF m 100 #[.val (.ref oa), .val (.ref ob), .val (.int (1 : Int32)), .val (.ref oc), .val (.ref b1), .val (.ref b12), .val (.int (3 : Int32)), .val (.int (4 : Int32)), .val (.int (Int32.ofNat nk3))] [(.int (3 : Int32)), (.ref ob), (.ref b1), (.ref oc)])) _
  refine Goes.by (fun _ k => ldI (v := (Int32.ofNat nk3)) (fr := (mkF m 100 #[.val (.ref oa), .val (.ref ob), .val (.int (1 : Int32)), .val (.ref oc), .val (.ref b1), .val (.ref b12), .val (.int (3 : Int32)), .val (.int (4 : Int32)), .val (.int (Int32.ofNat nk3))] [(.int (3 : Int32)), (.ref ob), (.ref b1), (.ref oc)])) X24 hx hZ e24 A_ob (i := 3) (by decide) (by decide) rfl rfl rfl (hb hby d1_100) k) ?_
  show Goes p.tables e below (T24.setTop (mkF m 101 #[.val (.ref oa), .val (.ref ob), .val (.int (1 : Int32)), .val (.ref oc), .val (.ref b1), .val (.ref b12), .val (.int (3 : Int32)), .val (.int (4 : Int32)), .val (.int (Int32.ofNat nk3))] [(.int (Int32.ofNat nk3)), (.ref b1), (.ref oc)])) _
  refine Goes.by (fun _ k => ldI (v := ((own_pre 1 nk0 nk1 nk2 nk3) nk3)) (fr := (mkF m 101 #[.val (.ref oa), .val (.ref ob), .val (.int (1 : Int32)), .val (.ref oc), .val (.ref b1), .val (.ref b12), .val (.int (3 : Int32)), .val (.int (4 : Int32)), .val (.int (Int32.ofNat nk3))] [(.int (Int32.ofNat nk3)), (.ref b1), (.ref oc)])) X24 hx hZ e24 A_b1 (i := nk3) (own_i0 nk3 (Nat.lt_trans hnk3 (by decide))) (Nat.lt_succ_of_lt hnk3) rfl rfl rfl (hb hby d1_101) k) ?_
  show Goes p.tables e below (T24.setTop (mkF m 102 #[.val (.ref oa), .val (.ref ob), .val (.int (1 : Int32)), .val (.ref oc), .val (.ref b1), .val (.ref b12), .val (.int (3 : Int32)), .val (.int (4 : Int32)), .val (.int (Int32.ofNat nk3))] [(.int ((own_pre 1 nk0 nk1 nk2 nk3) nk3)), (.ref oc)])) _
  refine Goes.by (fun _ k => XS.aload X24.here hx rfl (hb hby d1_102) rfl rfl k) ?_
  show Goes p.tables e below (T24.setTop (mkF m 104 #[.val (.ref oa), .val (.ref ob), .val (.int (1 : Int32)), .val (.ref oc), .val (.ref b1), .val (.ref b12), .val (.int (3 : Int32)), .val (.int (4 : Int32)), .val (.int (Int32.ofNat nk3))] [(.ref b12), (.int ((own_pre 1 nk0 nk1 nk2 nk3) nk3)), (.ref oc)])) _
  refine Goes.by (fun _ k => XS.aloadN X24.here hx rfl (hb hby d1_104) rfl rfl k) ?_
  show Goes p.tables e below (T24.setTop (mkF m 105 #[.val (.ref oa), .val (.ref ob), .val (.int (1 : Int32)), .val (.ref oc), .val (.ref b1), .val (.ref b12), .val (.int (3 : Int32)), .val (.int (4 : Int32)), .val (.int (Int32.ofNat nk3))] [(.ref ob), (.ref b12), (.int ((own_pre 1 nk0 nk1 nk2 nk3) nk3)), (.ref oc)])) _
  refine Goes.by (fun _ k => XS.iload X24.here hx rfl (hb hby d1_105) rfl k) ?_
  show Goes p.tables e below (T24.setTop (mkF m 107 #[.val (.ref oa), .val (.ref ob), .val (.int (1 : Int32)), .val (.ref oc), .val (.ref b1), .val (.ref b12), .val (.int (3 : Int32)), .val (.int (4 : Int32)), .val (.int (Int32.ofNat nk3))] [(.int (3 : Int32)), (.ref ob), (.ref b12), (.int ((own_pre 1 nk0 nk1 nk2 nk3) nk3)), (.ref oc)])) _
  refine Goes.by (fun _ k => ldI (v := (Int32.ofNat nk3)) (fr := (mkF m 107 #[.val (.ref oa), .val (.ref ob), .val (.int (1 : Int32)), .val (.ref oc), .val (.ref b1), .val (.ref b12), .val (.int (3 : Int32)), .val (.int (4 : Int32)), .val (.int (Int32.ofNat nk3))] [(.int (3 : Int32)), (.ref ob), (.ref b12), (.int ((own_pre 1 nk0 nk1 nk2 nk3) nk3)), (.ref oc)])) X24 hx hZ e24 A_ob (i := 3) (by decide) (by decide) rfl rfl rfl (hb hby d1_107) k) ?_
  show Goes p.tables e below (T24.setTop (mkF m 108 #[.val (.ref oa), .val (.ref ob), .val (.int (1 : Int32)), .val (.ref oc), .val (.ref b1), .val (.ref b12), .val (.int (3 : Int32)), .val (.int (4 : Int32)), .val (.int (Int32.ofNat nk3))] [(.int (Int32.ofNat nk3)), (.ref b12), (.int ((own_pre 1 nk0 nk1 nk2 nk3) nk3)), (.ref oc)])) _
  have sd25 : ∀ u, Steps p.tables e below (T24.setTop (mkF m 109 #[.val (.ref oa), .val (.ref ob), .val (.int (1 : Int32)), .val (.ref oc), .val (.ref b1), .val (.ref b12), .val (.int (3 : Int32)), .val (.int (4 : Int32)), .val (.int (Int32.ofNat nk3))] [(.int (Int32.ofNat nk3)), (.ref b12), (.int (Int32.ofNat nk3)), (.ref b12), (.int ((own_pre 1 nk0 nk1 nk2 nk3) nk3)), (.ref oc)])) u → Steps p.tables e below (T24.setTop (mkF m 108 #[.val (.ref oa), .val (.ref ob), .val (.int (1 : Int32)), .val (.ref oc), .val (.ref b1), .val (.ref b12), .val (.int (3 : Int32)), .val (.int (4 : Int32)), .val (.int (Int32.ofNat nk3))] [(.int (Int32.ofNat nk3)), (.ref b12), (.int ((own_pre 1 nk0 nk1 nk2 nk3) nk3)), (.ref oc)])) u := by
    intro u k
    jvm_step X24.here [X24.here.top, hx, (hb hby d1_108), Value.category]
    exact k
  refine Goes.by (fun _ k => sd25 _ k) ?_
  show Goes p.tables e below (T24.setTop (mkF m 109 #[.val (.ref oa), .val (.ref ob), .val (.int (1 : Int32)), .val (.ref oc), .val (.ref b1), .val (.ref b12), .val (.int (3 : Int32)), .val (.int (4 : Int32)), .val (.int (Int32.ofNat nk3))] [(.int (Int32.ofNat nk3)), (.ref b12), (.int (Int32.ofNat nk3)), (.ref b12), (.int ((own_pre 1 nk0 nk1 nk2 nk3) nk3)), (.ref oc)])) _
  refine Goes.by (fun _ k => ldI (v := ((own_nx3 nk0 nk1 nk2 nk3) nk3)) (fr := (mkF m 109 #[.val (.ref oa), .val (.ref ob), .val (.int (1 : Int32)), .val (.ref oc), .val (.ref b1), .val (.ref b12), .val (.int (3 : Int32)), .val (.int (4 : Int32)), .val (.int (Int32.ofNat nk3))] [(.int (Int32.ofNat nk3)), (.ref b12), (.int (Int32.ofNat nk3)), (.ref b12), (.int ((own_pre 1 nk0 nk1 nk2 nk3) nk3)), (.ref oc)])) X24 hx hZ e24 A_b12 (i := nk3) (own_i0 nk3 (Nat.lt_trans hnk3 (by decide))) hnk3 rfl rfl rfl (hb hby d1_109) k) ?_
  show Goes p.tables e below (T24.setTop (mkF m 110 #[.val (.ref oa), .val (.ref ob), .val (.int (1 : Int32)), .val (.ref oc), .val (.ref b1), .val (.ref b12), .val (.int (3 : Int32)), .val (.int (4 : Int32)), .val (.int (Int32.ofNat nk3))] [(.int ((own_nx3 nk0 nk1 nk2 nk3) nk3)), (.int (Int32.ofNat nk3)), (.ref b12), (.int ((own_pre 1 nk0 nk1 nk2 nk3) nk3)), (.ref oc)])) _
  have sd26 : ∀ u, Steps p.tables e below (T24.setTop (mkF m 111 #[.val (.ref oa), .val (.ref ob), .val (.int (1 : Int32)), .val (.ref oc), .val (.ref b1), .val (.ref b12), .val (.int (3 : Int32)), .val (.int (4 : Int32)), .val (.int (Int32.ofNat nk3))] [(.int ((own_nx3 nk0 nk1 nk2 nk3) nk3)), (.int (Int32.ofNat nk3)), (.ref b12), (.int ((own_nx3 nk0 nk1 nk2 nk3) nk3)), (.int ((own_pre 1 nk0 nk1 nk2 nk3) nk3)), (.ref oc)])) u → Steps p.tables e below (T24.setTop (mkF m 110 #[.val (.ref oa), .val (.ref ob), .val (.int (1 : Int32)), .val (.ref oc), .val (.ref b1), .val (.ref b12), .val (.int (3 : Int32)), .val (.int (4 : Int32)), .val (.int (Int32.ofNat nk3))] [(.int ((own_nx3 nk0 nk1 nk2 nk3) nk3)), (.int (Int32.ofNat nk3)), (.ref b12), (.int ((own_pre 1 nk0 nk1 nk2 nk3) nk3)), (.ref oc)])) u := by
    intro u k
    jvm_step X24.here [X24.here.top, hx, (hb hby d1_110), Value.category]
    exact k
  refine Goes.by (fun _ k => sd26 _ k) ?_
  show Goes p.tables e below (T24.setTop (mkF m 111 #[.val (.ref oa), .val (.ref ob), .val (.int (1 : Int32)), .val (.ref oc), .val (.ref b1), .val (.ref b12), .val (.int (3 : Int32)), .val (.int (4 : Int32)), .val (.int (Int32.ofNat nk3))] [(.int ((own_nx3 nk0 nk1 nk2 nk3) nk3)), (.int (Int32.ofNat nk3)), (.ref b12), (.int ((own_nx3 nk0 nk1 nk2 nk3) nk3)), (.int ((own_pre 1 nk0 nk1 nk2 nk3) nk3)), (.ref oc)])) _
  refine Goes.by (fun _ k => XS.iconst X24.here hx rfl (hb hby d1_111) k) ?_
  show Goes p.tables e below (T24.setTop (mkF m 112 #[.val (.ref oa), .val (.ref ob), .val (.int (1 : Int32)), .val (.ref oc), .val (.ref b1), .val (.ref b12), .val (.int (3 : Int32)), .val (.int (4 : Int32)), .val (.int (Int32.ofNat nk3))] [(.int (1 : Int32)), (.int ((own_nx3 nk0 nk1 nk2 nk3) nk3)), (.int (Int32.ofNat nk3)), (.ref b12), (.int ((own_nx3 nk0 nk1 nk2 nk3) nk3)), (.int ((own_pre 1 nk0 nk1 nk2 nk3) nk3)), (.ref oc)])) _
  refine Goes.by (fun _ k => XS.iadd X24.here hx rfl (hb hby d1_112) rfl k) ?_
  show Goes p.tables e below (T24.setTop (mkF m 113 #[.val (.ref oa), .val (.ref ob), .val (.int (1 : Int32)), .val (.ref oc), .val (.ref b1), .val (.ref b12), .val (.int (3 : Int32)), .val (.int (4 : Int32)), .val (.int (Int32.ofNat nk3))] [(.int (((own_nx3 nk0 nk1 nk2 nk3) nk3) + (1 : Int32))), (.int (Int32.ofNat nk3)), (.ref b12), (.int ((own_nx3 nk0 nk1 nk2 nk3) nk3)), (.int ((own_pre 1 nk0 nk1 nk2 nk3) nk3)), (.ref oc)])) _
  obtain ⟨T27, h27, X27, e27, W27, A27, st27⟩ := stAI (fr := (mkF m 113 #[.val (.ref oa), .val (.ref ob), .val (.int (1 : Int32)), .val (.ref oc), .val (.ref b1), .val (.ref b12), .val (.int (3 : Int32)), .val (.int (4 : Int32)), .val (.int (Int32.ofNat nk3))] [(.int (((own_nx3 nk0 nk1 nk2 nk3) nk3) + (1 : Int32))), (.int (Int32.ofNat nk3)), (.ref b12), (.int ((own_nx3 nk0 nk1 nk2 nk3) nk3)), (.int ((own_pre 1 nk0 nk1 nk2 nk3) nk3)), (.ref oc)])) X24 hx hZ e24 A_b12 (i := nk3) (own_i0 nk3 (Nat.lt_trans hnk3 (by decide))) hnk3 rfl rfl (hb hby d1_113)
  refine Goes.by st27 ?_
  have A_b12 : AI Z h27 b12 .int 1 (own_nx4 nk0 nk1 nk2 nk3) := A27.congr (fun j hj => own_g1_4 ⟨nk0, hnk0⟩ ⟨nk1, hnk1⟩ ⟨nk2, hnk2⟩ ⟨nk3, hnk3⟩ ⟨j, hj⟩)
  have N27 := Fr.snoc X27 N24 g_b12
  have Zs27 : n0 ≤ h27.size := Nat.le_trans Zs24 (Keep.of_wr W27).1
  have K27 : Keep h0 h27 [oc] := K24.wr W27 (Or.inr sz_b12)
  have A_oa : AI Z h27 oa .int 4 pa := A_oa.other W27 ne_oa_b12
  have A_ob : AI Z h27 ob .int 4 (own_keys nk0 nk1 nk2 nk3) := A_ob.other W27 ne_ob_b12
  have A_oc : AI Z h27 oc .int 4 (up (up (up (fun _ => (0 : Int32)) (own_rank0 nk0 nk1 nk2 nk3) (pa 0)) (own_rank1 nk0 nk1 nk2 nk3) (pa 1)) (own_rank2 nk0 nk1 nk2 nk3) (pa 2)) := A_oc.other W27 ne_oc_b12
  have A_b1 : AI Z h27 b1 .int 2 (own_pre 1 nk0 nk1 nk2 nk3) := A_b1.other W27 ne_b1_b12
  show Goes p.tables e below (T27.setTop (mkF m 114 #[.val (.ref oa), .val (.ref ob), .val (.int (1 : Int32)), .val (.ref oc), .val (.ref b1), .val (.ref b12), .val (.int (3 : Int32)), .val (.int (4 : Int32)), .val (.int (Int32.ofNat nk3))] [(.int ((own_nx3 nk0 nk1 nk2 nk3) nk3)), (.int ((own_pre 1 nk0 nk1 nk2 nk3) nk3)), (.ref oc)])) _
  refine Goes.by (fun _ k => XS.iadd X27.here hx rfl (hb hby d1_114) rfl k) ?_
  show Goes p.tables e below (T27.setTop (mkF m 115 #[.val (.ref oa), .val (.ref ob), .val (.int (1 : Int32)), .val (.ref oc), .val (.ref b1), .val (.ref b12), .val (.int (3 : Int32)), .val (.int (4 : Int32)), .val (.int (Int32.ofNat nk3))] [(.int (((own_pre 1 nk0 nk1 nk2 nk3) nk3) + ((own_nx3 nk0 nk1 nk2 nk3) nk3))), (.ref oc)])) _
  refine Goes.by (fun _ k => XS.aloadN X27.here hx rfl (hb hby d1_115) rfl rfl k) ?_
  show Goes p.tables e below (T27.setTop (mkF m 116 #[.val (.ref oa), .val (.ref ob), .val (.int (1 : Int32)), .val (.ref oc), .val (.ref b1), .val (.ref b12), .val (.int (3 : Int32)), .val (.int (4 : Int32)), .val (.int (Int32.ofNat nk3))] [(.ref oa), (.int (((own_pre 1 nk0 nk1 nk2 nk3) nk3) + ((own_nx3 nk0 nk1 nk2 nk3) nk3))), (.ref oc)])) _
  refine Goes.by (fun _ k => XS.iload X27.here hx rfl (hb hby d1_116) rfl k) ?_
  show Goes p.tables e below (T27.setTop (mkF m 118 #[.val (.ref oa), .val (.ref ob), .val (.int (1 : Int32)), .val (.ref oc), .val (.ref b1), .val (.ref b12), .val (.int (3 : Int32)), .val (.int (4 : Int32)), .val (.int (Int32.ofNat nk3))] [(.int (3 : Int32)), (.ref oa), (.int (((own_pre 1 nk0 nk1 nk2 nk3) nk3) + ((own_nx3 nk0 nk1 nk2 nk3) nk3))), (.ref oc)])) _
  refine Goes.by (fun _ k => ldI (v := (pa 3)) (fr := (mkF m 118 #[.val (.ref oa), .val (.ref ob), .val (.int (1 : Int32)), .val (.ref oc), .val (.ref b1), .val (.ref b12), .val (.int (3 : Int32)), .val (.int (4 : Int32)), .val (.int (Int32.ofNat nk3))] [(.int (3 : Int32)), (.ref oa), (.int (((own_pre 1 nk0 nk1 nk2 nk3) nk3) + ((own_nx3 nk0 nk1 nk2 nk3) nk3))), (.ref oc)])) X27 hx hZ e27 A_oa (i := 3) (by decide) (by decide) rfl rfl rfl (hb hby d1_118) k) ?_
  show Goes p.tables e below (T27.setTop (mkF m 119 #[.val (.ref oa), .val (.ref ob), .val (.int (1 : Int32)), .val (.ref oc), .val (.ref b1), .val (.ref b12), .val (.int (3 : Int32)), .val (.int (4 : Int32)), .val (.int (Int32.ofNat nk3))] [(.int (pa 3)), (.int (((own_pre 1 nk0 nk1 nk2 nk3) nk3) + ((own_nx3 nk0 nk1 nk2 nk3) nk3))), (.ref oc)])) _
  obtain ⟨T28, h28, X28, e28, W28, A28, st28⟩ := stAI (fr := (mkF m 119 #[.val (.ref oa), .val (.ref ob), .val (.int (1 : Int32)), .val (.ref oc), .val (.ref b1), .val (.ref b12), .val (.int (3 : Int32)), .val (.int (4 : Int32)), .val (.int (Int32.ofNat nk3))] [(.int (pa 3)), (.int (((own_pre 1 nk0 nk1 nk2 nk3) nk3) + ((own_nx3 nk0 nk1 nk2 nk3) nk3))), (.ref oc)])) X27 hx hZ e27 A_oc (i := (own_rank3 nk0 nk1 nk2 nk3)) (own_pl1_3 ⟨nk0, hnk0⟩ ⟨nk1, hnk1⟩ ⟨nk2, hnk2⟩ ⟨nk3, hnk3⟩).1 (own_pl1_3 ⟨nk0, hnk0⟩ ⟨nk1, hnk1⟩ ⟨nk2, hnk2⟩ ⟨nk3, hnk3⟩).2 rfl rfl (hb hby d1_119)
  refine Goes.by st28 ?_
  have A_oc : AI Z h28 oc .int 4 (up (up (up (up (fun _ => (0 : Int32)) (own_rank0 nk0 nk1 nk2 nk3) (pa 0)) (own_rank1 nk0 nk1 nk2 nk3) (pa 1)) (own_rank2 nk0 nk1 nk2 nk3) (pa 2)) (own_rank3 nk0 nk1 nk2 nk3) (pa 3)) := A28
  have N28 := Fr.snoc X28 N27 g_oc
  have Zs28 : n0 ≤ h28.size := Nat.le_trans Zs27 (Keep.of_wr W28).1
  have K28 : Keep h0 h28 [oc] := K27.wr W28 (Or.inl (List.mem_of_getElem? (i := 0) rfl))
  have A_oa : AI Z h28 oa .int 4 pa := A_oa.other W28 ne_oa_oc
  have A_ob : AI Z h28 ob .int 4 (own_keys nk0 nk1 nk2 nk3) := A_ob.other W28 ne_ob_oc
  have A_b1 : AI Z h28 b1 .int 2 (own_pre 1 nk0 nk1 nk2 nk3) := A_b1.other W28 (Ne.symm ne_oc_b1)
  have A_b12 : AI Z h28 b12 .int 1 (own_nx4 nk0 nk1 nk2 nk3) := A_b12.other W28 (Ne.symm ne_oc_b12)
  show Goes p.tables e below (T28.setTop (mkF m 120 #[.val (.ref oa), .val (.ref ob), .val (.int (1 : Int32)), .val (.ref oc), .val (.ref b1), .val (.ref b12), .val (.int (3 : Int32)), .val (.int (4 : Int32)), .val (.int (Int32.ofNat nk3))] [])) _
  refine Goes.by (fun _ k => XS.iinc X28.here hx rfl (hb hby d1_120) rfl (l' := #[.val (.ref oa), .val (.ref ob), .val (.int (1 : Int32)), .val (.ref oc), .val (.ref b1), .val (.ref b12), .val (.int (4 : Int32)), .val (.int (4 : Int32)), .val (.int (Int32.ofNat nk3))]) rfl k) ?_
  show Goes p.tables e below (T28.setTop (mkF m 123 #[.val (.ref oa), .val (.ref ob), .val (.int (1 : Int32)), .val (.ref oc), .val (.ref b1), .val (.ref b12), .val (.int (4 : Int32)), .val (.int (4 : Int32)), .val (.int (Int32.ofNat nk3))] [])) _
  refine Goes.by (fun _ k => XS.goto X28.here hx rfl (pc0 := 123) (pc' := 87) rfl (hb hby d1_123) (by decide) (by decide) k) ?_
  show Goes p.tables e below (T28.setTop (mkF m 87 #[.val (.ref oa), .val (.ref ob), .val (.int (1 : Int32)), .val (.ref oc), .val (.ref b1), .val (.ref b12), .val (.int (4 : Int32)), .val (.int (4 : Int32)), .val (.int (Int32.ofNat nk3))] [])) _
  refine Goes.by (fun _ k => XS.iload X28.here hx rfl (hb hby d1_87) rfl k) ?_
  show Goes p.tables e below (T28.setTop (mkF m 89 #[.val (.ref oa), .val (.ref ob), .val (.int (1 : Int32)), .val (.ref oc), .val (.ref b1), .val (.ref b12), .val (.int (4 : Int32)), .val (.int (4 : Int32)), .val (.int (Int32.ofNat nk3))] [(.int (4 : Int32))])) _
  refine Goes.by (fun _ k => XS.aloadN X28.here hx rfl (hb hby d1_89) rfl rfl k) ?_
  show Goes p.tables e below (T28.setTop (mkF m 90 #[.val (.ref oa), .val (.ref ob), .val (.int (1 : Int32)), .val (.ref oc), .val (.ref b1), .val (.ref b12), .val (.int (4 : Int32)), .val (.int (4 : Int32)), .val (.int (Int32.ofNat nk3))] [(.ref oa), (.int (4 : Int32))])) _
  refine Goes.by (fun _ k => alen (z := (4 : Int32)) (fr := (mkF m 90 #[.val (.ref oa), .val (.ref ob), .val (.int (1 : Int32)), .val (.ref oc), .val (.ref b1), .val (.ref b12), .val (.int (4 : Int32)), .val (.int (4 : Int32)), .val (.int (Int32.ofNat nk3))] [(.ref oa), (.int (4 : Int32))])) X28 hx hZ e28 A_oa (by decide) rfl rfl (hb hby d1_90) k) ?_
  show Goes p.tables e below (T28.setTop (mkF m 91 #[.val (.ref oa), .val (.ref ob), .val (.int (1 : Int32)), .val (.ref oc), .val (.ref b1), .val (.ref b12), .val (.int (4 : Int32)), .val (.int (4 : Int32)), .val (.int (Int32.ofNat nk3))] [(.int (4 : Int32)), (.int (4 : Int32))])) _
  refine Goes.by (fun _ k => XS.icmpYes X28.here hx rfl (pc0 := 91) (pc' := 126) rfl (hb hby d1_91) rfl (flt (by decide : ¬ ((4 : Int32) < (4 : Int32)))).2.1 (by decide) (by decide) k) ?_
  show Goes p.tables e below (T28.setTop (mkF m 126 #[.val (.ref oa), .val (.ref ob), .val (.int (1 : Int32)), .val (.ref oc), .val (.ref b1), .val (.ref b12), .val (.int (4 : Int32)), .val (.int (4 : Int32)), .val (.int (Int32.ofNat nk3))] [])) _
  refine Goes.by (fun _ k => XS.aload X28.here hx rfl (hb hby d1_126) rfl rfl k) ?_
  show Goes p.tables e below (T28.setTop (mkF m 128 #[.val (.ref oa), .val (.ref ob), .val (.int (1 : Int32)), .val (.ref oc), .val (.ref b1), .val (.ref b12), .val (.int (4 : Int32)), .val (.int (4 : Int32)), .val (.int (Int32.ofNat nk3))] [(.ref b1)])) _
  obtain ⟨fs, hr, hrun, hended, hW, hsame⟩ := X28.leave (v := some (.ref b1)) (fun h => by rw [Bd.returns] at h; cases h)
  refine ⟨_, _, retOut X28 hx Bd.returns (i := .areturn) (narR rfl) (Or.inr (Or.inr (Or.inr (Or.inr ⟨rfl, rfl, rfl⟩)))) (hb hby d1_128) hr, hrun, hended, _, _, rfl, ?_, ⟨_, rfl⟩, hW, hsame.mono (by decide) (by decide)⟩
  show Q1k1 Z oa ob oc pa nk0 nk1 nk2 nk3 h0 n0 _ T28.heap _
  rw [e28]
  exact ⟨b1, rfl, N28, K28, A_b1, A_oc, sz_b1⟩
theorem own_f2_1 : ∀ nk0 nk1 nk2 nk3 : Fin 2, ∀ j : Fin 3, (up (fun _ => (0 : Int32)) (nk0.val + 1) (((fun _ => (0 : Int32)) (nk0.val + 1)) + (1 : Int32))) j.val = (own_cnt1 nk0.val nk1.val nk2.val nk3.val) j.val := by decide +kernel
theorem own_f2_2 : ∀ nk0 nk1 nk2 nk3 : Fin 2, ∀ j : Fin 3, (up (own_cnt1 nk0.val nk1.val nk2.val nk3.val) (nk1.val + 1) (((own_cnt1 nk0.val nk1.val nk2.val nk3.val) (nk1.val + 1)) + (1 : Int32))) j.val = (own_cnt2 nk0.val nk1.val nk2.val nk3.val) j.val := by decide +kernel
theorem own_f2_3 : ∀ nk0 nk1 nk2 nk3 : Fin 2, ∀ j : Fin 3, (up (own_cnt2 nk0.val nk1.val nk2.val nk3.val) (nk2.val + 1) (((own_cnt2 nk0.val nk1.val nk2.val nk3.val) (nk2.val + 1)) + (1 : Int32))) j.val = (own_cnt3 nk0.val nk1.val nk2.val nk3.val) j.val := by decide +kernel
theorem own_f2_4 : ∀ nk0 nk1 nk2 nk3 : Fin 2, ∀ j : Fin 3, (up (own_cnt3 nk0.val nk1.val nk2.val nk3.val) (nk3.val + 1) (((own_cnt3 nk0.val nk1.val nk2.val nk3.val) (nk3.val + 1)) + (1 : Int32))) j.val = (own_cnt4 nk0.val nk1.val nk2.val nk3.val) j.val := by decide +kernel
theorem own_f2_5 : ∀ nk0 nk1 nk2 nk3 : Fin 2, ∀ j : Fin 3, (up (own_cnt4 nk0.val nk1.val nk2.val nk3.val) 1 (((own_cnt4 nk0.val nk1.val nk2.val nk3.val) 1) + ((own_cnt4 nk0.val nk1.val nk2.val nk3.val) 0))) j.val = (own_pre 1 nk0.val nk1.val nk2.val nk3.val) j.val := by decide +kernel
theorem own_f2_6 : ∀ nk0 nk1 nk2 nk3 : Fin 2, ∀ j : Fin 3, (up (own_pre 1 nk0.val nk1.val nk2.val nk3.val) 2 (((own_pre 1 nk0.val nk1.val nk2.val nk3.val) 2) + ((own_pre 1 nk0.val nk1.val nk2.val nk3.val) 1))) j.val = (own_pre 2 nk0.val nk1.val nk2.val nk3.val) j.val := by decide +kernel
theorem own_g2_1 : ∀ nk0 nk1 nk2 nk3 : Fin 2, ∀ j : Fin 2, (up (fun _ => (0 : Int32)) nk0.val (((fun _ => (0 : Int32)) nk0.val) + (1 : Int32))) j.val = (own_nx1 nk0.val nk1.val nk2.val nk3.val) j.val := by decide +kernel
theorem own_pl2_0 : ∀ nk0 nk1 nk2 nk3 : Fin 2, (((own_pre 2 nk0.val nk1.val nk2.val nk3.val) nk0.val) + ((fun _ => (0 : Int32)) nk0.val)).toInt = ((own_rank0 nk0.val nk1.val nk2.val nk3.val : Nat) : Int) ∧ own_rank0 nk0.val nk1.val nk2.val nk3.val < 4 := by decide +kernel
theorem own_g2_2 : ∀ nk0 nk1 nk2 nk3 : Fin 2, ∀ j : Fin 2, (up (own_nx1 nk0.val nk1.val nk2.val nk3.val) nk1.val (((own_nx1 nk0.val nk1.val nk2.val nk3.val) nk1.val) + (1 : Int32))) j.val = (own_nx2 nk0.val nk1.val nk2.val nk3.val) j.val := by decide +kernel
theorem own_pl2_1 : ∀ nk0 nk1 nk2 nk3 : Fin 2, (((own_pre 2 nk0.val nk1.val nk2.val nk3.val) nk1.val) + ((own_nx1 nk0.val nk1.val nk2.val nk3.val) nk1.val)).toInt = ((own_rank1 nk0.val nk1.val nk2.val nk3.val : Nat) : Int) ∧ own_rank1 nk0.val nk1.val nk2.val nk3.val < 4 := by decide +kernel
theorem own_g2_3 : ∀ nk0 nk1 nk2 nk3 : Fin 2, ∀ j : Fin 2, (up (own_nx2 nk0.val nk1.val nk2.val nk3.val) nk2.val (((own_nx2 nk0.val nk1.val nk2.val nk3.val) nk2.val) + (1 : Int32))) j.val = (own_nx3 nk0.val nk1.val nk2.val nk3.val) j.val := by decide +kernel
theorem own_pl2_2 : ∀ nk0 nk1 nk2 nk3 : Fin 2, (((own_pre 2 nk0.val nk1.val nk2.val nk3.val) nk2.val) + ((own_nx2 nk0.val nk1.val nk2.val nk3.val) nk2.val)).toInt = ((own_rank2 nk0.val nk1.val nk2.val nk3.val : Nat) : Int) ∧ own_rank2 nk0.val nk1.val nk2.val nk3.val < 4 := by decide +kernel
theorem own_g2_4 : ∀ nk0 nk1 nk2 nk3 : Fin 2, ∀ j : Fin 2, (up (own_nx3 nk0.val nk1.val nk2.val nk3.val) nk3.val (((own_nx3 nk0.val nk1.val nk2.val nk3.val) nk3.val) + (1 : Int32))) j.val = (own_nx4 nk0.val nk1.val nk2.val nk3.val) j.val := by decide +kernel
theorem own_pl2_3 : ∀ nk0 nk1 nk2 nk3 : Fin 2, (((own_pre 2 nk0.val nk1.val nk2.val nk3.val) nk3.val) + ((own_nx3 nk0.val nk1.val nk2.val nk3.val) nk3.val)).toInt = ((own_rank3 nk0.val nk1.val nk2.val nk3.val : Nat) : Int) ∧ own_rank3 nk0.val nk1.val nk2.val nk3.val < 4 := by decide +kernel
theorem ef1k2 (m : MethodId) (oa : Addr) (ob : Addr) (oc : Addr) : entryFrame m #[(.ref oa), (.ref ob), (.int (2 : Int32)), (.ref oc)] 9 = mkF m 0 #[.val (.ref oa), .val (.ref ob), .val (.int (2 : Int32)), .val (.ref oc), .unset, .unset, .unset, .unset, .unset] [] := by first | (simp [entryFrame, mkF, argsToLocals, Value.category]; done) | rfl
def Q1k2 (Z : State) (oa : Addr) (ob : Addr) (oc : Addr) (pa : Nat → Int32) (nk0 : Nat) (nk1 : Nat) (nk2 : Nat) (nk3 : Nat) (h0 : Heap) (n0 : Nat) (v : Option Value) (h : Heap) (L : List Loc) : Prop := ∃ oz : Addr, v = some (.ref oz) ∧ Fr n0 L ∧ Keep h0 h [oc] ∧ AI Z h oz .int 3 (own_pre 2 nk0 nk1 nk2 nk3) ∧ AI Z h oc .int 4 (up (up (up (up (fun _ => (0 : Int32)) (own_rank0 nk0 nk1 nk2 nk3) (pa 0)) (own_rank1 nk0 nk1 nk2 nk3) (pa 1)) (own_rank2 nk0 nk1 nk2 nk3) (pa 2)) (own_rank3 nk0 nk1 nk2 nk3) (pa 3)) ∧ (h0.size ≤ oz)
set_option maxRecDepth 65536 in
set_option maxHeartbeats 40000000 in
theorem rm1k2 (l : Launch) (Z : State) (a0 : Array Value) (hw : ∀ d ∈ tables_1, d.before a0 Z = true) (ws : List Jvm.Cond) (oa : Addr) (ob : Addr) (oc : Addr) (pa : Nat → Int32) (nk0 : Nat) (nk1 : Nat) (nk2 : Nat) (nk3 : Nat) (h0 : Heap) (n0 : Nat) (Z0 : n0 ≤ h0.size) (A_oa : AI Z h0 oa .int 4 pa) (A_ob : AI Z h0 ob .int 4 (own_keys nk0 nk1 nk2 nk3)) (A_oc : AI Z h0 oc .int 4 (fun _ => (0 : Int32))) (ne_oa_oc : oa ≠ oc) (ne_ob_oc : ob ≠ oc) (g_oc : n0 ≤ oc) (hnk0 : nk0 < 2) (hnk1 : nk1 < 2) (hnk2 : nk2 < 2) (hnk3 : nk3 < 2) :
    MetFree l (⟨"com/example/xml_graph_join/xmlgraphjoin/graph/CountingSort", "sort", "([I[II[I)[I"⟩ : MethodName) (head1 (Jvm.Cond.code (⟨"com/example/xml_graph_join/xmlgraphjoin/graph/CountingSort", "sort", "([I[II[I)[I"⟩ : MethodName) prog_49_method_2_code 9 (some (.array .int)) :: ws) ({ frames := 0, cells := 2, slots := 9, locals := 0 } : Room)) (fun a U => a = #[(.ref oa), (.ref ob), (.int (2 : Int32)), (.ref oc)] ∧ Z.Warmed39 U.vm ∧ U.heap = h0) (fun _ _ _ _ _ => True) (fun _ U o U' => ∃ v L, o = .returned v ∧ Q1k2 Z oa ob oc pa nk0 nk1 nk2 nk3 h0 n0 v U'.heap L ∧ FrameEnd U o U' L ({ frames := 0, cells := 2, slots := 9, locals := 0 } : Room).cells ({ frames := 0, cells := 2, slots := 9, locals := 0 } : Room).slots) := by
  refine MetFree.of_bodySF (plainFor_of_name pn_0) hisR ?_
  intro p e s m args below meth c s₁ Bd hml0 hP hK
  obtain ⟨rfl, hZ, hh⟩ := hP
  have hx := Bd.exec
  have hby := Bd.bytes
  have hml : c.maxLocals = 9 := hml0
  have hown : s.vm.findClass "com/example/xml_graph_join/xmlgraphjoin/graph/CountingSort" = some m.cls := findClass_of_methodNamed Bd.named
  have hnm := (name_of_methodNamed Bd.named Bd.method).1
  have X0 : Stand p l e ({ frames := 0, cells := 2, slots := 9, locals := 0 } : Room) s m #[(.ref oa), (.ref ob), (.int (2 : Int32)), (.ref oc)] below meth c s₁ [] 0 0 := Stand.of_body Bd
  have e0 : s₁.heap = h0 := by rw [← hh, Bd.state]; rfl
  have N0 := Fr.nil n0
  refine Goes.by (fun _ k => castTop (ef1k2 m oa ob oc) k) ?_
  show Goes p.tables e below (s₁.setTop (mkF m 0 #[.val (.ref oa), .val (.ref ob), .val (.int (2 : Int32)), .val (.ref oc), .unset, .unset, .unset, .unset, .unset] [])) _
  refine Goes.by (fun _ k => XS.iloadN X0.here hx rfl (hb hby d1_0) rfl k) ?_
  show Goes p.tables e below (s₁.setTop (mkF m 1 #[.val (.ref oa), .val (.ref ob), .val (.int (2 : Int32)), .val (.ref oc), .unset, .unset, .unset, .unset, .unset] [(.int (2 : Int32))])) _
  refine Goes.by (fun _ k => XS.iconst X0.here hx rfl (hb hby d1_1) k) ?_
  show Goes p.tables e below (s₁.setTop (mkF m 2 #[.val (.ref oa), .val (.ref ob), .val (.int (2 : Int32)), .val (.ref oc), .unset, .unset, .unset, .unset, .unset] [(.int (1 : Int32)), (.int (2 : Int32))])) _
  refine Goes.by (fun _ k => XS.iadd X0.here hx rfl (hb hby d1_2) rfl k) ?_
  show Goes p.tables e below (s₁.setTop (mkF m 3 #[.val (.ref oa), .val (.ref ob), .val (.int (2 : Int32)), .val (.ref oc), .unset, .unset, .unset, .unset, .unset] [(.int (3 : Int32))])) _
  obtain ⟨T1, h1, X1, e1, E1, A1, st1⟩ := nwA (n := 3) (cap := 3) (fr := (mkF m 3 #[.val (.ref oa), .val (.ref ob), .val (.int (2 : Int32)), .val (.ref oc), .unset, .unset, .unset, .unset, .unset] [(.int (3 : Int32))])) X0 hx hZ (hw _ (List.mem_of_getElem? (i := 0) rfl)) e0 (by decide) (by decide) (by decide) (by decide) (by decide) rfl rfl (hb hby d1_3)
  obtain ⟨b1, g1⟩ : ∃ z, z = h0.size := ⟨_, rfl⟩
  rw [← g1] at A1 st1
  have g_b1 : n0 ≤ b1 := Nat.le_trans Z0 (Nat.le_of_eq g1.symm)
  have sz_b1 : h0.size ≤ b1 := Nat.le_trans (Keep.refl h0 [oc]).1 (Nat.le_of_eq g1.symm)
  have ne_oa_b1 : oa ≠ b1 := Nat.ne_of_lt (Nat.lt_of_lt_of_le A_oa.lt (Nat.le_of_eq g1.symm))
  have ne_ob_b1 : ob ≠ b1 := Nat.ne_of_lt (Nat.lt_of_lt_of_le A_ob.lt (Nat.le_of_eq g1.symm))
  have ne_oc_b1 : oc ≠ b1 := Nat.ne_of_lt (Nat.lt_of_lt_of_le A_oc.lt (Nat.le_of_eq g1.symm))
  have Zs1 : n0 ≤ h1.size := Nat.le_trans Z0 E1.1
  have K1 : Keep h0 h1 [oc] := (Keep.refl h0 [oc]).ext E1
  refine Goes.by st1 ?_
  have A_oa : AI Z h1 oa .int 4 pa := A_oa.ext E1
  have A_ob : AI Z h1 ob .int 4 (own_keys nk0 nk1 nk2 nk3) := A_ob.ext E1
  have A_oc : AI Z h1 oc .int 4 (fun _ => (0 : Int32)) := A_oc.ext E1
  have A_b1 : AI Z h1 b1 .int 3 (fun _ => (0 : Int32)) := A1
  show Goes p.tables e below (T1.setTop (mkF m 5 #[.val (.ref oa), .val (.ref ob), .val (.int (2 : Int32)), .val (.ref oc), .unset, .unset, .unset, .unset, .unset] [(.ref b1)])) _
  refine Goes.by (fun _ k => XS.astore X1.here hx rfl (hb hby d1_5) rfl rfl (l' := #[.val (.ref oa), .val (.ref ob), .val (.int (2 : Int32)), .val (.ref oc), .val (.ref b1), .unset, .unset, .unset, .unset]) rfl k) ?_
  show Goes p.tables e below (T1.setTop (mkF m 7 #[.val (.ref oa), .val (.ref ob), .val (.int (2 : Int32)), .val (.ref oc), .val (.ref b1), .unset, .unset, .unset, .unset] [])) _
  refine Goes.by (fun _ k => XS.aloadN X1.here hx rfl (hb hby d1_7) rfl rfl k) ?_
  show Goes p.tables e below (T1.setTop (mkF m 8 #[.val (.ref oa), .val (.ref ob), .val (.int (2 : Int32)), .val (.ref oc), .val (.ref b1), .unset, .unset, .unset, .unset] [(.ref ob)])) _
  refine Goes.by (fun _ k => XS.astore X1.here hx rfl (hb hby d1_8) rfl rfl (l' := #[.val (.ref oa), .val (.ref ob), .val (.int (2 : Int32)), .val (.ref oc), .val (.ref b1), .val (.ref ob), .unset, .unset, .unset]) rfl k) ?_
  show Goes p.tables e below (T1.setTop (mkF m 10 #[.val (.ref oa), .val (.ref ob), .val (.int (2 : Int32)), .val (.ref oc), .val (.ref b1), .val (.ref ob), .unset, .unset, .unset] [])) _
  refine Goes.by (fun _ k => XS.aload X1.here hx rfl (hb hby d1_10) rfl rfl k) ?_
  show Goes p.tables e below (T1.setTop (mkF m 12 #[.val (.ref oa), .val (.ref ob), .val (.int (2 : Int32)), .val (.ref oc), .val (.ref b1), .val (.ref ob), .unset, .unset, .unset] [(.ref ob)])) _
  refine Goes.by (fun _ k => alen (z := (4 : Int32)) (fr := (mkF m 12 #[.val (.ref oa), .val (.ref ob), .val (.int (2 : Int32)), .val (.ref oc), .val (.ref b1), .val (.ref ob), .unset, .unset, .unset] [(.ref ob)])) X1 hx hZ e1 A_ob (by decide) rfl rfl (hb hby d1_12) k) ?_
  show Goes p.tables e below (T1.setTop (mkF m 13 #[.val (.ref oa), .val (.ref ob), .val (.int (2 : Int32)), .val (.ref oc), .val (.ref b1), .val (.ref ob), .unset, .unset, .unset] [(.int (4 : Int32))])) _
  refine Goes.by (fun _ k => XS.istore X1.here hx rfl (hb hby d1_13) rfl (l' := #[.val (.ref oa), .val (.ref ob), .val (.int (2 : Int32)), .val (.ref oc), .val (.ref b1), .val (.ref ob), .val (.int (4 : Int32)), .unset, .unset]) rfl k) ?_
  show Goes p.tables e below (T1.setTop (mkF m 15 #[.val (.ref oa), .val (.ref ob), .val (.int (2 : Int32)), .val (.ref oc), .val (.ref b1), .val (.ref ob), .val (.int (4 : Int32)), .unset, .unset] [])) _
  refine Goes.by (fun _ k => XS.iconst X1.here hx rfl (hb hby d1_15) k) ?_
  show Goes p.tables e below (T1.setTop (mkF m 16 #[.val (.ref oa), .val (.ref ob), .val (.int (2 : Int32)), .val (.ref oc), .val (.ref b1), .val (.ref ob), .val (.int (4 : Int32)), .unset, .unset] [(.int (0 : Int32))])) _
  refine Goes.by (fun _ k => XS.istore X1.here hx rfl (hb hby d1_16) rfl (l' := #[.val (.ref oa), .val (.ref ob), .val (.int (2 : Int32)), .val (.ref oc), .val (.ref b1), .val (.ref ob), .val (.int (4 : Int32)), .val (.int (0 : Int32)), .unset]) rfl k) ?_
  show Goes p.tables e below (T1.setTop (mkF m 18 #[.val (.ref oa), .val (.ref ob), .val (.int (2 : Int32)), .val (.ref oc), .val (.ref b1), .val (.ref ob), .val (.int (4 : Int32)), .val (.int (0 : Int32)), .unset] [])) _
  refine Goes.by (fun _ k => XS.iload X1.here hx rfl (hb hby d1_18) rfl k) ?_
  show Goes p.tables e below (T1.setTop (mkF m 20 #[.val (.ref oa), .val (.ref ob), .val (.int (2 : Int32)), .val (.ref oc), .val (.ref b1), .val (.ref ob), .val (.int (4 : Int32)), .val (.int (0 : Int32)), .unset] [(.int (0 : Int32))])) _
  refine Goes.by (fun _ k => XS.iload X1.here hx rfl (hb hby d1_20) rfl k) ?_
  show Goes p.tables e below (T1.setTop (mkF m 22 #[.val (.ref oa), .val (.ref ob), .val (.int (2 : Int32)), .val (.ref oc), .val (.ref b1), .val (.ref ob), .val (.int (4 : Int32)), .val (.int (0 : Int32)), .unset] [(.int (4 : Int32)), (.int (0 : Int32))])) _
  refine Goes.by (fun _ k => XS.icmpNo X1.here hx rfl (hb hby d1_22) rfl (tlt (by decide : (0 : Int32) < (4 : Int32))).2.1 k) ?_
  show Goes p.tables e below (T1.setTop (mkF m 25 #[.val (.ref oa), .val (.ref ob), .val (.int (2 : Int32)), .val (.ref oc), .val (.ref b1), .val (.ref ob), .val (.int (4 : Int32)), .val (.int (0 : Int32)), .unset] [])) _
  refine Goes.by (fun _ k => XS.aload X1.here hx rfl (hb hby d1_25) rfl rfl k) ?_
  show Goes p.tables e below (T1.setTop (mkF m 27 #[.val (.ref oa), .val (.ref ob), .val (.int (2 : Int32)), .val (.ref oc), .val (.ref b1), .val (.ref ob), .val (.int (4 : Int32)), .val (.int (0 : Int32)), .unset] [(.ref ob)])) _
  refine Goes.by (fun _ k => XS.iload X1.here hx rfl (hb hby d1_27) rfl k) ?_
  show Goes p.tables e below (T1.setTop (mkF m 29 #[.val (.ref oa), .val (.ref ob), .val (.int (2 : Int32)), .val (.ref oc), .val (.ref b1), .val (.ref ob), .val (.int (4 : Int32)), .val (.int (0 : Int32)), .unset] [(.int (0 : Int32)), (.ref ob)])) _
  refine Goes.by (fun _ k => ldI (v := (Int32.ofNat nk0)) (fr := (mkF m 29 #[.val (.ref oa), .val (.ref ob), .val (.int (2 : Int32)), .val (.ref oc), .val (.ref b1), .val (.ref ob), .val (.int (4 : Int32)), .val (.int (0 : Int32)), .unset] [(.int (0 : Int32)), (.ref ob)])) X1 hx hZ e1 A_ob (i := 0) (by decide) (by decide) rfl rfl rfl (hb hby d1_29) k) ?_
  show Goes p.tables e below (T1.setTop (mkF m 30 #[.val (.ref oa), .val (.ref ob), .val (.int (2 : Int32)), .val (.ref oc), .val (.ref b1), .val (.ref ob), .val (.int (4 : Int32)), .val (.int (0 : Int32)), .unset] [(.int (Int32.ofNat nk0))])) _
  refine Goes.by (fun _ k => XS.istore X1.here hx rfl (hb hby d1_30) rfl (l' := #[.val (.ref oa), .val (.ref ob), .val (.int (2 : Int32)), .val (.ref oc), .val (.ref b1), .val (.ref ob), .val (.int (4 : Int32)), .val (.int (0 : Int32)), .val (.int (Int32.ofNat nk0))]) rfl k) ?_
  show Goes p.tables e below (T1.setTop (mkF m 32 #[.val (.ref oa), .val (.ref ob), .val (.int (2 : Int32)), .val (.ref oc), .val (.ref b1), .val (.ref ob), .val (.int (4 : Int32)), .val (.int (0 : Int32)), .val (.int (Int32.ofNat nk0))] [])) _
  refine Goes.by (fun _ k => XS.aload X1.here hx rfl (hb hby d1_32) rfl rfl k) ?_
  show Goes p.tables e below (T1.setTop (mkF m 34 #[.val (.ref oa), .val (.ref ob), .val (.int (2 : Int32)), .val (.ref oc), .val (.ref b1), .val (.ref ob), .val (.int (4 : Int32)), .val (.int (0 : Int32)), .val (.int (Int32.ofNat nk0))] [(.ref b1)])) _
  refine Goes.by (fun _ k => XS.iload X1.here hx rfl (hb hby d1_34) rfl k) ?_
  show Goes p.tables e below (T1.setTop (mkF m 36 #[.val (.ref oa), .val (.ref ob), .val (.int (2 : Int32)), .val (.ref oc), .val (.ref b1), .val (.ref ob), .val (.int (4 : Int32)), .val (.int (0 : Int32)), .val (.int (Int32.ofNat nk0))] [(.int (Int32.ofNat nk0)), (.ref b1)])) _
  refine Goes.by (fun _ k => XS.iconst X1.here hx rfl (hb hby d1_36) k) ?_
  show Goes p.tables e below (T1.setTop (mkF m 37 #[.val (.ref oa), .val (.ref ob), .val (.int (2 : Int32)), .val (.ref oc), .val (.ref b1), .val (.ref ob), .val (.int (4 : Int32)), .val (.int (0 : Int32)), .val (.int (Int32.ofNat nk0))] [(.int (1 : Int32)), (.int (Int32.ofNat nk0)), (.ref b1)])) _
  refine Goes.by (fun _ k => XS.iadd X1.here hx rfl (hb hby d1_37) rfl k) ?_
  show Goes p.tables e below (T1.setTop (mkF m 38 #[.val (.ref oa), .val (.ref ob), .val (.int (2 : Int32)), .val (.ref oc), .val (.ref b1), .val (.ref ob), .val (.int (4 : Int32)), .val (.int (0 : Int32)), .val (.int (Int32.ofNat nk0))] [(.int ((Int32.ofNat nk0) + (1 : Int32))), (.ref b1)])) _
  have sd2 : ∀ u, Steps p.tables e below (T1.setTop (mkF m 39 #[.val (.ref oa), .val (.ref ob), .val (.int (2 : Int32)), .val (.ref oc), .val (.ref b1), .val (.ref ob), .val (.int (4 : Int32)), .val (.int (0 : Int32)), .val (.int (Int32.ofNat nk0))] [(.int ((Int32.ofNat nk0) + (1 : Int32))), (.ref b1), (.int ((Int32.ofNat nk0) + (1 : Int32))), (.ref b1)])) u → Steps p.tables e below (T1.setTop (mkF m 38 #[.val (.ref oa), .val (.ref ob), .val (.int (2 : Int32)), .val (.ref oc), .val (.ref b1), .val (.ref ob), .val (.int (4 : Int32)), .val (.int (0 : Int32)), .val (.int (Int32.ofNat nk0))] [(.int ((Int32.ofNat nk0) + (1 : Int32))), (.ref b1)])) u := by
    intro u k
    jvm_step X1.here [X1.here.top, hx, (hb hby d1_38), Value.category]
    exact k
  refine Goes.by (fun _ k => sd2 _ k) ?_
  show Goes p.tables e below (T1.setTop (mkF m 39 #[.val (.ref oa), .val (.ref ob), .val (.int (2 : Int32)), .val (.ref oc), .val (.ref b1), .val (.ref ob), .val (.int (4 : Int32)), .val (.int (0 : Int32)), .val (.int (Int32.ofNat nk0))] [(.int ((Int32.ofNat nk0) + (1 : Int32))), (.ref b1), (.int ((Int32.ofNat nk0) + (1 : Int32))), (.ref b1)])) _
  refine Goes.by (fun _ k => ldI (v := ((fun _ => (0 : Int32)) (nk0 + 1))) (fr := (mkF m 39 #[.val (.ref oa), .val (.ref ob), .val (.int (2 : Int32)), .val (.ref oc), .val (.ref b1), .val (.ref ob), .val (.int (4 : Int32)), .val (.int (0 : Int32)), .val (.int (Int32.ofNat nk0))] [(.int ((Int32.ofNat nk0) + (1 : Int32))), (.ref b1), (.int ((Int32.ofNat nk0) + (1 : Int32))), (.ref b1)])) X1 hx hZ e1 A_b1 (i := (nk0 + 1)) (own_i1 nk0 (Nat.lt_trans hnk0 (by decide))) (Nat.succ_lt_succ hnk0) rfl rfl rfl (hb hby d1_39) k) ?_
  show Goes p.tables e below (T1.setTop (mkF m 40 #[.val (.ref oa), .val (.ref ob), .val (.int (2 : Int32)), .val (.ref oc), .val (.ref b1), .val (.ref ob), .val (.int (4 : Int32)), .val (.int (0 : Int32)), .val (.int (Int32.ofNat nk0))] [(.int ((fun _ => (0 : Int32)) (nk0 + 1))), (.int ((Int32.ofNat nk0) + (1 : Int32))), (.ref b1)])) _
  refine Goes.by (fun _ k => XS.iconst X1.here hx rfl (hb hby d1_40) k) ?_
  show Goes p.tables e below (T1.setTop (mkF m 41 #[.val (.ref oa), .val (.ref ob), .val (.int (2 : Int32)), .val (.ref oc), .val (.ref b1), .val (.ref ob), .val (.int (4 : Int32)), .val (.int (0 : Int32)), .val (.int (Int32.ofNat nk0))] [(.int (1 : Int32)), (.int ((fun _ => (0 : Int32)) (nk0 + 1))), (.int ((Int32.ofNat nk0) + (1 : Int32))), (.ref b1)])) _
  refine Goes.by (fun _ k => XS.iadd X1.here hx rfl (hb hby d1_41) rfl k) ?_
  show Goes p.tables e below (T1.setTop (mkF m 42 #[.val (.ref oa), .val (.ref ob), .val (.int (2 : Int32)), .val (.ref oc), .val (.ref b1), .val (.ref ob), .val (.int (4 : Int32)), .val (.int (0 : Int32)), .val (.int (Int32.ofNat nk0))] [(.int (((fun _ => (0 : Int32)) (nk0 + 1)) + (1 : Int32))), (.int ((Int32.ofNat nk0) + (1 : Int32))), (.ref b1)])) _
  obtain ⟨T3, h3, X3, e3, W3, A3, st3⟩ := stAI (fr := (mkF m 42 #[.val (.ref oa), .val (.ref ob), .val (.int (2 : Int32)), .val (.ref oc), .val (.ref b1), .val (.ref ob), .val (.int (4 : Int32)), .val (.int (0 : Int32)), .val (.int (Int32.ofNat nk0))] [(.int (((fun _ => (0 : Int32)) (nk0 + 1)) + (1 : Int32))), (.int ((Int32.ofNat nk0) + (1 : Int32))), (.ref b1)])) X1 hx hZ e1 A_b1 (i := (nk0 + 1)) (own_i1 nk0 (Nat.lt_trans hnk0 (by decide))) (Nat.succ_lt_succ hnk0) rfl rfl (hb hby d1_42)
  refine Goes.by st3 ?_
  have A_b1 : AI Z h3 b1 .int 3 (own_cnt1 nk0 nk1 nk2 nk3) := A3.congr (fun j hj => own_f2_1 ⟨nk0, hnk0⟩ ⟨nk1, hnk1⟩ ⟨nk2, hnk2⟩ ⟨nk3, hnk3⟩ ⟨j, hj⟩)
  have N3 := Fr.snoc X3 N0 g_b1
  have Zs3 : n0 ≤ h3.size := Nat.le_trans Zs1 (Keep.of_wr W3).1
  have K3 : Keep h0 h3 [oc] := K1.wr W3 (Or.inr sz_b1)
  have A_oa : AI Z h3 oa .int 4 pa := A_oa.other W3 ne_oa_b1
  have A_ob : AI Z h3 ob .int 4 (own_keys nk0 nk1 nk2 nk3) := A_ob.other W3 ne_ob_b1
  have A_oc : AI Z h3 oc .int 4 (fun _ => (0 : Int32)) := A_oc.other W3 ne_oc_b1
  show Goes p.tables e below (T3.setTop (mkF m 43 #[.val (.ref oa), .val (.ref ob), .val (.int (2 : Int32)), .val (.ref oc), .val (.ref b1), .val (.ref ob), .val (.int (4 : Int32)), .val (.int (0 : Int32)), .val (.int (Int32.ofNat nk0))] [])) _
  refine Goes.by (fun _ k => XS.iinc X3.here hx rfl (hb hby d1_43) rfl (l' := #[.val (.ref oa), .val (.ref ob), .val (.int (2 : Int32)), .val (.ref oc), .val (.ref b1), .val (.ref ob), .val (.int (4 : Int32)), .val (.int (1 : Int32)), .val (.int (Int32.ofNat nk0))]) rfl k) ?_
  show Goes p.tables e below (T3.setTop (mkF m 46 #[.val (.ref oa), .val (.ref ob), .val (.int (2 : Int32)), .val (.ref oc), .val (.ref b1), .val (.ref ob), .val (.int (4 : Int32)), .val (.int (1 : Int32)), .val (.int (Int32.ofNat nk0))] [])) _
  refine Goes.by (fun _ k => XS.goto X3.here hx rfl (pc0 := 46) (pc' := 18) rfl (hb hby d1_46) (by decide) (by decide) k) ?_
  show Goes p.tables e below (T3.setTop (mkF m 18 #[.val (.ref oa), .val (.ref ob), .val (.int (2 : Int32)), .val (.ref oc), .val (.ref b1), .val (.ref ob), .val (.int (4 : Int32)), .val (.int (1 : Int32)), .val (.int (Int32.ofNat nk0))] [])) _
  refine Goes.by (fun _ k => XS.iload X3.here hx rfl (hb hby d1_18) rfl k) ?_
  show Goes p.tables e below (T3.setTop (mkF m 20 #[.val (.ref oa), .val (.ref ob), .val (.int (2 : Int32)), .val (.ref oc), .val (.ref b1), .val (.ref ob), .val (.int (4 : Int32)), .val (.int (1 : Int32)), .val (.int (Int32.ofNat nk0))] [(.int (1 : Int32))])) _
  refine Goes.by (fun _ k => XS.iload X3.here hx rfl (hb hby d1_20) rfl k) ?_
  show Goes p.tables e below (T3.setTop (mkF m 22 #[.val (.ref oa), .val (.ref ob), .val (.int (2 : Int32)), .val (.ref oc), .val (.ref b1), .val (.ref ob), .val (.int (4 : Int32)), .val (.int (1 : Int32)), .val (.int (Int32.ofNat nk0))] [(.int (4 : Int32)), (.int (1 : Int32))])) _
  refine Goes.by (fun _ k => XS.icmpNo X3.here hx rfl (hb hby d1_22) rfl (tlt (by decide : (1 : Int32) < (4 : Int32))).2.1 k) ?_
  show Goes p.tables e below (T3.setTop (mkF m 25 #[.val (.ref oa), .val (.ref ob), .val (.int (2 : Int32)), .val (.ref oc), .val (.ref b1), .val (.ref ob), .val (.int (4 : Int32)), .val (.int (1 : Int32)), .val (.int (Int32.ofNat nk0))] [])) _
  refine Goes.by (fun _ k => XS.aload X3.here hx rfl (hb hby d1_25) rfl rfl k) ?_
  show Goes p.tables e below (T3.setTop (mkF m 27 #[.val (.ref oa), .val (.ref ob), .val (.int (2 : Int32)), .val (.ref oc), .val (.ref b1), .val (.ref ob), .val (.int (4 : Int32)), .val (.int (1 : Int32)), .val (.int (Int32.ofNat nk0))] [(.ref ob)])) _
  refine Goes.by (fun _ k => XS.iload X3.here hx rfl (hb hby d1_27) rfl k) ?_
  show Goes p.tables e below (T3.setTop (mkF m 29 #[.val (.ref oa), .val (.ref ob), .val (.int (2 : Int32)), .val (.ref oc), .val (.ref b1), .val (.ref ob), .val (.int (4 : Int32)), .val (.int (1 : Int32)), .val (.int (Int32.ofNat nk0))] [(.int (1 : Int32)), (.ref ob)])) _
  refine Goes.by (fun _ k => ldI (v := (Int32.ofNat nk1)) (fr := (mkF m 29 #[.val (.ref oa), .val (.ref ob), .val (.int (2 : Int32)), .val (.ref oc), .val (.ref b1), .val (.ref ob), .val (.int (4 : Int32)), .val (.int (1 : Int32)), .val (.int (Int32.ofNat nk0))] [(.int (1 : Int32)), (.ref ob)])) X3 hx hZ e3 A_ob (i := 1) (by decide) (by decide) rfl rfl rfl (hb hby d1_29) k) ?_
  show Goes p.tables e below (T3.setTop (mkF m 30 #[.val (.ref oa), .val (.ref ob), .val (.int (2 : Int32)), .val (.ref oc), .val (.ref b1), .val (.ref ob), .val (.int (4 : Int32)), .val (.int (1 : Int32)), .val (.int (Int32.ofNat nk0))] [(.int (Int32.ofNat nk1))])) _
  refine Goes.by (fun _ k => XS.istore X3.here hx rfl (hb hby d1_30) rfl (l' := #[.val (.ref oa), .val (.ref ob), .val (.int (2 : Int32)), .val (.ref oc), .val (.ref b1), .val (.ref ob), .val (.int (4 : Int32)), .val (.int (1 : Int32)), .val (.int (Int32.ofNat nk1))]) rfl k) ?_
  show Goes p.tables e below (T3.setTop (mkF m 32 #[.val (.ref oa), .val (.ref ob), .val (.int (2 : Int32)), .val (.ref oc), .val (.ref b1), .val (.ref ob), .val (.int (4 : Int32)), .val (.int (1 : Int32)), .val (.int (Int32.ofNat nk1))] [])) _
  refine Goes.by (fun _ k => XS.aload X3.here hx rfl (hb hby d1_32) rfl rfl k) ?_
  show Goes p.tables e below (T3.setTop (mkF m 34 #[.val (.ref oa), .val (.ref ob), .val (.int (2 : Int32)), .val (.ref oc), .val (.ref b1), .val (.ref ob), .val (.int (4 : Int32)), .val (.int (1 : Int32)), .val (.int (Int32.ofNat nk1))] [(.ref b1)])) _
  refine Goes.by (fun _ k => XS.iload X3.here hx rfl (hb hby d1_34) rfl k) ?_
  show Goes p.tables e below (T3.setTop (mkF m 36 #[.val (.ref oa), .val (.ref ob), .val (.int (2 : Int32)), .val (.ref oc), .val (.ref b1), .val (.ref ob), .val (.int (4 : Int32)), .val (.int (1 : Int32)), .val (.int (Int32.ofNat nk1))] [(.int (Int32.ofNat nk1)), (.ref b1)])) _
  refine Goes.by (fun _ k => XS.iconst X3.here hx rfl (hb hby d1_36) k) ?_
  show Goes p.tables e below (T3.setTop (mkF m 37 #[.val (.ref oa), .val (.ref ob), .val (.int (2 : Int32)), .val (.ref oc), .val (.ref b1), .val (.ref ob), .val (.int (4 : Int32)), .val (.int (1 : Int32)), .val (.int (Int32.ofNat nk1))] [(.int (1 : Int32)), (.int (Int32.ofNat nk1)), (.ref b1)])) _
  refine Goes.by (fun _ k => XS.iadd X3.here hx rfl (hb hby d1_37) rfl k) ?_
  show Goes p.tables e below (T3.setTop (mkF m 38 #[.val (.ref oa), .val (.ref ob), .val (.int (2 : Int32)), .val (.ref oc), .val (.ref b1), .val (.ref ob), .val (.int (4 : Int32)), .val (.int (1 : Int32)), .val (.int (Int32.ofNat nk1))] [(.int ((Int32.ofNat nk1) + (1 : Int32))), (.ref b1)])) _
  have sd4 : ∀ u, Steps p.tables e below (T3.setTop (mkF m 39 #[.val (.ref oa), .val (.ref ob), .val (.int (2 : Int32)), .val (.ref oc), .val (.ref b1), .val (.ref ob), .val (.int (4 : Int32)), .val (.int (1 : Int32)), .val (.int (Int32.ofNat nk1))] [(.int ((Int32.ofNat nk1) + (1 : Int32))), (.ref b1), (.int ((Int32.ofNat nk1) + (1 : Int32))), (.ref b1)])) u → Steps p.tables e below (T3.setTop (mkF m 38 #[.val (.ref oa), .val (.ref ob), .val (.int (2 : Int32)), .val (.ref oc), .val (.ref b1), .val (.ref ob), .val (.int (4 : Int32)), .val (.int (1 : Int32)), .val (.int (Int32.ofNat nk1))] [(.int ((Int32.ofNat nk1) + (1 : Int32))), (.ref b1)])) u := by
    intro u k
    jvm_step X3.here [X3.here.top, hx, (hb hby d1_38), Value.category]
    exact k
  refine Goes.by (fun _ k => sd4 _ k) ?_
  show Goes p.tables e below (T3.setTop (mkF m 39 #[.val (.ref oa), .val (.ref ob), .val (.int (2 : Int32)), .val (.ref oc), .val (.ref b1), .val (.ref ob), .val (.int (4 : Int32)), .val (.int (1 : Int32)), .val (.int (Int32.ofNat nk1))] [(.int ((Int32.ofNat nk1) + (1 : Int32))), (.ref b1), (.int ((Int32.ofNat nk1) + (1 : Int32))), (.ref b1)])) _
  refine Goes.by (fun _ k => ldI (v := ((own_cnt1 nk0 nk1 nk2 nk3) (nk1 + 1))) (fr := (mkF m 39 #[.val (.ref oa), .val (.ref ob), .val (.int (2 : Int32)), .val (.ref oc), .val (.ref b1), .val (.ref ob), .val (.int (4 : Int32)), .val (.int (1 : Int32)), .val (.int (Int32.ofNat nk1))] [(.int ((Int32.ofNat nk1) + (1 : Int32))), (.ref b1), (.int ((Int32.ofNat nk1) + (1 : Int32))), (.ref b1)])) X3 hx hZ e3 A_b1 (i := (nk1 + 1)) (own_i1 nk1 (Nat.lt_trans hnk1 (by decide))) (Nat.succ_lt_succ hnk1) rfl rfl rfl (hb hby d1_39) k) ?_
  show Goes p.tables e below (T3.setTop (mkF m 40 #[.val (.ref oa), .val (.ref ob), .val (.int (2 : Int32)), .val (.ref oc), .val (.ref b1), .val (.ref ob), .val (.int (4 : Int32)), .val (.int (1 : Int32)), .val (.int (Int32.ofNat nk1))] [(.int ((own_cnt1 nk0 nk1 nk2 nk3) (nk1 + 1))), (.int ((Int32.ofNat nk1) + (1 : Int32))), (.ref b1)])) _
  refine Goes.by (fun _ k => XS.iconst X3.here hx rfl (hb hby d1_40) k) ?_
  show Goes p.tables e below (T3.setTop (mkF m 41 #[.val (.ref oa), .val (.ref ob), .val (.int (2 : Int32)), .val (.ref oc), .val (.ref b1), .val (.ref ob), .val (.int (4 : Int32)), .val (.int (1 : Int32)), .val (.int (Int32.ofNat nk1))] [(.int (1 : Int32)), (.int ((own_cnt1 nk0 nk1 nk2 nk3) (nk1 + 1))), (.int ((Int32.ofNat nk1) + (1 : Int32))), (.ref b1)])) _
  refine Goes.by (fun _ k => XS.iadd X3.here hx rfl (hb hby d1_41) rfl k) ?_
  show Goes p.tables e below (T3.setTop (mkF m 42 #[.val (.ref oa), .val (.ref ob), .val (.int (2 : Int32)), .val (.ref oc), .val (.ref b1), .val (.ref ob), .val (.int (4 : Int32)), .val (.int (1 : Int32)), .val (.int (Int32.ofNat nk1))] [(.int (((own_cnt1 nk0 nk1 nk2 nk3) (nk1 + 1)) + (1 : Int32))), (.int ((Int32.ofNat nk1) + (1 : Int32))), (.ref b1)])) _
  obtain ⟨T5, h5, X5, e5, W5, A5, st5⟩ := stAI (fr := (mkF m 42 #[.val (.ref oa), .val (.ref ob), .val (.int (2 : Int32)), .val (.ref oc), .val (.ref b1), .val (.ref ob), .val (.int (4 : Int32)), .val (.int (1 : Int32)), .val (.int (Int32.ofNat nk1))] [(.int (((own_cnt1 nk0 nk1 nk2 nk3) (nk1 + 1)) + (1 : Int32))), (.int ((Int32.ofNat nk1) + (1 : Int32))), (.ref b1)])) X3 hx hZ e3 A_b1 (i := (nk1 + 1)) (own_i1 nk1 (Nat.lt_trans hnk1 (by decide))) (Nat.succ_lt_succ hnk1) rfl rfl (hb hby d1_42)
  refine Goes.by st5 ?_
  have A_b1 : AI Z h5 b1 .int 3 (own_cnt2 nk0 nk1 nk2 nk3) := A5.congr (fun j hj => own_f2_2 ⟨nk0, hnk0⟩ ⟨nk1, hnk1⟩ ⟨nk2, hnk2⟩ ⟨nk3, hnk3⟩ ⟨j, hj⟩)
  have N5 := Fr.snoc X5 N3 g_b1
  have Zs5 : n0 ≤ h5.size := Nat.le_trans Zs3 (Keep.of_wr W5).1
  have K5 : Keep h0 h5 [oc] := K3.wr W5 (Or.inr sz_b1)
  have A_oa : AI Z h5 oa .int 4 pa := A_oa.other W5 ne_oa_b1
  have A_ob : AI Z h5 ob .int 4 (own_keys nk0 nk1 nk2 nk3) := A_ob.other W5 ne_ob_b1
  have A_oc : AI Z h5 oc .int 4 (fun _ => (0 : Int32)) := A_oc.other W5 ne_oc_b1
  show Goes p.tables e below (T5.setTop (mkF m 43 #[.val (.ref oa), .val (.ref ob), .val (.int (2 : Int32)), .val (.ref oc), .val (.ref b1), .val (.ref ob), .val (.int (4 : Int32)), .val (.int (1 : Int32)), .val (.int (Int32.ofNat nk1))] [])) _
  refine Goes.by (fun _ k => XS.iinc X5.here hx rfl (hb hby d1_43) rfl (l' := #[.val (.ref oa), .val (.ref ob), .val (.int (2 : Int32)), .val (.ref oc), .val (.ref b1), .val (.ref ob), .val (.int (4 : Int32)), .val (.int (2 : Int32)), .val (.int (Int32.ofNat nk1))]) rfl k) ?_
  show Goes p.tables e below (T5.setTop (mkF m 46 #[.val (.ref oa), .val (.ref ob), .val (.int (2 : Int32)), .val (.ref oc), .val (.ref b1), .val (.ref ob), .val (.int (4 : Int32)), .val (.int (2 : Int32)), .val (.int (Int32.ofNat nk1))] [])) _
  refine Goes.by (fun _ k => XS.goto X5.here hx rfl (pc0 := 46) (pc' := 18) rfl (hb hby d1_46) (by decide) (by decide) k) ?_
  show Goes p.tables e below (T5.setTop (mkF m 18 #[.val (.ref oa), .val (.ref ob), .val (.int (2 : Int32)), .val (.ref oc), .val (.ref b1), .val (.ref ob), .val (.int (4 : Int32)), .val (.int (2 : Int32)), .val (.int (Int32.ofNat nk1))] [])) _
  refine Goes.by (fun _ k => XS.iload X5.here hx rfl (hb hby d1_18) rfl k) ?_
  show Goes p.tables e below (T5.setTop (mkF m 20 #[.val (.ref oa), .val (.ref ob), .val (.int (2 : Int32)), .val (.ref oc), .val (.ref b1), .val (.ref ob), .val (.int (4 : Int32)), .val (.int (2 : Int32)), .val (.int (Int32.ofNat nk1))] [(.int (2 : Int32))])) _
  refine Goes.by (fun _ k => XS.iload X5.here hx rfl (hb hby d1_20) rfl k) ?_
  show Goes p.tables e below (T5.setTop (mkF m 22 #[.val (.ref oa), .val (.ref ob), .val (.int (2 : Int32)), .val (.ref oc), .val (.ref b1), .val (.ref ob), .val (.int (4 : Int32)), .val (.int (2 : Int32)), .val (.int (Int32.ofNat nk1))] [(.int (4 : Int32)), (.int (2 : Int32))])) _
  refine Goes.by (fun _ k => XS.icmpNo X5.here hx rfl (hb hby d1_22) rfl (tlt (by decide : (2 : Int32) < (4 : Int32))).2.1 k) ?_
  show Goes p.tables e below (T5.setTop (mkF m 25 #[.val (.ref oa), .val (.ref ob), .val (.int (2 : Int32)), .val (.ref oc), .val (.ref b1), .val (.ref ob), .val (.int (4 : Int32)), .val (.int (2 : Int32)), .val (.int (Int32.ofNat nk1))] [])) _
  refine Goes.by (fun _ k => XS.aload X5.here hx rfl (hb hby d1_25) rfl rfl k) ?_
  show Goes p.tables e below (T5.setTop (mkF m 27 #[.val (.ref oa), .val (.ref ob), .val (.int (2 : Int32)), .val (.ref oc), .val (.ref b1), .val (.ref ob), .val (.int (4 : Int32)), .val (.int (2 : Int32)), .val (.int (Int32.ofNat nk1))] [(.ref ob)])) _
  refine Goes.by (fun _ k => XS.iload X5.here hx rfl (hb hby d1_27) rfl k) ?_
  show Goes p.tables e below (T5.setTop (mkF m 29 #[.val (.ref oa), .val (.ref ob), .val (.int (2 : Int32)), .val (.ref oc), .val (.ref b1), .val (.ref ob), .val (.int (4 : Int32)), .val (.int (2 : Int32)), .val (.int (Int32.ofNat nk1))] [(.int (2 : Int32)), (.ref ob)])) _
  refine Goes.by (fun _ k => ldI (v := (Int32.ofNat nk2)) (fr := (mkF m 29 #[.val (.ref oa), .val (.ref ob), .val (.int (2 : Int32)), .val (.ref oc), .val (.ref b1), .val (.ref ob), .val (.int (4 : Int32)), .val (.int (2 : Int32)), .val (.int (Int32.ofNat nk1))] [(.int (2 : Int32)), (.ref ob)])) X5 hx hZ e5 A_ob (i := 2) (by decide) (by decide) rfl rfl rfl (hb hby d1_29) k) ?_
  show Goes p.tables e below (T5.setTop (mkF m 30 #[.val (.ref oa), .val (.ref ob), .val (.int (2 : Int32)), .val (.ref oc), .val (.ref b1), .val (.ref ob), .val (.int (4 : Int32)), .val (.int (2 : Int32)), .val (.int (Int32.ofNat nk1))] [(.int (Int32.ofNat nk2))])) _
  refine Goes.by (fun _ k => XS.istore X5.here hx rfl (hb hby d1_30) rfl (l' := #[.val (.ref oa), .val (.ref ob), .val (.int (2 : Int32)), .val (.ref oc), .val (.ref b1), .val (.ref ob), .val (.int (4 : Int32)), .val (.int (2 : Int32)), .val (.int (Int32.ofNat nk2))]) rfl k) ?_
  show Goes p.tables e below (T5.setTop (mkF m 32 #[.val (.ref oa), .val (.ref ob), .val (.int (2 : Int32)), .val (.ref oc), .val (.ref b1), .val (.ref ob), .val (.int (4 : Int32)), .val (.int (2 : Int32)), .val (.int (Int32.ofNat nk2))] [])) _
  refine Goes.by (fun _ k => XS.aload X5.here hx rfl (hb hby d1_32) rfl rfl k) ?_
  show Goes p.tables e below (T5.setTop (mkF m 34 #[.val (.ref oa), .val (.ref ob), .val (.int (2 : Int32)), .val (.ref oc), .val (.ref b1), .val (.ref ob), .val (.int (4 : Int32)), .val (.int (2 : Int32)), .val (.int (Int32.ofNat nk2))] [(.ref b1)])) _
  refine Goes.by (fun _ k => XS.iload X5.here hx rfl (hb hby d1_34) rfl k) ?_
  show Goes p.tables e below (T5.setTop (mkF m 36 #[.val (.ref oa), .val (.ref ob), .val (.int (2 : Int32)), .val (.ref oc), .val (.ref b1), .val (.ref ob), .val (.int (4 : Int32)), .val (.int (2 : Int32)), .val (.int (Int32.ofNat nk2))] [(.int (Int32.ofNat nk2)), (.ref b1)])) _
  refine Goes.by (fun _ k => XS.iconst X5.here hx rfl (hb hby d1_36) k) ?_
  show Goes p.tables e below (T5.setTop (mkF m 37 #[.val (.ref oa), .val (.ref ob), .val (.int (2 : Int32)), .val (.ref oc), .val (.ref b1), .val (.ref ob), .val (.int (4 : Int32)), .val (.int (2 : Int32)), .val (.int (Int32.ofNat nk2))] [(.int (1 : Int32)), (.int (Int32.ofNat nk2)), (.ref b1)])) _
  refine Goes.by (fun _ k => XS.iadd X5.here hx rfl (hb hby d1_37) rfl k) ?_
  show Goes p.tables e below (T5.setTop (mkF m 38 #[.val (.ref oa), .val (.ref ob), .val (.int (2 : Int32)), .val (.ref oc), .val (.ref b1), .val (.ref ob), .val (.int (4 : Int32)), .val (.int (2 : Int32)), .val (.int (Int32.ofNat nk2))] [(.int ((Int32.ofNat nk2) + (1 : Int32))), (.ref b1)])) _
  have sd6 : ∀ u, Steps p.tables e below (T5.setTop (mkF m 39 #[.val (.ref oa), .val (.ref ob), .val (.int (2 : Int32)), .val (.ref oc), .val (.ref b1), .val (.ref ob), .val (.int (4 : Int32)), .val (.int (2 : Int32)), .val (.int (Int32.ofNat nk2))] [(.int ((Int32.ofNat nk2) + (1 : Int32))), (.ref b1), (.int ((Int32.ofNat nk2) + (1 : Int32))), (.ref b1)])) u → Steps p.tables e below (T5.setTop (mkF m 38 #[.val (.ref oa), .val (.ref ob), .val (.int (2 : Int32)), .val (.ref oc), .val (.ref b1), .val (.ref ob), .val (.int (4 : Int32)), .val (.int (2 : Int32)), .val (.int (Int32.ofNat nk2))] [(.int ((Int32.ofNat nk2) + (1 : Int32))), (.ref b1)])) u := by
    intro u k
    jvm_step X5.here [X5.here.top, hx, (hb hby d1_38), Value.category]
    exact k
  refine Goes.by (fun _ k => sd6 _ k) ?_
  show Goes p.tables e below (T5.setTop (mkF m 39 #[.val (.ref oa), .val (.ref ob), .val (.int (2 : Int32)), .val (.ref oc), .val (.ref b1), .val (.ref ob), .val (.int (4 : Int32)), .val (.int (2 : Int32)), .val (.int (Int32.ofNat nk2))] [(.int ((Int32.ofNat nk2) + (1 : Int32))), (.ref b1), (.int ((Int32.ofNat nk2) + (1 : Int32))), (.ref b1)])) _
  refine Goes.by (fun _ k => ldI (v := ((own_cnt2 nk0 nk1 nk2 nk3) (nk2 + 1))) (fr := (mkF m 39 #[.val (.ref oa), .val (.ref ob), .val (.int (2 : Int32)), .val (.ref oc), .val (.ref b1), .val (.ref ob), .val (.int (4 : Int32)), .val (.int (2 : Int32)), .val (.int (Int32.ofNat nk2))] [(.int ((Int32.ofNat nk2) + (1 : Int32))), (.ref b1), (.int ((Int32.ofNat nk2) + (1 : Int32))), (.ref b1)])) X5 hx hZ e5 A_b1 (i := (nk2 + 1)) (own_i1 nk2 (Nat.lt_trans hnk2 (by decide))) (Nat.succ_lt_succ hnk2) rfl rfl rfl (hb hby d1_39) k) ?_
  show Goes p.tables e below (T5.setTop (mkF m 40 #[.val (.ref oa), .val (.ref ob), .val (.int (2 : Int32)), .val (.ref oc), .val (.ref b1), .val (.ref ob), .val (.int (4 : Int32)), .val (.int (2 : Int32)), .val (.int (Int32.ofNat nk2))] [(.int ((own_cnt2 nk0 nk1 nk2 nk3) (nk2 + 1))), (.int ((Int32.ofNat nk2) + (1 : Int32))), (.ref b1)])) _
  refine Goes.by (fun _ k => XS.iconst X5.here hx rfl (hb hby d1_40) k) ?_
  show Goes p.tables e below (T5.setTop (mkF m 41 #[.val (.ref oa), .val (.ref ob), .val (.int (2 : Int32)), .val (.ref oc), .val (.ref b1), .val (.ref ob), .val (.int (4 : Int32)), .val (.int (2 : Int32)), .val (.int (Int32.ofNat nk2))] [(.int (1 : Int32)), (.int ((own_cnt2 nk0 nk1 nk2 nk3) (nk2 + 1))), (.int ((Int32.ofNat nk2) + (1 : Int32))), (.ref b1)])) _
  refine Goes.by (fun _ k => XS.iadd X5.here hx rfl (hb hby d1_41) rfl k) ?_
  show Goes p.tables e below (T5.setTop (mkF m 42 #[.val (.ref oa), .val (.ref ob), .val (.int (2 : Int32)), .val (.ref oc), .val (.ref b1), .val (.ref ob), .val (.int (4 : Int32)), .val (.int (2 : Int32)), .val (.int (Int32.ofNat nk2))] [(.int (((own_cnt2 nk0 nk1 nk2 nk3) (nk2 + 1)) + (1 : Int32))), (.int ((Int32.ofNat nk2) + (1 : Int32))), (.ref b1)])) _
  obtain ⟨T7, h7, X7, e7, W7, A7, st7⟩ := stAI (fr := (mkF m 42 #[.val (.ref oa), .val (.ref ob), .val (.int (2 : Int32)), .val (.ref oc), .val (.ref b1), .val (.ref ob), .val (.int (4 : Int32)), .val (.int (2 : Int32)), .val (.int (Int32.ofNat nk2))] [(.int (((own_cnt2 nk0 nk1 nk2 nk3) (nk2 + 1)) + (1 : Int32))), (.int ((Int32.ofNat nk2) + (1 : Int32))), (.ref b1)])) X5 hx hZ e5 A_b1 (i := (nk2 + 1)) (own_i1 nk2 (Nat.lt_trans hnk2 (by decide))) (Nat.succ_lt_succ hnk2) rfl rfl (hb hby d1_42)
  refine Goes.by st7 ?_
  have A_b1 : AI Z h7 b1 .int 3 (own_cnt3 nk0 nk1 nk2 nk3) := A7.congr (fun j hj => own_f2_3 ⟨nk0, hnk0⟩ ⟨nk1, hnk1⟩ ⟨nk2, hnk2⟩ ⟨nk3, hnk3⟩ ⟨j, hj⟩)
  have N7 := Fr.snoc X7 N5 g_b1
  have Zs7 : n0 ≤ h7.size := Nat.le_trans Zs5 (Keep.of_wr W7).1
  have K7 : Keep h0 h7 [oc] := K5.wr W7 (Or.inr sz_b1)
  have A_oa : AI Z h7 oa .int 4 pa := A_oa.other W7 ne_oa_b1
  have A_ob : AI Z h7 ob .int 4 (own_keys nk0 nk1 nk2 nk3) := A_ob.other W7 ne_ob_b1
  have A_oc : AI Z h7 oc .int 4 (fun _ => (0 : Int32)) := A_oc.other W7 ne_oc_b1
  show Goes p.tables e below (T7.setTop (mkF m 43 #[.val (.ref oa), .val (.ref ob), .val (.int (2 : Int32)), .val (.ref oc), .val (.ref b1), .val (.ref ob), .val (.int (4 : Int32)), .val (.int (2 : Int32)), .val (.int (Int32.ofNat nk2))] [])) _
  refine Goes.by (fun _ k => XS.iinc X7.here hx rfl (hb hby d1_43) rfl (l' := #[.val (.ref oa), .val (.ref ob), .val (.int (2 : Int32)), .val (.ref oc), .val (.ref b1), .val (.ref ob), .val (.int (4 : Int32)), .val (.int (3 : Int32)), .val (.int (Int32.ofNat nk2))]) rfl k) ?_
  show Goes p.tables e below (T7.setTop (mkF m 46 #[.val (.ref oa), .val (.ref ob), .val (.int (2 : Int32)), .val (.ref oc), .val (.ref b1), .val (.ref ob), .val (.int (4 : Int32)), .val (.int (3 : Int32)), .val (.int (Int32.ofNat nk2))] [])) _
  refine Goes.by (fun _ k => XS.goto X7.here hx rfl (pc0 := 46) (pc' := 18) rfl (hb hby d1_46) (by decide) (by decide) k) ?_
  show Goes p.tables e below (T7.setTop (mkF m 18 #[.val (.ref oa), .val (.ref ob), .val (.int (2 : Int32)), .val (.ref oc), .val (.ref b1), .val (.ref ob), .val (.int (4 : Int32)), .val (.int (3 : Int32)), .val (.int (Int32.ofNat nk2))] [])) _
  refine Goes.by (fun _ k => XS.iload X7.here hx rfl (hb hby d1_18) rfl k) ?_
  show Goes p.tables e below (T7.setTop (mkF m 20 #[.val (.ref oa), .val (.ref ob), .val (.int (2 : Int32)), .val (.ref oc), .val (.ref b1), .val (.ref ob), .val (.int (4 : Int32)), .val (.int (3 : Int32)), .val (.int (Int32.ofNat nk2))] [(.int (3 : Int32))])) _
  refine Goes.by (fun _ k => XS.iload X7.here hx rfl (hb hby d1_20) rfl k) ?_
  show Goes p.tables e below (T7.setTop (mkF m 22 #[.val (.ref oa), .val (.ref ob), .val (.int (2 : Int32)), .val (.ref oc), .val (.ref b1), .val (.ref ob), .val (.int (4 : Int32)), .val (.int (3 : Int32)), .val (.int (Int32.ofNat nk2))] [(.int (4 : Int32)), (.int (3 : Int32))])) _
  refine Goes.by (fun _ k => XS.icmpNo X7.here hx rfl (hb hby d1_22) rfl (tlt (by decide : (3 : Int32) < (4 : Int32))).2.1 k) ?_
  show Goes p.tables e below (T7.setTop (mkF m 25 #[.val (.ref oa), .val (.ref ob), .val (.int (2 : Int32)), .val (.ref oc), .val (.ref b1), .val (.ref ob), .val (.int (4 : Int32)), .val (.int (3 : Int32)), .val (.int (Int32.ofNat nk2))] [])) _
  refine Goes.by (fun _ k => XS.aload X7.here hx rfl (hb hby d1_25) rfl rfl k) ?_
  show Goes p.tables e below (T7.setTop (mkF m 27 #[.val (.ref oa), .val (.ref ob), .val (.int (2 : Int32)), .val (.ref oc), .val (.ref b1), .val (.ref ob), .val (.int (4 : Int32)), .val (.int (3 : Int32)), .val (.int (Int32.ofNat nk2))] [(.ref ob)])) _
  refine Goes.by (fun _ k => XS.iload X7.here hx rfl (hb hby d1_27) rfl k) ?_
  show Goes p.tables e below (T7.setTop (mkF m 29 #[.val (.ref oa), .val (.ref ob), .val (.int (2 : Int32)), .val (.ref oc), .val (.ref b1), .val (.ref ob), .val (.int (4 : Int32)), .val (.int (3 : Int32)), .val (.int (Int32.ofNat nk2))] [(.int (3 : Int32)), (.ref ob)])) _
  refine Goes.by (fun _ k => ldI (v := (Int32.ofNat nk3)) (fr := (mkF m 29 #[.val (.ref oa), .val (.ref ob), .val (.int (2 : Int32)), .val (.ref oc), .val (.ref b1), .val (.ref ob), .val (.int (4 : Int32)), .val (.int (3 : Int32)), .val (.int (Int32.ofNat nk2))] [(.int (3 : Int32)), (.ref ob)])) X7 hx hZ e7 A_ob (i := 3) (by decide) (by decide) rfl rfl rfl (hb hby d1_29) k) ?_
  show Goes p.tables e below (T7.setTop (mkF m 30 #[.val (.ref oa), .val (.ref ob), .val (.int (2 : Int32)), .val (.ref oc), .val (.ref b1), .val (.ref ob), .val (.int (4 : Int32)), .val (.int (3 : Int32)), .val (.int (Int32.ofNat nk2))] [(.int (Int32.ofNat nk3))])) _
  refine Goes.by (fun _ k => XS.istore X7.here hx rfl (hb hby d1_30) rfl (l' := #[.val (.ref oa), .val (.ref ob), .val (.int (2 : Int32)), .val (.ref oc), .val (.ref b1), .val (.ref ob), .val (.int (4 : Int32)), .val (.int (3 : Int32)), .val (.int (Int32.ofNat nk3))]) rfl k) ?_
  show Goes p.tables e below (T7.setTop (mkF m 32 #[.val (.ref oa), .val (.ref ob), .val (.int (2 : Int32)), .val (.ref oc), .val (.ref b1), .val (.ref ob), .val (.int (4 : Int32)), .val (.int (3 : Int32)), .val (.int (Int32.ofNat nk3))] [])) _
  refine Goes.by (fun _ k => XS.aload X7.here hx rfl (hb hby d1_32) rfl rfl k) ?_
  show Goes p.tables e below (T7.setTop (mkF m 34 #[.val (.ref oa), .val (.ref ob), .val (.int (2 : Int32)), .val (.ref oc), .val (.ref b1), .val (.ref ob), .val (.int (4 : Int32)), .val (.int (3 : Int32)), .val (.int (Int32.ofNat nk3))] [(.ref b1)])) _
  refine Goes.by (fun _ k => XS.iload X7.here hx rfl (hb hby d1_34) rfl k) ?_
  show Goes p.tables e below (T7.setTop (mkF m 36 #[.val (.ref oa), .val (.ref ob), .val (.int (2 : Int32)), .val (.ref oc), .val (.ref b1), .val (.ref ob), .val (.int (4 : Int32)), .val (.int (3 : Int32)), .val (.int (Int32.ofNat nk3))] [(.int (Int32.ofNat nk3)), (.ref b1)])) _
  refine Goes.by (fun _ k => XS.iconst X7.here hx rfl (hb hby d1_36) k) ?_
  show Goes p.tables e below (T7.setTop (mkF m 37 #[.val (.ref oa), .val (.ref ob), .val (.int (2 : Int32)), .val (.ref oc), .val (.ref b1), .val (.ref ob), .val (.int (4 : Int32)), .val (.int (3 : Int32)), .val (.int (Int32.ofNat nk3))] [(.int (1 : Int32)), (.int (Int32.ofNat nk3)), (.ref b1)])) _
  refine Goes.by (fun _ k => XS.iadd X7.here hx rfl (hb hby d1_37) rfl k) ?_
  show Goes p.tables e below (T7.setTop (mkF m 38 #[.val (.ref oa), .val (.ref ob), .val (.int (2 : Int32)), .val (.ref oc), .val (.ref b1), .val (.ref ob), .val (.int (4 : Int32)), .val (.int (3 : Int32)), .val (.int (Int32.ofNat nk3))] [(.int ((Int32.ofNat nk3) + (1 : Int32))), (.ref b1)])) _
  have sd8 : ∀ u, Steps p.tables e below (T7.setTop (mkF m 39 #[.val (.ref oa), .val (.ref ob), .val (.int (2 : Int32)), .val (.ref oc), .val (.ref b1), .val (.ref ob), .val (.int (4 : Int32)), .val (.int (3 : Int32)), .val (.int (Int32.ofNat nk3))] [(.int ((Int32.ofNat nk3) + (1 : Int32))), (.ref b1), (.int ((Int32.ofNat nk3) + (1 : Int32))), (.ref b1)])) u → Steps p.tables e below (T7.setTop (mkF m 38 #[.val (.ref oa), .val (.ref ob), .val (.int (2 : Int32)), .val (.ref oc), .val (.ref b1), .val (.ref ob), .val (.int (4 : Int32)), .val (.int (3 : Int32)), .val (.int (Int32.ofNat nk3))] [(.int ((Int32.ofNat nk3) + (1 : Int32))), (.ref b1)])) u := by
    intro u k
    jvm_step X7.here [X7.here.top, hx, (hb hby d1_38), Value.category]
    exact k
  refine Goes.by (fun _ k => sd8 _ k) ?_
  show Goes p.tables e below (T7.setTop (mkF m 39 #[.val (.ref oa), .val (.ref ob), .val (.int (2 : Int32)), .val (.ref oc), .val (.ref b1), .val (.ref ob), .val (.int (4 : Int32)), .val (.int (3 : Int32)), .val (.int (Int32.ofNat nk3))] [(.int ((Int32.ofNat nk3) + (1 : Int32))), (.ref b1), (.int ((Int32.ofNat nk3) + (1 : Int32))), (.ref b1)])) _
  refine Goes.by (fun _ k => ldI (v := ((own_cnt3 nk0 nk1 nk2 nk3) (nk3 + 1))) (fr := (mkF m 39 #[.val (.ref oa), .val (.ref ob), .val (.int (2 : Int32)), .val (.ref oc), .val (.ref b1), .val (.ref ob), .val (.int (4 : Int32)), .val (.int (3 : Int32)), .val (.int (Int32.ofNat nk3))] [(.int ((Int32.ofNat nk3) + (1 : Int32))), (.ref b1), (.int ((Int32.ofNat nk3) + (1 : Int32))), (.ref b1)])) X7 hx hZ e7 A_b1 (i := (nk3 + 1)) (own_i1 nk3 (Nat.lt_trans hnk3 (by decide))) (Nat.succ_lt_succ hnk3) rfl rfl rfl (hb hby d1_39) k) ?_
  show Goes p.tables e below (T7.setTop (mkF m 40 #[.val (.ref oa), .val (.ref ob), .val (.int (2 : Int32)), .val (.ref oc), .val (.ref b1), .val (.ref ob), .val (.int (4 : Int32)), .val (.int (3 : Int32)), .val (.int (Int32.ofNat nk3))] [(.int ((own_cnt3 nk0 nk1 nk2 nk3) (nk3 + 1))), (.int ((Int32.ofNat nk3) + (1 : Int32))), (.ref b1)])) _
  refine Goes.by (fun _ k => XS.iconst X7.here hx rfl (hb hby d1_40) k) ?_
  show Goes p.tables e below (T7.setTop (mkF m 41 #[.val (.ref oa), .val (.ref ob), .val (.int (2 : Int32)), .val (.ref oc), .val (.ref b1), .val (.ref ob), .val (.int (4 : Int32)), .val (.int (3 : Int32)), .val (.int (Int32.ofNat nk3))] [(.int (1 : Int32)), (.int ((own_cnt3 nk0 nk1 nk2 nk3) (nk3 + 1))), (.int ((Int32.ofNat nk3) + (1 : Int32))), (.ref b1)])) _
  refine Goes.by (fun _ k => XS.iadd X7.here hx rfl (hb hby d1_41) rfl k) ?_
  show Goes p.tables e below (T7.setTop (mkF m 42 #[.val (.ref oa), .val (.ref ob), .val (.int (2 : Int32)), .val (.ref oc), .val (.ref b1), .val (.ref ob), .val (.int (4 : Int32)), .val (.int (3 : Int32)), .val (.int (Int32.ofNat nk3))] [(.int (((own_cnt3 nk0 nk1 nk2 nk3) (nk3 + 1)) + (1 : Int32))), (.int ((Int32.ofNat nk3) + (1 : Int32))), (.ref b1)])) _
  obtain ⟨T9, h9, X9, e9, W9, A9, st9⟩ := stAI (fr := (mkF m 42 #[.val (.ref oa), .val (.ref ob), .val (.int (2 : Int32)), .val (.ref oc), .val (.ref b1), .val (.ref ob), .val (.int (4 : Int32)), .val (.int (3 : Int32)), .val (.int (Int32.ofNat nk3))] [(.int (((own_cnt3 nk0 nk1 nk2 nk3) (nk3 + 1)) + (1 : Int32))), (.int ((Int32.ofNat nk3) + (1 : Int32))), (.ref b1)])) X7 hx hZ e7 A_b1 (i := (nk3 + 1)) (own_i1 nk3 (Nat.lt_trans hnk3 (by decide))) (Nat.succ_lt_succ hnk3) rfl rfl (hb hby d1_42)
  refine Goes.by st9 ?_
  have A_b1 : AI Z h9 b1 .int 3 (own_cnt4 nk0 nk1 nk2 nk3) := A9.congr (fun j hj => own_f2_4 ⟨nk0, hnk0⟩ ⟨nk1, hnk1⟩ ⟨nk2, hnk2⟩ ⟨nk3, hnk3⟩ ⟨j, hj⟩)
  have N9 := Fr.snoc X9 N7 g_b1
  have Zs9 : n0 ≤ h9.size := Nat.le_trans Zs7 (Keep.of_wr W9).1
  have K9 : Keep h0 h9 [oc] := K7.wr W9 (Or.inr sz_b1)
  have A_oa : AI Z h9 oa .int 4 pa := A_oa.other W9 ne_oa_b1
  have A_ob : AI Z h9 ob .int 4 (own_keys nk0 nk1 nk2 nk3) := A_ob.other W9 ne_ob_b1
  have A_oc : AI Z h9 oc .int 4 (fun _ => (0 : Int32)) := A_oc.other W9 ne_oc_b1
  show Goes p.tables e below (T9.setTop (mkF m 43 #[.val (.ref oa), .val (.ref ob), .val (.int (2 : Int32)), .val (.ref oc), .val (.ref b1), .val (.ref ob), .val (.int (4 : Int32)), .val (.int (3 : Int32)), .val (.int (Int32.ofNat nk3))] [])) _
  refine Goes.by (fun _ k => XS.iinc X9.here hx rfl (hb hby d1_43) rfl (l' := #[.val (.ref oa), .val (.ref ob), .val (.int (2 : Int32)), .val (.ref oc), .val (.ref b1), .val (.ref ob), .val (.int (4 : Int32)), .val (.int (4 : Int32)), .val (.int (Int32.ofNat nk3))]) rfl k) ?_
  show Goes p.tables e below (T9.setTop (mkF m 46 #[.val (.ref oa), .val (.ref ob), .val (.int (2 : Int32)), .val (.ref oc), .val (.ref b1), .val (.ref ob), .val (.int (4 : Int32)), .val (.int (4 : Int32)), .val (.int (Int32.ofNat nk3))] [])) _
  refine Goes.by (fun _ k => XS.goto X9.here hx rfl (pc0 := 46) (pc' := 18) rfl (hb hby d1_46) (by decide) (by decide) k) ?_
  show Goes p.tables e below (T9.setTop (mkF m 18 #[.val (.ref oa), .val (.ref ob), .val (.int (2 : Int32)), .val (.ref oc), .val (.ref b1), .val (.ref ob), .val (.int (4 : Int32)), .val (.int (4 : Int32)), .val (.int (Int32.ofNat nk3))] [])) _
  refine Goes.by (fun _ k => XS.iload X9.here hx rfl (hb hby d1_18) rfl k) ?_
  show Goes p.tables e below (T9.setTop (mkF m 20 #[.val (.ref oa), .val (.ref ob), .val (.int (2 : Int32)), .val (.ref oc), .val (.ref b1), .val (.ref ob), .val (.int (4 : Int32)), .val (.int (4 : Int32)), .val (.int (Int32.ofNat nk3))] [(.int (4 : Int32))])) _
  refine Goes.by (fun _ k => XS.iload X9.here hx rfl (hb hby d1_20) rfl k) ?_
  show Goes p.tables e below (T9.setTop (mkF m 22 #[.val (.ref oa), .val (.ref ob), .val (.int (2 : Int32)), .val (.ref oc), .val (.ref b1), .val (.ref ob), .val (.int (4 : Int32)), .val (.int (4 : Int32)), .val (.int (Int32.ofNat nk3))] [(.int (4 : Int32)), (.int (4 : Int32))])) _
  refine Goes.by (fun _ k => XS.icmpYes X9.here hx rfl (pc0 := 22) (pc' := 49) rfl (hb hby d1_22) rfl (flt (by decide : ¬ ((4 : Int32) < (4 : Int32)))).2.1 (by decide) (by decide) k) ?_
  show Goes p.tables e below (T9.setTop (mkF m 49 #[.val (.ref oa), .val (.ref ob), .val (.int (2 : Int32)), .val (.ref oc), .val (.ref b1), .val (.ref ob), .val (.int (4 : Int32)), .val (.int (4 : Int32)), .val (.int (Int32.ofNat nk3))] [])) _
  refine Goes.by (fun _ k => XS.iconst X9.here hx rfl (hb hby d1_49) k) ?_
  show Goes p.tables e below (T9.setTop (mkF m 50 #[.val (.ref oa), .val (.ref ob), .val (.int (2 : Int32)), .val (.ref oc), .val (.ref b1), .val (.ref ob), .val (.int (4 : Int32)), .val (.int (4 : Int32)), .val (.int (Int32.ofNat nk3))] [(.int (0 : Int32))])) _
  refine Goes.by (fun _ k => XS.istore X9.here hx rfl (hb hby d1_50) rfl (l' := #[.val (.ref oa), .val (.ref ob), .val (.int (2 : Int32)), .val (.ref oc), .val (.ref b1), .val (.int (0 : Int32)), .val (.int (4 : Int32)), .val (.int (4 : Int32)), .val (.int (Int32.ofNat nk3))]) rfl k) ?_
  show Goes p.tables e below (T9.setTop (mkF m 52 #[.val (.ref oa), .val (.ref ob), .val (.int (2 : Int32)), .val (.ref oc), .val (.ref b1), .val (.int (0 : Int32)), .val (.int (4 : Int32)), .val (.int (4 : Int32)), .val (.int (Int32.ofNat nk3))] [])) _
  refine Goes.by (fun _ k => XS.iload X9.here hx rfl (hb hby d1_52) rfl k) ?_
  show Goes p.tables e below (T9.setTop (mkF m 54 #[.val (.ref oa), .val (.ref ob), .val (.int (2 : Int32)), .val (.ref oc), .val (.ref b1), .val (.int (0 : Int32)), .val (.int (4 : Int32)), .val (.int (4 : Int32)), .val (.int (Int32.ofNat nk3))] [(.int (0 : Int32))])) _
  refine Goes.by (fun _ k => XS.iloadN X9.here hx rfl (hb hby d1_54) rfl k) ?_
  show Goes p.tables e below (T9.setTop (mkF m 55 #[.val (.ref oa), .val (.ref ob), .val (.int (2 : Int32)), .val (.ref oc), .val (.ref b1), .val (.int (0 : Int32)), .val (.int (4 : Int32)), .val (.int (4 : Int32)), .val (.int (Int32.ofNat nk3))] [(.int (2 : Int32)), (.int (0 : Int32))])) _
  refine Goes.by (fun _ k => XS.icmpNo X9.here hx rfl (hb hby d1_55) rfl (tlt (by decide : (0 : Int32) < (2 : Int32))).2.1 k) ?_
  show Goes p.tables e below (T9.setTop (mkF m 58 #[.val (.ref oa), .val (.ref ob), .val (.int (2 : Int32)), .val (.ref oc), .val (.ref b1), .val (.int (0 : Int32)), .val (.int (4 : Int32)), .val (.int (4 : Int32)), .val (.int (Int32.ofNat nk3))] [])) _
  refine Goes.by (fun _ k => XS.aload X9.here hx rfl (hb hby d1_58) rfl rfl k) ?_
  show Goes p.tables e below (T9.setTop (mkF m 60 #[.val (.ref oa), .val (.ref ob), .val (.int (2 : Int32)), .val (.ref oc), .val (.ref b1), .val (.int (0 : Int32)), .val (.int (4 : Int32)), .val (.int (4 : Int32)), .val (.int (Int32.ofNat nk3))] [(.ref b1)])) _
  refine Goes.by (fun _ k => XS.iload X9.here hx rfl (hb hby d1_60) rfl k) ?_
  show Goes p.tables e below (T9.setTop (mkF m 62 #[.val (.ref oa), .val (.ref ob), .val (.int (2 : Int32)), .val (.ref oc), .val (.ref b1), .val (.int (0 : Int32)), .val (.int (4 : Int32)), .val (.int (4 : Int32)), .val (.int (Int32.ofNat nk3))] [(.int (0 : Int32)), (.ref b1)])) _
  refine Goes.by (fun _ k => XS.iconst X9.here hx rfl (hb hby d1_62) k) ?_
  show Goes p.tables e below (T9.setTop (mkF m 63 #[.val (.ref oa), .val (.ref ob), .val (.int (2 : Int32)), .val (.ref oc), .val (.ref b1), .val (.int (0 : Int32)), .val (.int (4 : Int32)), .val (.int (4 : Int32)), .val (.int (Int32.ofNat nk3))] [(.int (1 : Int32)), (.int (0 : Int32)), (.ref b1)])) _
  refine Goes.by (fun _ k => XS.iadd X9.here hx rfl (hb hby d1_63) rfl k) ?_
  show Goes p.tables e below (T9.setTop (mkF m 64 #[.val (.ref oa), .val (.ref ob), .val (.int (2 : Int32)), .val (.ref oc), .val (.ref b1), .val (.int (0 : Int32)), .val (.int (4 : Int32)), .val (.int (4 : Int32)), .val (.int (Int32.ofNat nk3))] [(.int (1 : Int32)), (.ref b1)])) _
  have sd10 : ∀ u, Steps p.tables e below (T9.setTop (mkF m 65 #[.val (.ref oa), .val (.ref ob), .val (.int (2 : Int32)), .val (.ref oc), .val (.ref b1), .val (.int (0 : Int32)), .val (.int (4 : Int32)), .val (.int (4 : Int32)), .val (.int (Int32.ofNat nk3))] [(.int (1 : Int32)), (.ref b1), (.int (1 : Int32)), (.ref b1)])) u → Steps p.tables e below (T9.setTop (mkF m 64 #[.val (.ref oa), .val (.ref ob), .val (.int (2 : Int32)), .val (.ref oc), .val (.ref b1), .val (.int (0 : Int32)), .val (.int (4 : Int32)), .val (.int (4 : Int32)), .val (.int (Int32.ofNat nk3))] [(.int (1 : Int32)), (.ref b1)])) u := by
    intro u k
    jvm_step X9.here [X9.here.top, hx, (hb hby d1_64), Value.category]
    exact k
  refine Goes.by (fun _ k => sd10 _ k) ?_
  show Goes p.tables e below (T9.setTop (mkF m 65 #[.val (.ref oa), .val (.ref ob), .val (.int (2 : Int32)), .val (.ref oc), .val (.ref b1), .val (.int (0 : Int32)), .val (.int (4 : Int32)), .val (.int (4 : Int32)), .val (.int (Int32.ofNat nk3))] [(.int (1 : Int32)), (.ref b1), (.int (1 : Int32)), (.ref b1)])) _
  refine Goes.by (fun _ k => ldI (v := ((own_cnt4 nk0 nk1 nk2 nk3) 1)) (fr := (mkF m 65 #[.val (.ref oa), .val (.ref ob), .val (.int (2 : Int32)), .val (.ref oc), .val (.ref b1), .val (.int (0 : Int32)), .val (.int (4 : Int32)), .val (.int (4 : Int32)), .val (.int (Int32.ofNat nk3))] [(.int (1 : Int32)), (.ref b1), (.int (1 : Int32)), (.ref b1)])) X9 hx hZ e9 A_b1 (i := 1) (by decide) (by decide) rfl rfl rfl (hb hby d1_65) k) ?_
  show Goes p.tables e below (T9.setTop (mkF m 66 #[.val (.ref oa), .val (.ref ob), .val (.int (2 : Int32)), .val (.ref oc), .val (.ref b1), .val (.int (0 : Int32)), .val (.int (4 : Int32)), .val (.int (4 : Int32)), .val (.int (Int32.ofNat nk3))] [(.int ((own_cnt4 nk0 nk1 nk2 nk3) 1)), (.int (1 : Int32)), (.ref b1)])) _
  refine Goes.by (fun _ k => XS.aload X9.here hx rfl (hb hby d1_66) rfl rfl k) ?_
  show Goes p.tables e below (T9.setTop (mkF m 68 #[.val (.ref oa), .val (.ref ob), .val (.int (2 : Int32)), .val (.ref oc), .val (.ref b1), .val (.int (0 : Int32)), .val (.int (4 : Int32)), .val (.int (4 : Int32)), .val (.int (Int32.ofNat nk3))] [(.ref b1), (.int ((own_cnt4 nk0 nk1 nk2 nk3) 1)), (.int (1 : Int32)), (.ref b1)])) _
  refine Goes.by (fun _ k => XS.iload X9.here hx rfl (hb hby d1_68) rfl k) ?_
  show Goes p.tables e below (T9.setTop (mkF m 70 #[.val (.ref oa), .val (.ref ob), .val (.int (2 : Int32)), .val (.ref oc), .val (.ref b1), .val (.int (0 : Int32)), .val (.int (4 : Int32)), .val (.int (4 : Int32)), .val (.int (Int32.ofNat nk3))] [(.int (0 : Int32)), (.ref b1), (.int ((own_cnt4 nk0 nk1 nk2 nk3) 1)), (.int (1 : Int32)), (.ref b1)])) _
  refine Goes.by (fun _ k => ldI (v := ((own_cnt4 nk0 nk1 nk2 nk3) 0)) (fr := (mkF m 70 #[.val (.ref oa), .val (.ref ob), .val (.int (2 : Int32)), .val (.ref oc), .val (.ref b1), .val (.int (0 : Int32)), .val (.int (4 : Int32)), .val (.int (4 : Int32)), .val (.int (Int32.ofNat nk3))] [(.int (0 : Int32)), (.ref b1), (.int ((own_cnt4 nk0 nk1 nk2 nk3) 1)), (.int (1 : Int32)), (.ref b1)])) X9 hx hZ e9 A_b1 (i := 0) (by decide) (by decide) rfl rfl rfl (hb hby d1_70) k) ?_
  show Goes p.tables e below (T9.setTop (mkF m 71 #[.val (.ref oa), .val (.ref ob), .val (.int (2 : Int32)), .val (.ref oc), .val (.ref b1), .val (.int (0 : Int32)), .val (.int (4 : Int32)), .val (.int (4 : Int32)), .val (.int (Int32.ofNat nk3))] [(.int ((own_cnt4 nk0 nk1 nk2 nk3) 0)), (.int ((own_cnt4 nk0 nk1 nk2 nk3) 1)), (.int (1 : Int32)), (.ref b1)])) _
  refine Goes.by (fun _ k => XS.iadd X9.here hx rfl (hb hby d1_71) rfl k) ?_
  show Goes p.tables e below (T9.setTop (mkF m 72 #[.val (.ref oa), .val (.ref ob), .val (.int (2 : Int32)), .val (.ref oc), .val (.ref b1), .val (.int (0 : Int32)), .val (.int (4 : Int32)), .val (.int (4 : Int32)), .val (.int (Int32.ofNat nk3))] [(.int (((own_cnt4 nk0 nk1 nk2 nk3) 1) + ((own_cnt4 nk0 nk1 nk2 nk3) 0))), (.int (1 : Int32)), (.ref b1)])) _
  obtain ⟨T11, h11, X11, e11, W11, A11, st11⟩ := stAI (fr := (mkF m 72 #[.val (.ref oa), .val (.ref ob), .val (.int (2 : Int32)), .val (.ref oc), .val (.ref b1), .val (.int (0 : Int32)), .val (.int (4 : Int32)), .val (.int (4 : Int32)), .val (.int (Int32.ofNat nk3))] [(.int (((own_cnt4 nk0 nk1 nk2 nk3) 1) + ((own_cnt4 nk0 nk1 nk2 nk3) 0))), (.int (1 : Int32)), (.ref b1)])) X9 hx hZ e9 A_b1 (i := 1) (by decide) (by decide) rfl rfl (hb hby d1_72)
  refine Goes.by st11 ?_
  have A_b1 : AI Z h11 b1 .int 3 (own_pre 1 nk0 nk1 nk2 nk3) := A11.congr (fun j hj => own_f2_5 ⟨nk0, hnk0⟩ ⟨nk1, hnk1⟩ ⟨nk2, hnk2⟩ ⟨nk3, hnk3⟩ ⟨j, hj⟩)
  have N11 := Fr.snoc X11 N9 g_b1
  have Zs11 : n0 ≤ h11.size := Nat.le_trans Zs9 (Keep.of_wr W11).1
  have K11 : Keep h0 h11 [oc] := K9.wr W11 (Or.inr sz_b1)
  have A_oa : AI Z h11 oa .int 4 pa := A_oa.other W11 ne_oa_b1
  have A_ob : AI Z h11 ob .int 4 (own_keys nk0 nk1 nk2 nk3) := A_ob.other W11 ne_ob_b1
  have A_oc : AI Z h11 oc .int 4 (fun _ => (0 : Int32)) := A_oc.other W11 ne_oc_b1
  show Goes p.tables e below (T11.setTop (mkF m 73 #[.val (.ref oa), .val (.ref ob), .val (.int (2 : Int32)), .val (.ref oc), .val (.ref b1), .val (.int (0 : Int32)), .val (.int (4 : Int32)), .val (.int (4 : Int32)), .val (.int (Int32.ofNat nk3))] [])) _
  refine Goes.by (fun _ k => XS.iinc X11.here hx rfl (hb hby d1_73) rfl (l' := #[.val (.ref oa), .val (.ref ob), .val (.int (2 : Int32)), .val (.ref oc), .val (.ref b1), .val (.int (1 : Int32)), .val (.int (4 : Int32)), .val (.int (4 : Int32)), .val (.int (Int32.ofNat nk3))]) rfl k) ?_
  show Goes p.tables e below (T11.setTop (mkF m 76 #[.val (.ref oa), .val (.ref ob), .val (.int (2 : Int32)), .val (.ref oc), .val (.ref b1), .val (.int (1 : Int32)), .val (.int (4 : Int32)), .val (.int (4 : Int32)), .val (.int (Int32.ofNat nk3))] [])) _
  refine Goes.by (fun _ k => XS.goto X11.here hx rfl (pc0 := 76) (pc' := 52) rfl (hb hby d1_76) (by decide) (by decide) k) ?_
  show Goes p.tables e below (T11.setTop (mkF m 52 #[.val (.ref oa), .val (.ref ob), .val (.int (2 : Int32)), .val (.ref oc), .val (.ref b1), .val (.int (1 : Int32)), .val (.int (4 : Int32)), .val (.int (4 : Int32)), .val (.int (Int32.ofNat nk3))] [])) _
  refine Goes.by (fun _ k => XS.iload X11.here hx rfl (hb hby d1_52) rfl k) ?_
  show Goes p.tables e below (T11.setTop (mkF m 54 #[.val (.ref oa), .val (.ref ob), .val (.int (2 : Int32)), .val (.ref oc), .val (.ref b1), .val (.int (1 : Int32)), .val (.int (4 : Int32)), .val (.int (4 : Int32)), .val (.int (Int32.ofNat nk3))] [(.int (1 : Int32))])) _
  refine Goes.by (fun _ k => XS.iloadN X11.here hx rfl (hb hby d1_54) rfl k) ?_
  show Goes p.tables e below (T11.setTop (mkF m 55 #[.val (.ref oa), .val (.ref ob), .val (.int (2 : Int32)), .val (.ref oc), .val (.ref b1), .val (.int (1 : Int32)), .val (.int (4 : Int32)), .val (.int (4 : Int32)), .val (.int (Int32.ofNat nk3))] [(.int (2 : Int32)), (.int (1 : Int32))])) _
  refine Goes.by (fun _ k => XS.icmpNo X11.here hx rfl (hb hby d1_55) rfl (tlt (by decide : (1 : Int32) < (2 : Int32))).2.1 k) ?_
  show Goes p.tables e below (T11.setTop (mkF m 58 #[.val (.ref oa), .val (.ref ob), .val (.int (2 : Int32)), .val (.ref oc), .val (.ref b1), .val (.int (1 : Int32)), .val (.int (4 : Int32)), .val (.int (4 : Int32)), .val (.int (Int32.ofNat nk3))] [])) _
  refine Goes.by (fun _ k => XS.aload X11.here hx rfl (hb hby d1_58) rfl rfl k) ?_
  show Goes p.tables e below (T11.setTop (mkF m 60 #[.val (.ref oa), .val (.ref ob), .val (.int (2 : Int32)), .val (.ref oc), .val (.ref b1), .val (.int (1 : Int32)), .val (.int (4 : Int32)), .val (.int (4 : Int32)), .val (.int (Int32.ofNat nk3))] [(.ref b1)])) _
  refine Goes.by (fun _ k => XS.iload X11.here hx rfl (hb hby d1_60) rfl k) ?_
  show Goes p.tables e below (T11.setTop (mkF m 62 #[.val (.ref oa), .val (.ref ob), .val (.int (2 : Int32)), .val (.ref oc), .val (.ref b1), .val (.int (1 : Int32)), .val (.int (4 : Int32)), .val (.int (4 : Int32)), .val (.int (Int32.ofNat nk3))] [(.int (1 : Int32)), (.ref b1)])) _
  refine Goes.by (fun _ k => XS.iconst X11.here hx rfl (hb hby d1_62) k) ?_
  show Goes p.tables e below (T11.setTop (mkF m 63 #[.val (.ref oa), .val (.ref ob), .val (.int (2 : Int32)), .val (.ref oc), .val (.ref b1), .val (.int (1 : Int32)), .val (.int (4 : Int32)), .val (.int (4 : Int32)), .val (.int (Int32.ofNat nk3))] [(.int (1 : Int32)), (.int (1 : Int32)), (.ref b1)])) _
  refine Goes.by (fun _ k => XS.iadd X11.here hx rfl (hb hby d1_63) rfl k) ?_
  show Goes p.tables e below (T11.setTop (mkF m 64 #[.val (.ref oa), .val (.ref ob), .val (.int (2 : Int32)), .val (.ref oc), .val (.ref b1), .val (.int (1 : Int32)), .val (.int (4 : Int32)), .val (.int (4 : Int32)), .val (.int (Int32.ofNat nk3))] [(.int (2 : Int32)), (.ref b1)])) _
  have sd12 : ∀ u, Steps p.tables e below (T11.setTop (mkF m 65 #[.val (.ref oa), .val (.ref ob), .val (.int (2 : Int32)), .val (.ref oc), .val (.ref b1), .val (.int (1 : Int32)), .val (.int (4 : Int32)), .val (.int (4 : Int32)), .val (.int (Int32.ofNat nk3))] [(.int (2 : Int32)), (.ref b1), (.int (2 : Int32)), (.ref b1)])) u → Steps p.tables e below (T11.setTop (mkF m 64 #[.val (.ref oa), .val (.ref ob), .val (.int (2 : Int32)), .val (.ref oc), .val (.ref b1), .val (.int (1 : Int32)), .val (.int (4 : Int32)), .val (.int (4 : Int32)), .val (.int (Int32.ofNat nk3))] [(.int (2 : Int32)), (.ref b1)])) u := by
    intro u k
    jvm_step X11.here [X11.here.top, hx, (hb hby d1_64), Value.category]
    exact k
  refine Goes.by (fun _ k => sd12 _ k) ?_
  show Goes p.tables e below (T11.setTop (mkF m 65 #[.val (.ref oa), .val (.ref ob), .val (.int (2 : Int32)), .val (.ref oc), .val (.ref b1), .val (.int (1 : Int32)), .val (.int (4 : Int32)), .val (.int (4 : Int32)), .val (.int (Int32.ofNat nk3))] [(.int (2 : Int32)), (.ref b1), (.int (2 : Int32)), (.ref b1)])) _
  refine Goes.by (fun _ k => ldI (v := ((own_pre 1 nk0 nk1 nk2 nk3) 2)) (fr := (mkF m 65 #[.val (.ref oa), .val (.ref ob), .val (.int (2 : Int32)), .val (.ref oc), .val (.ref b1), .val (.int (1 : Int32)), .val (.int (4 : Int32)), .val (.int (4 : Int32)), .val (.int (Int32.ofNat nk3))] [(.int (2 : Int32)), (.ref b1), (.int (2 : Int32)), (.ref b1)])) X11 hx hZ e11 A_b1 (i := 2) (by decide) (by decide) rfl rfl rfl (hb hby d1_65) k) ?_
  show Goes p.tables e below (T11.setTop (mkF m 66 #[.val (.ref oa), .val (.ref ob), .val (.int (2 : Int32)), .val (.ref oc), .val (.ref b1), .val (.int (1 : Int32)), .val (.int (4 : Int32)), .val (.int (4 : Int32)), .val (.int (Int32.ofNat nk3))] [(.int ((own_pre 1 nk0 nk1 nk2 nk3) 2)), (.int (2 : Int32)), (.ref b1)])) _
  refine Goes.by (fun _ k => XS.aload X11.here hx rfl (hb hby d1_66) rfl rfl k) ?_
  show Goes p.tables e below (T11.setTop (mkF m 68 #[.val (.ref oa), .val (.ref ob), .val (.int (2 : Int32)), .val (.ref oc), .val (.ref b1), .val (.int (1 : Int32)), .val (.int (4 : Int32)), .val (.int (4 : Int32)), .val (.int (Int32.ofNat nk3))] [(.ref b1), (.int ((own_pre 1 nk0 nk1 nk2 nk3) 2)), (.int (2 : Int32)), (.ref b1)])) _
  refine Goes.by (fun _ k => XS.iload X11.here hx rfl (hb hby d1_68) rfl k) ?_
  show Goes p.tables e below (T11.setTop (mkF m 70 #[.val (.ref oa), .val (.ref ob), .val (.int (2 : Int32)), .val (.ref oc), .val (.ref b1), .val (.int (1 : Int32)), .val (.int (4 : Int32)), .val (.int (4 : Int32)), .val (.int (Int32.ofNat nk3))] [(.int (1 : Int32)), (.ref b1), (.int ((own_pre 1 nk0 nk1 nk2 nk3) 2)), (.int (2 : Int32)), (.ref b1)])) _
  refine Goes.by (fun _ k => ldI (v := ((own_pre 1 nk0 nk1 nk2 nk3) 1)) (fr := (mkF m 70 #[.val (.ref oa), .val (.ref ob), .val (.int (2 : Int32)), .val (.ref oc), .val (.ref b1), .val (.int (1 : Int32)), .val (.int (4 : Int32)), .val (.int (4 : Int32)), .val (.int (Int32.ofNat nk3))] [(.int (1 : Int32)), (.ref b1), (.int ((own_pre 1 nk0 nk1 nk2 nk3) 2)), (.int (2 : Int32)), (.ref b1)])) X11 hx hZ e11 A_b1 (i := 1) (by decide) (by decide) rfl rfl rfl (hb hby d1_70) k) ?_
  show Goes p.tables e below (T11.setTop (mkF m 71 #[.val (.ref oa), .val (.ref ob), .val (.int (2 : Int32)), .val (.ref oc), .val (.ref b1), .val (.int (1 : Int32)), .val (.int (4 : Int32)), .val (.int (4 : Int32)), .val (.int (Int32.ofNat nk3))] [(.int ((own_pre 1 nk0 nk1 nk2 nk3) 1)), (.int ((own_pre 1 nk0 nk1 nk2 nk3) 2)), (.int (2 : Int32)), (.ref b1)])) _
  refine Goes.by (fun _ k => XS.iadd X11.here hx rfl (hb hby d1_71) rfl k) ?_
  show Goes p.tables e below (T11.setTop (mkF m 72 #[.val (.ref oa), .val (.ref ob), .val (.int (2 : Int32)), .val (.ref oc), .val (.ref b1), .val (.int (1 : Int32)), .val (.int (4 : Int32)), .val (.int (4 : Int32)), .val (.int (Int32.ofNat nk3))] [(.int (((own_pre 1 nk0 nk1 nk2 nk3) 2) + ((own_pre 1 nk0 nk1 nk2 nk3) 1))), (.int (2 : Int32)), (.ref b1)])) _
  obtain ⟨T13, h13, X13, e13, W13, A13, st13⟩ := stAI (fr := (mkF m 72 #[.val (.ref oa), .val (.ref ob), .val (.int (2 : Int32)), .val (.ref oc), .val (.ref b1), .val (.int (1 : Int32)), .val (.int (4 : Int32)), .val (.int (4 : Int32)), .val (.int (Int32.ofNat nk3))] [(.int (((own_pre 1 nk0 nk1 nk2 nk3) 2) + ((own_pre 1 nk0 nk1 nk2 nk3) 1))), (.int (2 : Int32)), (.ref b1)])) X11 hx hZ e11 A_b1 (i := 2) (by decide) (by decide) rfl rfl (hb hby d1_72)
  refine Goes.by st13 ?_
  have A_b1 : AI Z h13 b1 .int 3 (own_pre 2 nk0 nk1 nk2 nk3) := A13.congr (fun j hj => own_f2_6 ⟨nk0, hnk0⟩ ⟨nk1, hnk1⟩ ⟨nk2, hnk2⟩ ⟨nk3, hnk3⟩ ⟨j, hj⟩)
  have N13 := Fr.snoc X13 N11 g_b1
  have Zs13 : n0 ≤ h13.size := Nat.le_trans Zs11 (Keep.of_wr W13).1
  have K13 : Keep h0 h13 [oc] := K11.wr W13 (Or.inr sz_b1)
  have A_oa : AI Z h13 oa .int 4 pa := A_oa.other W13 ne_oa_b1
  have A_ob : AI Z h13 ob .int 4 (own_keys nk0 nk1 nk2 nk3) := A_ob.other W13 ne_ob_b1
  have A_oc : AI Z h13 oc .int 4 (fun _ => (0 : Int32)) := A_oc.other W13 ne_oc_b1
  show Goes p.tables e below (T13.setTop (mkF m 73 #[.val (.ref oa), .val (.ref ob), .val (.int (2 : Int32)), .val (.ref oc), .val (.ref b1), .val (.int (1 : Int32)), .val (.int (4 : Int32)), .val (.int (4 : Int32)), .val (.int (Int32.ofNat nk3))] [])) _
  refine Goes.by (fun _ k => XS.iinc X13.here hx rfl (hb hby d1_73) rfl (l' := #[.val (.ref oa), .val (.ref ob), .val (.int (2 : Int32)), .val (.ref oc), .val (.ref b1), .val (.int (2 : Int32)), .val (.int (4 : Int32)), .val (.int (4 : Int32)), .val (.int (Int32.ofNat nk3))]) rfl k) ?_
  show Goes p.tables e below (T13.setTop (mkF m 76 #[.val (.ref oa), .val (.ref ob), .val (.int (2 : Int32)), .val (.ref oc), .val (.ref b1), .val (.int (2 : Int32)), .val (.int (4 : Int32)), .val (.int (4 : Int32)), .val (.int (Int32.ofNat nk3))] [])) _
  refine Goes.by (fun _ k => XS.goto X13.here hx rfl (pc0 := 76) (pc' := 52) rfl (hb hby d1_76) (by decide) (by decide) k) ?_
  show Goes p.tables e below (T13.setTop (mkF m 52 #[.val (.ref oa), .val (.ref ob), .val (.int (2 : Int32)), .val (.ref oc), .val (.ref b1), .val (.int (2 : Int32)), .val (.int (4 : Int32)), .val (.int (4 : Int32)), .val (.int (Int32.ofNat nk3))] [])) _
  refine Goes.by (fun _ k => XS.iload X13.here hx rfl (hb hby d1_52) rfl k) ?_
  show Goes p.tables e below (T13.setTop (mkF m 54 #[.val (.ref oa), .val (.ref ob), .val (.int (2 : Int32)), .val (.ref oc), .val (.ref b1), .val (.int (2 : Int32)), .val (.int (4 : Int32)), .val (.int (4 : Int32)), .val (.int (Int32.ofNat nk3))] [(.int (2 : Int32))])) _
  refine Goes.by (fun _ k => XS.iloadN X13.here hx rfl (hb hby d1_54) rfl k) ?_
  show Goes p.tables e below (T13.setTop (mkF m 55 #[.val (.ref oa), .val (.ref ob), .val (.int (2 : Int32)), .val (.ref oc), .val (.ref b1), .val (.int (2 : Int32)), .val (.int (4 : Int32)), .val (.int (4 : Int32)), .val (.int (Int32.ofNat nk3))] [(.int (2 : Int32)), (.int (2 : Int32))])) _
  refine Goes.by (fun _ k => XS.icmpYes X13.here hx rfl (pc0 := 55) (pc' := 79) rfl (hb hby d1_55) rfl (flt (by decide : ¬ ((2 : Int32) < (2 : Int32)))).2.1 (by decide) (by decide) k) ?_
  show Goes p.tables e below (T13.setTop (mkF m 79 #[.val (.ref oa), .val (.ref ob), .val (.int (2 : Int32)), .val (.ref oc), .val (.ref b1), .val (.int (2 : Int32)), .val (.int (4 : Int32)), .val (.int (4 : Int32)), .val (.int (Int32.ofNat nk3))] [])) _
  refine Goes.by (fun _ k => XS.iloadN X13.here hx rfl (hb hby d1_79) rfl k) ?_
  show Goes p.tables e below (T13.setTop (mkF m 80 #[.val (.ref oa), .val (.ref ob), .val (.int (2 : Int32)), .val (.ref oc), .val (.ref b1), .val (.int (2 : Int32)), .val (.int (4 : Int32)), .val (.int (4 : Int32)), .val (.int (Int32.ofNat nk3))] [(.int (2 : Int32))])) _
  obtain ⟨T14, h14, X14, e14, E14, A14, st14⟩ := nwA (n := 2) (cap := 2) (fr := (mkF m 80 #[.val (.ref oa), .val (.ref ob), .val (.int (2 : Int32)), .val (.ref oc), .val (.ref b1), .val (.int (2 : Int32)), .val (.int (4 : Int32)), .val (.int (4 : Int32)), .val (.int (Int32.ofNat nk3))] [(.int (2 : Int32))])) X13 hx hZ (hw _ (List.mem_of_getElem? (i := 0) rfl)) e13 (by decide) (by decide) (by decide) (by decide) (by decide) rfl rfl (hb hby d1_80)
  obtain ⟨b14, g14⟩ : ∃ z, z = h13.size := ⟨_, rfl⟩
  rw [← g14] at A14 st14
  have g_b14 : n0 ≤ b14 := Nat.le_trans Zs13 (Nat.le_of_eq g14.symm)
  have sz_b14 : h0.size ≤ b14 := Nat.le_trans K13.1 (Nat.le_of_eq g14.symm)
  have ne_oa_b14 : oa ≠ b14 := Nat.ne_of_lt (Nat.lt_of_lt_of_le A_oa.lt (Nat.le_of_eq g14.symm))
  have ne_ob_b14 : ob ≠ b14 := Nat.ne_of_lt (Nat.lt_of_lt_of_le A_ob.lt (Nat.le_of_eq g14.symm))
  have ne_oc_b14 : oc ≠ b14 := Nat.ne_of_lt (Nat.lt_of_lt_of_le A_oc.lt (Nat.le_of_eq g14.symm))
  have ne_b1_b14 : b1 ≠ b14 := Nat.ne_of_lt (Nat.lt_of_lt_of_le A_b1.lt (Nat.le_of_eq g14.symm))
  have Zs14 : n0 ≤ h14.size := Nat.le_trans Zs13 E14.1
  have K14 : Keep h0 h14 [oc] := K13.ext E14
  refine Goes.by st14 ?_
  have A_oa : AI Z h14 oa .int 4 pa := A_oa.ext E14
  have A_ob : AI Z h14 ob .int 4 (own_keys nk0 nk1 nk2 nk3) := A_ob.ext E14
  have A_oc : AI Z h14 oc .int 4 (fun _ => (0 : Int32)) := A_oc.ext E14
  have A_b1 : AI Z h14 b1 .int 3 (own_pre 2 nk0 nk1 nk2 nk3) := A_b1.ext E14
  have A_b14 : AI Z h14 b14 .int 2 (fun _ => (0 : Int32)) := A14
  show Goes p.tables e below (T14.setTop (mkF m 82 #[.val (.ref oa), .val (.ref ob), .val (.int (2 : Int32)), .val (.ref oc), .val (.ref b1), .val (.int (2 : Int32)), .val (.int (4 : Int32)), .val (.int (4 : Int32)), .val (.int (Int32.ofNat nk3))] [(.ref b14)])) _
  refine Goes.by (fun _ k => XS.astore X14.here hx rfl (hb hby d1_82) rfl rfl (l' := #[.val (.ref oa), .val (.ref ob), .val (.int (2 : Int32)), .val (.ref oc), .val (.ref b1), .val (.ref b14), .val (.int (4 : Int32)), .val (.int (4 : Int32)), .val (.int (Int32.ofNat nk3))]) rfl k) ?_
  show Goes p.tables e below (T14.setTop (mkF m 84 #[.val (.ref oa), .val (.ref ob), .val (.int (2 : Int32)), .val (.ref oc), .val (.ref b1), .val (.ref b14), .val (.int (4 : Int32)), .val (.int (4 : Int32)), .val (.int (Int32.ofNat nk3))] [])) _
  refine Goes.by (fun _ k => XS.iconst X14.here hx rfl (hb hby d1_84) k) ?_
  show Goes p.tables e below (T14.setTop (mkF m 85 #[.val (.ref oa), .val (.ref ob), .val (.int (2 : Int32)), .val (.ref oc), .val (.ref b1), .val (.ref b14), .val (.int (4 : Int32)), .val (.int (4 : Int32)), .val (.int (Int32.ofNat nk3))] [(.int (0 : Int32))])) _
  refine Goes.by (fun _ k => XS.istore X14.here hx rfl (hb hby d1_85) rfl (l' := #[.val (.ref oa), .val (.ref ob), .val (.int (2 : Int32)), .val (.ref oc), .val (.ref b1), .val (.ref b14), .val (.int (0 : Int32)), .val (.int (4 : Int32)), .val (.int (Int32.ofNat nk3))]) rfl k) ?_
  show Goes p.tables e below (T14.setTop (mkF m 87 #[.val (.ref oa), .val (.ref ob), .val (.int (2 : Int32)), .val (.ref oc), .val (.ref b1), .val (.ref b14), .val (.int (0 : Int32)), .val (.int (4 : Int32)), .val (.int (Int32.ofNat nk3))] [])) _
  refine Goes.by (fun _ k => XS.iload X14.here hx rfl (hb hby d1_87) rfl k) ?_
  show Goes p.tables e below (T14.setTop (mkF m 89 #[.val (.ref oa), .val (.ref ob), .val (.int (2 : Int32)), .val (.ref oc), .val (.ref b1), .val (.ref b14), .val (.int (0 : Int32)), .val (.int (4 : Int32)), .val (.int (Int32.ofNat nk3))] [(.int (0 : Int32))])) _
  refine Goes.by (fun _ k => XS.aloadN X14.here hx rfl (hb hby d1_89) rfl rfl k) ?_
  show Goes p.tables e below (T14.setTop (mkF m 90 #[.val (.ref oa), .val (.ref ob), .val (.int (2 : Int32)), .val (.ref oc), .val (.ref b1), .val (.ref b14), .val (.int (0 : Int32)), .val (.int (4 : Int32)), .val (.int (Int32.ofNat nk3))] [(.ref oa), (.int (0 : Int32))])) _
  refine Goes.by (fun _ k => alen (z := (4 : Int32)) (fr := (mkF m 90 #[.val (.ref oa), .val (.ref ob), .val (.int (2 : Int32)), .val (.ref oc), .val (.ref b1), .val (.ref b14), .val (.int (0 : Int32)), .val (.int (4 : Int32)), .val (.int (Int32.ofNat nk3))] [(.ref oa), (.int (0 : Int32))])) X14 hx hZ e14 A_oa (by decide) rfl rfl (hb hby d1_90) k) ?_
  show Goes p.tables e below (T14.setTop (mkF m 91 #[.val (.ref oa), .val (.ref ob), .val (.int (2 : Int32)), .val (.ref oc), .val (.ref b1), .val (.ref b14), .val (.int (0 : Int32)), .val (.int (4 : Int32)), .val (.int (Int32.ofNat nk3))] [(.int (4 : Int32)), (.int (0 : Int32))])) _
  refine Goes.by (fun _ k => XS.icmpNo X14.here hx rfl (hb hby d1_91) rfl (tlt (by decide : (0 : Int32) < (4 : Int32))).2.1 k) ?_
  show Goes p.tables e below (T14.setTop (mkF m 94 #[.val (.ref oa), .val (.ref ob), .val (.int (2 : Int32)), .val (.ref oc), .val (.ref b1), .val (.ref b14), .val (.int (0 : Int32)), .val (.int (4 : Int32)), .val (.int (Int32.ofNat nk3))] [])) _
  refine Goes.by (fun _ k => XS.aloadN X14.here hx rfl (hb hby d1_94) rfl rfl k) ?_
  show Goes p.tables e below (T14.setTop (mkF m 95 #[.val (.ref oa), .val (.ref ob), .val (.int (2 : Int32)), .val (.ref oc), .val (.ref b1), .val (.ref b14), .val (.int (0 : Int32)), .val (.int (4 : Int32)), .val (.int (Int32.ofNat nk3))] [(.ref oc)])) _
  refine Goes.by (fun _ k => XS.aload X14.here hx rfl (hb hby d1_95) rfl rfl k) ?_
  show Goes p.tables e below (T14.setTop (mkF m 97 #[.val (.ref oa), .val (.ref ob), .val (.int (2 : Int32)), .val (.ref oc), .val (.ref b1), .val (.ref b14), .val (.int (0 : Int32)), .val (.int (4 : Int32)), .val (.int (Int32.ofNat nk3))] [(.ref b1), (.ref oc)])) _
  refine Goes.by (fun _ k => XS.aloadN X14.here hx rfl (hb hby d1_97) rfl rfl k) ?_
  show Goes p.tables e below (T14.setTop (mkF m 98 #[.val (.ref oa), .val (.ref ob), .val (.int (2 : Int32)), .val (.ref oc), .val (.ref b1), .val (.ref b14), .val (.int (0 : Int32)), .val (.int (4 : Int32)), .val (.int (Int32.ofNat nk3))] [(.ref ob), (.ref b1), (.ref oc)])) _
  refine Goes.by (fun _ k => XS.iload X14.here hx rfl (hb hby d1_98) rfl k) ?_
  show Goes p.tables e below (T14.setTop (mkF m 100 #[.val (.ref oa), .val (.ref ob), .val (.int (2 : Int32)), .val (.ref oc), .val (.ref b1), .val (.ref b14), .val (.int (0 : Int32)), .val (.int (4 : Int32)), .val (.int (Int32.ofNat nk3))] [(.int (0 : Int32)), (.ref ob), (.ref b1), (.ref oc)])) _
  refine Goes.by (fun _ k => ldI (v := (Int32.ofNat nk0)) (fr := (mkF m 100 #[.val (.ref oa), .val (.ref ob), .val (.int (2 : Int32)), .val (.ref oc), .val (.ref b1), .val (.ref b14), .val (.int (0 : Int32)), .val (.int (4 : Int32)), .val (.int (Int32.ofNat nk3))] [(.int (0 : Int32)), (.ref ob), (.ref b1), (.ref oc)])) X14 hx hZ e14 A_ob (i := 0) (by decide) (by decide) rfl rfl rfl (hb hby d1_100) k) ?_
  show Goes p.tables e below (T14.setTop (mkF m 101 #[.val (.ref oa), .val (.ref ob), .val (.int (2 : Int32)), .val (.ref oc), .val (.ref b1), .val (.ref b14), .val (.int (0 : Int32)), .val (.int (4 : Int32)), .val (.int (Int32.ofNat nk3))] [(.int (Int32.ofNat nk0)), (.ref b1), (.ref oc)])) _
  refine Goes.by (fun _ k => ldI (v := ((own_pre 2 nk0 nk1 nk2 nk3) nk0)) (fr := (mkF m 101 #[.val (.ref oa), .val (.ref ob), .val (.int (2 : Int32)), .val (.ref oc), .val (.ref b1), .val (.ref b14), .val (.int (0 : Int32)), .val (.int (4 : Int32)), .val (.int (Int32.ofNat nk3))] [(.int (Int32.ofNat nk0)), (.ref b1), (.ref oc)])) X14 hx hZ e14 A_b1 (i := nk0) (own_i0 nk0 (Nat.lt_trans hnk0 (by decide))) (Nat.lt_succ_of_lt hnk0) rfl rfl rfl (hb hby d1_101) k) ?_
  show Goes p.tables e below (T14.setTop (mkF m 102 #[.val (.ref oa), .val (.ref ob), .val (.int (2 : Int32)), .val (.ref oc), .val (.ref b1), .val (.ref b14), .val (.int (0 : Int32)), .val (.int (4 : Int32)), .val (.int (Int32.ofNat nk3))] [(.int ((own_pre 2 nk0 nk1 nk2 nk3) nk0)), (.ref oc)])) _
  refine Goes.by (fun _ k => XS.aload X14.here hx rfl (hb hby d1_102) rfl rfl k) ?_
  show Goes p.tables e below (T14.setTop (mkF m 104 #[.val (.ref oa), .val (.ref ob), .val (.int (2 : Int32)), .val (.ref oc), .val (.ref b1), .val (.ref b14), .val (.int (0 : Int32)), .val (.int (4 : Int32)), .val (.int (Int32.ofNat nk3))] [(.ref b14), (.int ((own_pre 2 nk0 nk1 nk2 nk3) nk0)), (.ref oc)])) _
  refine Goes.by (fun _ k => XS.aloadN X14.here hx rfl (hb hby d1_104) rfl rfl k) ?_
  show Goes p.tables e below (T14.setTop (mkF m 105 #[.val (.ref oa), .val (.ref ob), .val (.int (2 : Int32)), .val (.ref oc), .val (.ref b1), .val (.ref b14), .val (.int (0 : Int32)), .val (.int (4 : Int32)), .val (.int (Int32.ofNat nk3))] [(.ref ob), (.ref b14), (.int ((own_pre 2 nk0 nk1 nk2 nk3) nk0)), (.ref oc)])) _
  refine Goes.by (fun _ k => XS.iload X14.here hx rfl (hb hby d1_105) rfl k) ?_
  show Goes p.tables e below (T14.setTop (mkF m 107 #[.val (.ref oa), .val (.ref ob), .val (.int (2 : Int32)), .val (.ref oc), .val (.ref b1), .val (.ref b14), .val (.int (0 : Int32)), .val (.int (4 : Int32)), .val (.int (Int32.ofNat nk3))] [(.int (0 : Int32)), (.ref ob), (.ref b14), (.int ((own_pre 2 nk0 nk1 nk2 nk3) nk0)), (.ref oc)])) _
  refine Goes.by (fun _ k => ldI (v := (Int32.ofNat nk0)) (fr := (mkF m 107 #[.val (.ref oa), .val (.ref ob), .val (.int (2 : Int32)), .val (.ref oc), .val (.ref b1), .val (.ref b14), .val (.int (0 : Int32)), .val (.int (4 : Int32)), .val (.int (Int32.ofNat nk3))] [(.int (0 : Int32)), (.ref ob), (.ref b14), (.int ((own_pre 2 nk0 nk1 nk2 nk3) nk0)), (.ref oc)])) X14 hx hZ e14 A_ob (i := 0) (by decide) (by decide) rfl rfl rfl (hb hby d1_107) k) ?_
  show Goes p.tables e below (T14.setTop (mkF m 108 #[.val (.ref oa), .val (.ref ob), .val (.int (2 : Int32)), .val (.ref oc), .val (.ref b1), .val (.ref b14), .val (.int (0 : Int32)), .val (.int (4 : Int32)), .val (.int (Int32.ofNat nk3))] [(.int (Int32.ofNat nk0)), (.ref b14), (.int ((own_pre 2 nk0 nk1 nk2 nk3) nk0)), (.ref oc)])) _
  have sd15 : ∀ u, Steps p.tables e below (T14.setTop (mkF m 109 #[.val (.ref oa), .val (.ref ob), .val (.int (2 : Int32)), .val (.ref oc), .val (.ref b1), .val (.ref b14), .val (.int (0 : Int32)), .val (.int (4 : Int32)), .val (.int (Int32.ofNat nk3))] [(.int (Int32.ofNat nk0)), (.ref b14), (.int (Int32.ofNat nk0)), (.ref b14), (.int ((own_pre 2 nk0 nk1 nk2 nk3) nk0)), (.ref oc)])) u → Steps p.tables e below (T14.setTop (mkF m 108 #[.val (.ref oa), .val (.ref ob), .val (.int (2 : Int32)), .val (.ref oc), .val (.ref b1), .val (.ref b14), .val (.int (0 : Int32)), .val (.int (4 : Int32)), .val (.int (Int32.ofNat nk3))] [(.int (Int32.ofNat nk0)), (.ref b14), (.int ((own_pre 2 nk0 nk1 nk2 nk3) nk0)), (.ref oc)])) u := by
    intro u k
    jvm_step X14.here [X14.here.top, hx, (hb hby d1_108), Value.category]
    exact k
  refine Goes.by (fun _ k => sd15 _ k) ?_
  show Goes p.tables e below (T14.setTop (mkF m 109 #[.val (.ref oa), .val (.ref ob), .val (.int (2 : Int32)), .val (.ref oc), .val (.ref b1), .val (.ref b14), .val (.int (0 : Int32)), .val (.int (4 : Int32)), .val (.int (Int32.ofNat nk3))] [(.int (Int32.ofNat nk0)), (.ref b14), (.int (Int32.ofNat nk0)), (.ref b14), (.int ((own_pre 2 nk0 nk1 nk2 nk3) nk0)), (.ref oc)])) _
  refine Goes.by (fun _ k => ldI (v := ((fun _ => (0 : Int32)) nk0)) (fr := (mkF m 109 #[.val (.ref oa), .val (.ref ob), .val (.int (2 : Int32)), .val (.ref oc), .val (.ref b1), .val (.ref b14), .val (.int (0 : Int32)), .val (.int (4 : Int32)), .val (.int (Int32.ofNat nk3))] [(.int (Int32.ofNat nk0)), (.ref b14), (.int (Int32.ofNat nk0)), (.ref b14), (.int ((own_pre 2 nk0 nk1 nk2 nk3) nk0)), (.ref oc)])) X14 hx hZ e14 A_b14 (i := nk0) (own_i0 nk0 (Nat.lt_trans hnk0 (by decide))) hnk0 rfl rfl rfl (hb hby d1_109) k) ?_
  show Goes p.tables e below (T14.setTop (mkF m 110 #[.val (.ref oa), .val (.ref ob), .val (.int (2 : Int32)), .val (.ref oc), .val (.ref b1), .val (.ref b14), .val (.int (0 : Int32)), .val (.int (4 : Int32)), .val (.int (Int32.ofNat nk3))] [(.int ((fun _ => (0 : Int32)) nk0)), (.int (Int32.ofNat nk0)), (.ref b14), (.int ((own_pre 2 nk0 nk1 nk2 nk3) nk0)), (.ref oc)])) _
  have sd16 : ∀ u, Steps p.tables e below (T14.setTop (mkF m 111 #[.val (.ref oa), .val (.ref ob), .val (.int (2 : Int32)), .val (.ref oc), .val (.ref b1), .val (.ref b14), .val (.int (0 : Int32)), .val (.int (4 : Int32)), .val (.int (Int32.ofNat nk3))] [(.int ((fun _ => (0 : Int32)) nk0)), (.int (Int32.ofNat nk0)), (.ref b14), (.int ((fun _ => (0 : Int32)) nk0)), (.int ((own_pre 2 nk0 nk1 nk2 nk3) nk0)), (.ref oc)])) u → Steps p.tables e below (T14.setTop (mkF m 110 #[.val (.ref oa), .val (.ref ob), .val (.int (2 : Int32)), .val (.ref oc), .val (.ref b1), .val (.ref b14), .val (.int (0 : Int32)), .val (.int (4 : Int32)), .val (.int (Int32.ofNat nk3))] [(.int ((fun _ => (0 : Int32)) nk0)), (.int (Int32.ofNat nk0)), (.ref b14), (.int ((own_pre 2 nk0 nk1 nk2 nk3) nk0)), (.ref oc)])) u := by
    intro u k
    jvm_step X14.here [X14.here.top, hx, (hb hby d1_110), Value.category]
    exact k
  refine Goes.by (fun _ k => sd16 _ k) ?_
  show Goes p.tables e below (T14.setTop (mkF m 111 #[.val (.ref oa), .val (.ref ob), .val (.int (2 : Int32)), .val (.ref oc), .val (.ref b1), .val (.ref b14), .val (.int (0 : Int32)), .val (.int (4 : Int32)), .val (.int (Int32.ofNat nk3))] [(.int ((fun _ => (0 : Int32)) nk0)), (.int (Int32.ofNat nk0)), (.ref b14), (.int ((fun _ => (0 : Int32)) nk0)), (.int ((own_pre 2 nk0 nk1 nk2 nk3) nk0)), (.ref oc)])) _
  refine Goes.by (fun _ k => XS.iconst X14.here hx rfl (hb hby d1_111) k) ?_
  show Goes p.tables e below (T14.setTop (mkF m 112 #[.val (.ref oa), .val (.ref ob), .val (.int (2 : Int32)), .val (.ref oc), .val (.ref b1), .val (.ref b14), .val (.int (0 : Int32)), .val (.int (4 : Int32)), .val (.int (Int32.ofNat nk3))] [(.int (1 : Int32)), (.int ((fun _ => (0 : Int32)) nk0)), (.int (Int32.ofNat nk0)), (.ref b14), (.int ((fun _ => (0 : Int32)) nk0)), (.int ((own_pre 2 nk0 nk1 nk2 nk3) nk0)), (.ref oc)])) _
  refine Goes.by (fun _ k => XS.iadd X14.here hx rfl (hb hby d1_112) rfl k) ?_
  show Goes p.tables e below (T14.setTop (mkF m 113 #[.val (.ref oa), .val (.ref ob), .val (.int (2 : Int32)), .val (.ref oc), .val (.ref b1), .val (.ref b14), .val (.int (0 : Int32)), .val (.int (4 : Int32)), .val (.int (Int32.ofNat nk3))] [(.int (((fun _ => (0 : Int32)) nk0) + (1 : Int32))), (.int (Int32.ofNat nk0)), (.ref b14), (.int ((fun _ => (0 : Int32)) nk0)), (.int ((own_pre 2 nk0 nk1 nk2 nk3) nk0)), (.ref oc)])) _
  obtain ⟨T17, h17, X17, e17, W17, A17, st17⟩ := stAI (fr := (mkF m 113 #[.val (.ref oa), .val (.ref ob), .val (.int (2 : Int32)), .val (.ref oc), .val (.ref b1), .val (.ref b14), .val (.int (0 : Int32)), .val (.int (4 : Int32)), .val (.int (Int32.ofNat nk3))] [(.int (((fun _ => (0 : Int32)) nk0) + (1 : Int32))), (.int (Int32.ofNat nk0)), (.ref b14), (.int ((fun _ => (0 : Int32)) nk0)), (.int ((own_pre 2 nk0 nk1 nk2 nk3) nk0)), (.ref oc)])) X14 hx hZ e14 A_b14 (i := nk0) (own_i0 nk0 (Nat.lt_trans hnk0 (by decide))) hnk0 rfl rfl (hb hby d1_113)
  refine Goes.by st17 ?_
  have A_b14 : AI Z h17 b14 .int 2 (own_nx1 nk0 nk1 nk2 nk3) := A17.congr (fun j hj => own_g2_1 ⟨nk0, hnk0⟩ ⟨nk1, hnk1⟩ ⟨nk2, hnk2⟩ ⟨nk3, hnk3⟩ ⟨j, hj⟩)
  have N17 := Fr.snoc X17 N13 g_b14
  have Zs17 : n0 ≤ h17.size := Nat.le_trans Zs14 (Keep.of_wr W17).1
  have K17 : Keep h0 h17 [oc] := K14.wr W17 (Or.inr sz_b14)
  have A_oa : AI Z h17 oa .int 4 pa := A_oa.other W17 ne_oa_b14
  have A_ob : AI Z h17 ob .int 4 (own_keys nk0 nk1 nk2 nk3) := A_ob.other W17 ne_ob_b14
  have A_oc : AI Z h17 oc .int 4 (fun _ => (0 : Int32)) := A_oc.other W17 ne_oc_b14
  have A_b1 : AI Z h17 b1 .int 3 (own_pre 2 nk0 nk1 nk2 nk3) := A_b1.other W17 ne_b1_b14
  show Goes p.tables e below (T17.setTop (mkF m 114 #[.val (.ref oa), .val (.ref ob), .val (.int (2 : Int32)), .val (.ref oc), .val (.ref b1), .val (.ref b14), .val (.int (0 : Int32)), .val (.int (4 : Int32)), .val (.int (Int32.ofNat nk3))] [(.int ((fun _ => (0 : Int32)) nk0)), (.int ((own_pre 2 nk0 nk1 nk2 nk3) nk0)), (.ref oc)])) _
  refine Goes.by (fun _ k => XS.iadd X17.here hx rfl (hb hby d1_114) rfl k) ?_
  show Goes p.tables e below (T17.setTop (mkF m 115 #[.val (.ref oa), .val (.ref ob), .val (.int (2 : Int32)), .val (.ref oc), .val (.ref b1), .val (.ref b14), .val (.int (0 : Int32)), .val (.int (4 : Int32)), .val (.int (Int32.ofNat nk3))] [(.int (((own_pre 2 nk0 nk1 nk2 nk3) nk0) + ((fun _ => (0 : Int32)) nk0))), (.ref oc)])) _
  refine Goes.by (fun _ k => XS.aloadN X17.here hx rfl (hb hby d1_115) rfl rfl k) ?_
  show Goes p.tables e below (T17.setTop (mkF m 116 #[.val (.ref oa), .val (.ref ob), .val (.int (2 : Int32)), .val (.ref oc), .val (.ref b1), .val (.ref b14), .val (.int (0 : Int32)), .val (.int (4 : Int32)), .val (.int (Int32.ofNat nk3))] [(.ref oa), (.int (((own_pre 2 nk0 nk1 nk2 nk3) nk0) + ((fun _ => (0 : Int32)) nk0))), (.ref oc)])) _
  refine Goes.by (fun _ k => XS.iload X17.here hx rfl (hb hby d1_116) rfl k) ?_
  show Goes p.tables e below (T17.setTop (mkF m 118 #[.val (.ref oa), .val (.ref ob), .val (.int (2 : Int32)), .val (.ref oc), .val (.ref b1), .val (.ref b14), .val (.int (0 : Int32)), .val (.int (4 : Int32)), .val (.int (Int32.ofNat nk3))] [(.int (0 : Int32)), (.ref oa), (.int (((own_pre 2 nk0 nk1 nk2 nk3) nk0) + ((fun _ => (0 : Int32)) nk0))), (.ref oc)])) _
  refine Goes.by (fun _ k => ldI (v := (pa 0)) (fr := (mkF m 118 #[.val (.ref oa), .val (.ref ob), .val (.int (2 : Int32)), .val (.ref oc), .val (.ref b1), .val (.ref b14), .val (.int (0 : Int32)), .val (.int (4 : Int32)), .val (.int (Int32.ofNat nk3))] [(.int (0 : Int32)), (.ref oa), (.int (((own_pre 2 nk0 nk1 nk2 nk3) nk0) + ((fun _ => (0 : Int32)) nk0))), (.ref oc)])) X17 hx hZ e17 A_oa (i := 0) (by decide) (by decide) rfl rfl rfl (hb hby d1_118) k) ?_
  show Goes p.tables e below (T17.setTop (mkF m 119 #[.val (.ref oa), .val (.ref ob), .val (.int (2 : Int32)), .val (.ref oc), .val (.ref b1), .val (.ref b14), .val (.int (0 : Int32)), .val (.int (4 : Int32)), .val (.int (Int32.ofNat nk3))] [(.int (pa 0)), (.int (((own_pre 2 nk0 nk1 nk2 nk3) nk0) + ((fun _ => (0 : Int32)) nk0))), (.ref oc)])) _
  obtain ⟨T18, h18, X18, e18, W18, A18, st18⟩ := stAI (fr := (mkF m 119 #[.val (.ref oa), .val (.ref ob), .val (.int (2 : Int32)), .val (.ref oc), .val (.ref b1), .val (.ref b14), .val (.int (0 : Int32)), .val (.int (4 : Int32)), .val (.int (Int32.ofNat nk3))] [(.int (pa 0)), (.int (((own_pre 2 nk0 nk1 nk2 nk3) nk0) + ((fun _ => (0 : Int32)) nk0))), (.ref oc)])) X17 hx hZ e17 A_oc (i := (own_rank0 nk0 nk1 nk2 nk3)) (own_pl2_0 ⟨nk0, hnk0⟩ ⟨nk1, hnk1⟩ ⟨nk2, hnk2⟩ ⟨nk3, hnk3⟩).1 (own_pl2_0 ⟨nk0, hnk0⟩ ⟨nk1, hnk1⟩ ⟨nk2, hnk2⟩ ⟨nk3, hnk3⟩).2 rfl rfl (hb hby d1_119)
  refine Goes.by st18 ?_
  have A_oc : AI Z h18 oc .int 4 (up (fun _ => (0 : Int32)) (own_rank0 nk0 nk1 nk2 nk3) (pa 0)) := A18
  have N18 := Fr.snoc X18 N17 g_oc
  have Zs18 : n0 ≤ h18.size := Nat.le_trans Zs17 (Keep.of_wr W18).1
  have K18 : Keep h0 h18 [oc] := K17.wr W18 (Or.inl (List.mem_of_getElem? (i := 0) rfl))
  have A_oa : AI Z h18 oa .int 4 pa := A_oa.other W18 ne_oa_oc
  have A_ob : AI Z h18 ob .int 4 (own_keys nk0 nk1 nk2 nk3) := A_ob.other W18 ne_ob_oc
  have A_b1 : AI Z h18 b1 .int 3 (own_pre 2 nk0 nk1 nk2 nk3) := A_b1.other W18 (Ne.symm ne_oc_b1)
  have A_b14 : AI Z h18 b14 .int 2 (own_nx1 nk0 nk1 nk2 nk3) := A_b14.other W18 (Ne.symm ne_oc_b14)
  show Goes p.tables e below (T18.setTop (mkF m 120 #[.val (.ref oa), .val (.ref ob), .val (.int (2 : Int32)), .val (.ref oc), .val (.ref b1), .val (.ref b14), .val (.int (0 : Int32)), .val (.int (4 : Int32)), .val (.int (Int32.ofNat nk3))] [])) _
  refine Goes.by (fun _ k => XS.iinc X18.here hx rfl (hb hby d1_120) rfl (l' := #[.val (.ref oa), .val (.ref ob), .val (.int (2 : Int32)), .val (.ref oc), .val (.ref b1), .val (.ref b14), .val (.int (1 : Int32)), .val (.int (4 : Int32)), .val (.int (Int32.ofNat nk3))]) rfl k) ?_
  show Goes p.tables e below (T18.setTop (mkF m 123 #[.val (.ref oa), .val (.ref ob), .val (.int (2 : Int32)), .val (.ref oc), .val (.ref b1), .val (.ref b14), .val (.int (1 : Int32)), .val (.int (4 : Int32)), .val (.int (Int32.ofNat nk3))] [])) _
  refine Goes.by (fun _ k => XS.goto X18.here hx rfl (pc0 := 123) (pc' := 87) rfl (hb hby d1_123) (by decide) (by decide) k) ?_
  show Goes p.tables e below (T18.setTop (mkF m 87 #[.val (.ref oa), .val (.ref ob), .val (.int (2 : Int32)), .val (.ref oc), .val (.ref b1), .val (.ref b14), .val (.int (1 : Int32)), .val (.int (4 : Int32)), .val (.int (Int32.ofNat nk3))] [])) _
  refine Goes.by (fun _ k => XS.iload X18.here hx rfl (hb hby d1_87) rfl k) ?_
  show Goes p.tables e below (T18.setTop (mkF m 89 #[.val (.ref oa), .val (.ref ob), .val (.int (2 : Int32)), .val (.ref oc), .val (.ref b1), .val (.ref b14), .val (.int (1 : Int32)), .val (.int (4 : Int32)), .val (.int (Int32.ofNat nk3))] [(.int (1 : Int32))])) _
  refine Goes.by (fun _ k => XS.aloadN X18.here hx rfl (hb hby d1_89) rfl rfl k) ?_
  show Goes p.tables e below (T18.setTop (mkF m 90 #[.val (.ref oa), .val (.ref ob), .val (.int (2 : Int32)), .val (.ref oc), .val (.ref b1), .val (.ref b14), .val (.int (1 : Int32)), .val (.int (4 : Int32)), .val (.int (Int32.ofNat nk3))] [(.ref oa), (.int (1 : Int32))])) _
  refine Goes.by (fun _ k => alen (z := (4 : Int32)) (fr := (mkF m 90 #[.val (.ref oa), .val (.ref ob), .val (.int (2 : Int32)), .val (.ref oc), .val (.ref b1), .val (.ref b14), .val (.int (1 : Int32)), .val (.int (4 : Int32)), .val (.int (Int32.ofNat nk3))] [(.ref oa), (.int (1 : Int32))])) X18 hx hZ e18 A_oa (by decide) rfl rfl (hb hby d1_90) k) ?_
  show Goes p.tables e below (T18.setTop (mkF m 91 #[.val (.ref oa), .val (.ref ob), .val (.int (2 : Int32)), .val (.ref oc), .val (.ref b1), .val (.ref b14), .val (.int (1 : Int32)), .val (.int (4 : Int32)), .val (.int (Int32.ofNat nk3))] [(.int (4 : Int32)), (.int (1 : Int32))])) _
  refine Goes.by (fun _ k => XS.icmpNo X18.here hx rfl (hb hby d1_91) rfl (tlt (by decide : (1 : Int32) < (4 : Int32))).2.1 k) ?_
  show Goes p.tables e below (T18.setTop (mkF m 94 #[.val (.ref oa), .val (.ref ob), .val (.int (2 : Int32)), .val (.ref oc), .val (.ref b1), .val (.ref b14), .val (.int (1 : Int32)), .val (.int (4 : Int32)), .val (.int (Int32.ofNat nk3))] [])) _
  refine Goes.by (fun _ k => XS.aloadN X18.here hx rfl (hb hby d1_94) rfl rfl k) ?_
  show Goes p.tables e below (T18.setTop (mkF m 95 #[.val (.ref oa), .val (.ref ob), .val (.int (2 : Int32)), .val (.ref oc), .val (.ref b1), .val (.ref b14), .val (.int (1 : Int32)), .val (.int (4 : Int32)), .val (.int (Int32.ofNat nk3))] [(.ref oc)])) _
  refine Goes.by (fun _ k => XS.aload X18.here hx rfl (hb hby d1_95) rfl rfl k) ?_
  show Goes p.tables e below (T18.setTop (mkF m 97 #[.val (.ref oa), .val (.ref ob), .val (.int (2 : Int32)), .val (.ref oc), .val (.ref b1), .val (.ref b14), .val (.int (1 : Int32)), .val (.int (4 : Int32)), .val (.int (Int32.ofNat nk3))] [(.ref b1), (.ref oc)])) _
  refine Goes.by (fun _ k => XS.aloadN X18.here hx rfl (hb hby d1_97) rfl rfl k) ?_
  show Goes p.tables e below (T18.setTop (mkF m 98 #[.val (.ref oa), .val (.ref ob), .val (.int (2 : Int32)), .val (.ref oc), .val (.ref b1), .val (.ref b14), .val (.int (1 : Int32)), .val (.int (4 : Int32)), .val (.int (Int32.ofNat nk3))] [(.ref ob), (.ref b1), (.ref oc)])) _
  refine Goes.by (fun _ k => XS.iload X18.here hx rfl (hb hby d1_98) rfl k) ?_
  show Goes p.tables e below (T18.setTop (mkF m 100 #[.val (.ref oa), .val (.ref ob), .val (.int (2 : Int32)), .val (.ref oc), .val (.ref b1), .val (.ref b14), .val (.int (1 : Int32)), .val (.int (4 : Int32)), .val (.int (Int32.ofNat nk3))] [(.int (1 : Int32)), (.ref ob), (.ref b1), (.ref oc)])) _
  refine Goes.by (fun _ k => ldI (v := (Int32.ofNat nk1)) (fr := (mkF m 100 #[.val (.ref oa), .val (.ref ob), .val (.int (2 : Int32)), .val (.ref oc), .val (.ref b1), .val (.ref b14), .val (.int (1 : Int32)), .val (.int (4 : Int32)), .val (.int (Int32.ofNat nk3))] [(.int (1 : Int32)), (.ref ob), (.ref b1), (.ref oc)])) X18 hx hZ e18 A_ob (i := 1) (by decide) (by decide) rfl rfl rfl (hb hby d1_100) k) ?_
  show Goes p.tables e below (T18.setTop (mkF m 101 #[.val (.ref oa), .val (.ref ob), .val (.int (2 : Int32)), .val (.ref oc), .val (.ref b1), .val (.ref b14), .val (.int (1 : Int32)), .val (.int (4 : Int32)), .val (.int (Int32.ofNat nk3))] [(.int (Int32.ofNat nk1)), (.ref b1), (.ref oc)])) _
  refine Goes.by (fun _ k => ldI (v := ((own_pre 2 nk0 nk1 nk2 nk3) nk1)) (fr := (mkF m 101 #[.val (.ref oa), .val (.ref ob), .val (.int (2 : Int32)), .val (.ref oc), .val (.ref b1), .val (.ref b14), .val (.int (1 : Int32)), .val (.int (4 : Int32)), .val (.int (Int32.ofNat nk3))] [(.int (Int32.ofNat nk1)), (.ref b1), (.ref oc)])) X18 hx hZ e18 A_b1 (i := nk1) (own_i0 nk1 (Nat.lt_trans hnk1 (by decide))) (Nat.lt_succ_of_lt hnk1) rfl rfl rfl (hb hby d1_101) k) ?_
  show Goes p.tables e below (T18.setTop (mkF m 102 #[.val (.ref oa), .val (.ref ob), .val (.int (2 : Int32)), .val (.ref oc), .val (.ref b1), .val (.ref b14), .val (.int (1 : Int32)), .val (.int (4 : Int32)), .val (.int (Int32.ofNat nk3))] [(.int ((own_pre 2 nk0 nk1 nk2 nk3) nk1)), (.ref oc)])) _
  refine Goes.by (fun _ k => XS.aload X18.here hx rfl (hb hby d1_102) rfl rfl k) ?_
  show Goes p.tables e below (T18.setTop (mkF m 104 #[.val (.ref oa), .val (.ref ob), .val (.int (2 : Int32)), .val (.ref oc), .val (.ref b1), .val (.ref b14), .val (.int (1 : Int32)), .val (.int (4 : Int32)), .val (.int (Int32.ofNat nk3))] [(.ref b14), (.int ((own_pre 2 nk0 nk1 nk2 nk3) nk1)), (.ref oc)])) _
  refine Goes.by (fun _ k => XS.aloadN X18.here hx rfl (hb hby d1_104) rfl rfl k) ?_
  show Goes p.tables e below (T18.setTop (mkF m 105 #[.val (.ref oa), .val (.ref ob), .val (.int (2 : Int32)), .val (.ref oc), .val (.ref b1), .val (.ref b14), .val (.int (1 : Int32)), .val (.int (4 : Int32)), .val (.int (Int32.ofNat nk3))] [(.ref ob), (.ref b14), (.int ((own_pre 2 nk0 nk1 nk2 nk3) nk1)), (.ref oc)])) _
  refine Goes.by (fun _ k => XS.iload X18.here hx rfl (hb hby d1_105) rfl k) ?_
  show Goes p.tables e below (T18.setTop (mkF m 107 #[.val (.ref oa), .val (.ref ob), .val (.int (2 : Int32)), .val (.ref oc), .val (.ref b1), .val (.ref b14), .val (.int (1 : Int32)), .val (.int (4 : Int32)), .val (.int (Int32.ofNat nk3))] [(.int (1 : Int32)), (.ref ob), (.ref b14), (.int ((own_pre 2 nk0 nk1 nk2 nk3) nk1)), (.ref oc)])) _
  refine Goes.by (fun _ k => ldI (v := (Int32.ofNat nk1)) (fr := (mkF m 107 #[.val (.ref oa), .val (.ref ob), .val (.int (2 : Int32)), .val (.ref oc), .val (.ref b1), .val (.ref b14), .val (.int (1 : Int32)), .val (.int (4 : Int32)), .val (.int (Int32.ofNat nk3))] [(.int (1 : Int32)), (.ref ob), (.ref b14), (.int ((own_pre 2 nk0 nk1 nk2 nk3) nk1)), (.ref oc)])) X18 hx hZ e18 A_ob (i := 1) (by decide) (by decide) rfl rfl rfl (hb hby d1_107) k) ?_
  show Goes p.tables e below (T18.setTop (mkF m 108 #[.val (.ref oa), .val (.ref ob), .val (.int (2 : Int32)), .val (.ref oc), .val (.ref b1), .val (.ref b14), .val (.int (1 : Int32)), .val (.int (4 : Int32)), .val (.int (Int32.ofNat nk3))] [(.int (Int32.ofNat nk1)), (.ref b14), (.int ((own_pre 2 nk0 nk1 nk2 nk3) nk1)), (.ref oc)])) _
  have sd19 : ∀ u, Steps p.tables e below (T18.setTop (mkF m 109 #[.val (.ref oa), .val (.ref ob), .val (.int (2 : Int32)), .val (.ref oc), .val (.ref b1), .val (.ref b14), .val (.int (1 : Int32)), .val (.int (4 : Int32)), .val (.int (Int32.ofNat nk3))] [(.int (Int32.ofNat nk1)), (.ref b14), (.int (Int32.ofNat nk1)), (.ref b14), (.int ((own_pre 2 nk0 nk1 nk2 nk3) nk1)), (.ref oc)])) u → Steps p.tables e below (T18.setTop (mkF m 108 #[.val (.ref oa), .val (.ref ob), .val (.int (2 : Int32)), .val (.ref oc), .val (.ref b1), .val (.ref b14), .val (.int (1 : Int32)), .val (.int (4 : Int32)), .val (.int (Int32.ofNat nk3))] [(.int (Int32.ofNat nk1)), (.ref b14), (.int ((own_pre 2 nk0 nk1 nk2 nk3) nk1)), (.ref oc)])) u := by
    intro u k
    jvm_step X18.here [X18.here.top, hx, (hb hby d1_108), Value.category]
    exact k
  refine Goes.by (fun _ k => sd19 _ k) ?_
  show Goes p.tables e below (T18.setTop (mkF m 109 #[.val (.ref oa), .val (.ref ob), .val (.int (2 : Int32)), .val (.ref oc), .val (.ref b1), .val (.ref b14), .val (.int (1 : Int32)), .val (.int (4 : Int32)), .val (.int (Int32.ofNat nk3))] [(.int (Int32.ofNat nk1)), (.ref b14), (.int (Int32.ofNat nk1)), (.ref b14), (.int ((own_pre 2 nk0 nk1 nk2 nk3) nk1)), (.ref oc)])) _
  refine Goes.by (fun _ k => ldI (v := ((own_nx1 nk0 nk1 nk2 nk3) nk1)) (fr := (mkF m 109 #[.val (.ref oa), .val (.ref ob), .val (.int (2 : Int32)), .val (.ref oc), .val (.ref b1), .val (.ref b14), .val (.int (1 : Int32)), .val (.int (4 : Int32)), .val (.int (Int32.ofNat nk3))] [(.int (Int32.ofNat nk1)), (.ref b14), (.int (Int32.ofNat nk1)), (.ref b14), (.int ((own_pre 2 nk0 nk1 nk2 nk3) nk1)), (.ref oc)])) X18 hx hZ e18 A_b14 (i := nk1) (own_i0 nk1 (Nat.lt_trans hnk1 (by decide))) hnk1 rfl rfl rfl (hb hby d1_109) k) ?_
  show Goes p.tables e below (T18.setTop (mkF m 110 #[.val (.ref oa), .val (.ref ob), .val (.int (2 : Int32)), .val (.ref oc), .val (.ref b1), .val (.ref b14), .val (.int (1 : Int32)), .val (.int (4 : Int32)), .val (.int (Int32.ofNat nk3))] [(.int ((own_nx1 nk0 nk1 nk2 nk3) nk1)), (.int (Int32.ofNat nk1)), (.ref b14), (.int ((own_pre 2 nk0 nk1 nk2 nk3) nk1)), (.ref oc)])) _
  have sd20 : ∀ u, Steps p.tables e below (T18.setTop (mkF m 111 #[.val (.ref oa), .val (.ref ob), .val (.int (2 : Int32)), .val (.ref oc), .val (.ref b1), .val (.ref b14), .val (.int (1 : Int32)), .val (.int (4 : Int32)), .val (.int (Int32.ofNat nk3))] [(.int ((own_nx1 nk0 nk1 nk2 nk3) nk1)), (.int (Int32.ofNat nk1)), (.ref b14), (.int ((own_nx1 nk0 nk1 nk2 nk3) nk1)), (.int ((own_pre 2 nk0 nk1 nk2 nk3) nk1)), (.ref oc)])) u → Steps p.tables e below (T18.setTop (mkF m 110 #[.val (.ref oa), .val (.ref ob), .val (.int (2 : Int32)), .val (.ref oc), .val (.ref b1), .val (.ref b14), .val (.int (1 : Int32)), .val (.int (4 : Int32)), .val (.int (Int32.ofNat nk3))] [(.int ((own_nx1 nk0 nk1 nk2 nk3) nk1)), (.int (Int32.ofNat nk1)), (.ref b14), (.int ((own_pre 2 nk0 nk1 nk2 nk3) nk1)), (.ref oc)])) u := by
    intro u k
    jvm_step X18.here [X18.here.top, hx, (hb hby d1_110), Value.category]
    exact k
  refine Goes.by (fun _ k => sd20 _ k) ?_
  show Goes p.tables e below (T18.setTop (mkF m 111 #[.val (.ref oa), .val (.ref ob), .val (.int (2 : Int32)), .val (.ref oc), .val (.ref b1), .val (.ref b14), .val (.int (1 : Int32)), .val (.int (4 : Int32)), .val (.int (Int32.ofNat nk3))] [(.int ((own_nx1 nk0 nk1 nk2 nk3) nk1)), (.int (Int32.ofNat nk1)), (.ref b14), (.int ((own_nx1 nk0 nk1 nk2 nk3) nk1)), (.int ((own_pre 2 nk0 nk1 nk2 nk3) nk1)), (.ref oc)])) _
  refine Goes.by (fun _ k => XS.iconst X18.here hx rfl (hb hby d1_111) k) ?_
  show Goes p.tables e below (T18.setTop (mkF m 112 #[.val (.ref oa), .val (.ref ob), .val (.int (2 : Int32)), .val (.ref oc), .val (.ref b1), .val (.ref b14), .val (.int (1 : Int32)), .val (.int (4 : Int32)), .val (.int (Int32.ofNat nk3))] [(.int (1 : Int32)), (.int ((own_nx1 nk0 nk1 nk2 nk3) nk1)), (.int (Int32.ofNat nk1)), (.ref b14), (.int ((own_nx1 nk0 nk1 nk2 nk3) nk1)), (.int ((own_pre 2 nk0 nk1 nk2 nk3) nk1)), (.ref oc)])) _
  refine Goes.by (fun _ k => XS.iadd X18.here hx rfl (hb hby d1_112) rfl k) ?_
  show Goes p.tables e below (T18.setTop (mkF m 113 #[.val (.ref oa), .val (.ref ob), .val (.int (2 : Int32)), .val (.ref oc), .val (.ref b1), .val (.ref b14), .val (.int (1 : Int32)), .val (.int (4 : Int32)), .val (.int (Int32.ofNat nk3))] [(.int (((own_nx1 nk0 nk1 nk2 nk3) nk1) + (1 : Int32))), (.int (Int32.ofNat nk1)), (.ref b14), (.int ((own_nx1 nk0 nk1 nk2 nk3) nk1)), (.int ((own_pre 2 nk0 nk1 nk2 nk3) nk1)), (.ref oc)])) _
  obtain ⟨T21, h21, X21, e21, W21, A21, st21⟩ := stAI (fr := (mkF m 113 #[.val (.ref oa), .val (.ref ob), .val (.int (2 : Int32)), .val (.ref oc), .val (.ref b1), .val (.ref b14), .val (.int (1 : Int32)), .val (.int (4 : Int32)), .val (.int (Int32.ofNat nk3))] [(.int (((own_nx1 nk0 nk1 nk2 nk3) nk1) + (1 : Int32))), (.int (Int32.ofNat nk1)), (.ref b14), (.int ((own_nx1 nk0 nk1 nk2 nk3) nk1)), (.int ((own_pre 2 nk0 nk1 nk2 nk3) nk1)), (.ref oc)])) X18 hx hZ e18 A_b14 (i := nk1) (own_i0 nk1 (Nat.lt_trans hnk1 (by decide))) hnk1 rfl rfl (hb hby d1_113)
  refine Goes.by st21 ?_
  have A_b14 : AI Z h21 b14 .int 2 (own_nx2 nk0 nk1 nk2 nk3) := A21.congr (fun j hj => own_g2_2 ⟨nk0, hnk0⟩ ⟨nk1, hnk1⟩ ⟨nk2, hnk2⟩ ⟨nk3, hnk3⟩ ⟨j, hj⟩)
  have N21 := Fr.snoc X21 N18 g_b14
  have Zs21 : n0 ≤ h21.size := Nat.le_trans Zs18 (Keep.of_wr W21).1
  have K21 : Keep h0 h21 [oc] := K18.wr W21 (Or.inr sz_b14)
  have A_oa : AI Z h21 oa .int 4 pa := A_oa.other W21 ne_oa_b14
  have A_ob : AI Z h21 ob .int 4 (own_keys nk0 nk1 nk2 nk3) := A_ob.other W21 ne_ob_b14
  have A_oc : AI Z h21 oc .int 4 (up (fun _ => (0 : Int32)) (own_rank0 nk0 nk1 nk2 nk3) (pa 0)) := A_oc.other W21 ne_oc_b14
  have A_b1 : AI Z h21 b1 .int 3 (own_pre 2 nk0 nk1 nk2 nk3) := A_b1.other W21 ne_b1_b14
  show Goes p.tables e below (T21.setTop (mkF m 114 #[.val (.ref oa), .val (.ref ob), .val (.int (2 : Int32)), .val (.ref oc), .val (.ref b1), .val (.ref b14), .val (.int (1 : Int32)), .val (.int (4 : Int32)), .val (.int (Int32.ofNat nk3))] [(.int ((own_nx1 nk0 nk1 nk2 nk3) nk1)), (.int ((own_pre 2 nk0 nk1 nk2 nk3) nk1)), (.ref oc)])) _
  refine Goes.by (fun _ k => XS.iadd X21.here hx rfl (hb hby d1_114) rfl k) ?_
  show Goes p.tables e below (T21.setTop (mkF m 115 #[.val (.ref oa), .val (.ref ob), .val (.int (2 : Int32)), .val (.ref oc), .val (.ref b1), .val (.ref b14), .val (.int (1 : Int32)), .val (.int (4 : Int32)), .val (.int (Int32.ofNat nk3))] [(.int (((own_pre 2 nk0 nk1 nk2 nk3) nk1) + ((own_nx1 nk0 nk1 nk2 nk3) nk1))), (.ref oc)])) _
  refine Goes.by (fun _ k => XS.aloadN X21.here hx rfl (hb hby d1_115) rfl rfl k) ?_
  show Goes p.tables e below (T21.setTop (mkF m 116 #[.val (.ref oa), .val (.ref ob), .val (.int (2 : Int32)), .val (.ref oc), .val (.ref b1), .val (.ref b14), .val (.int (1 : Int32)), .val (.int (4 : Int32)), .val (.int (Int32.ofNat nk3))] [(.ref oa), (.int (((own_pre 2 nk0 nk1 nk2 nk3) nk1) + ((own_nx1 nk0 nk1 nk2 nk3) nk1))), (.ref oc)])) _
  refine Goes.by (fun _ k => XS.iload X21.here hx rfl (hb hby d1_116) rfl k) ?_
  show Goes p.tables e below (T21.setTop (mkF m 118 #[.val (.ref oa), .val (.ref ob), .val (.int (2 : Int32)), .val (.ref oc), .val (.ref b1), .val (.ref b14), .val (.int (1 : Int32)), .val (.int (4 : Int32)), .val (.int (Int32.ofNat nk3))] [(.int (1 : Int32)), (.ref oa), (.int (((own_pre 2 nk0 nk1 nk2 nk3) nk1) + ((own_nx1 nk0 nk1 nk2 nk3) nk1))), (.ref oc)])) _
  refine Goes.by (fun _ k => ldI (v := (pa 1)) (fr := (mkF m 118 #[.val (.ref oa), .val (.ref ob), .val (.int (2 : Int32)), .val (.ref oc), .val (.ref b1), .val (.ref b14), .val (.int (1 : Int32)), .val (.int (4 : Int32)), .val (.int (Int32.ofNat nk3))] [(.int (1 : Int32)), (.ref oa), (.int (((own_pre 2 nk0 nk1 nk2 nk3) nk1) + ((own_nx1 nk0 nk1 nk2 nk3) nk1))), (.ref oc)])) X21 hx hZ e21 A_oa (i := 1) (by decide) (by decide) rfl rfl rfl (hb hby d1_118) k) ?_
  show Goes p.tables e below (T21.setTop (mkF m 119 #[.val (.ref oa), .val (.ref ob), .val (.int (2 : Int32)), .val (.ref oc), .val (.ref b1), .val (.ref b14), .val (.int (1 : Int32)), .val (.int (4 : Int32)), .val (.int (Int32.ofNat nk3))] [(.int (pa 1)), (.int (((own_pre 2 nk0 nk1 nk2 nk3) nk1) + ((own_nx1 nk0 nk1 nk2 nk3) nk1))), (.ref oc)])) _
  obtain ⟨T22, h22, X22, e22, W22, A22, st22⟩ := stAI (fr := (mkF m 119 #[.val (.ref oa), .val (.ref ob), .val (.int (2 : Int32)), .val (.ref oc), .val (.ref b1), .val (.ref b14), .val (.int (1 : Int32)), .val (.int (4 : Int32)), .val (.int (Int32.ofNat nk3))] [(.int (pa 1)), (.int (((own_pre 2 nk0 nk1 nk2 nk3) nk1) + ((own_nx1 nk0 nk1 nk2 nk3) nk1))), (.ref oc)])) X21 hx hZ e21 A_oc (i := (own_rank1 nk0 nk1 nk2 nk3)) (own_pl2_1 ⟨nk0, hnk0⟩ ⟨nk1, hnk1⟩ ⟨nk2, hnk2⟩ ⟨nk3, hnk3⟩).1 (own_pl2_1 ⟨nk0, hnk0⟩ ⟨nk1, hnk1⟩ ⟨nk2, hnk2⟩ ⟨nk3, hnk3⟩).2 rfl rfl (hb hby d1_119)
  refine Goes.by st22 ?_
  have A_oc : AI Z h22 oc .int 4 (up (up (fun _ => (0 : Int32)) (own_rank0 nk0 nk1 nk2 nk3) (pa 0)) (own_rank1 nk0 nk1 nk2 nk3) (pa 1)) := A22
  have N22 := Fr.snoc X22 N21 g_oc
  have Zs22 : n0 ≤ h22.size := Nat.le_trans Zs21 (Keep.of_wr W22).1
  have K22 : Keep h0 h22 [oc] := K21.wr W22 (Or.inl (List.mem_of_getElem? (i := 0) rfl))
  have A_oa : AI Z h22 oa .int 4 pa := A_oa.other W22 ne_oa_oc
  have A_ob : AI Z h22 ob .int 4 (own_keys nk0 nk1 nk2 nk3) := A_ob.other W22 ne_ob_oc
  have A_b1 : AI Z h22 b1 .int 3 (own_pre 2 nk0 nk1 nk2 nk3) := A_b1.other W22 (Ne.symm ne_oc_b1)
  have A_b14 : AI Z h22 b14 .int 2 (own_nx2 nk0 nk1 nk2 nk3) := A_b14.other W22 (Ne.symm ne_oc_b14)
  show Goes p.tables e below (T22.setTop (mkF m 120 #[.val (.ref oa), .val (.ref ob), .val (.int (2 : Int32)), .val (.ref oc), .val (.ref b1), .val (.ref b14), .val (.int (1 : Int32)), .val (.int (4 : Int32)), .val (.int (Int32.ofNat nk3))] [])) _
  refine Goes.by (fun _ k => XS.iinc X22.here hx rfl (hb hby d1_120) rfl (l' := #[.val (.ref oa), .val (.ref ob), .val (.int (2 : Int32)), .val (.ref oc), .val (.ref b1), .val (.ref b14), .val (.int (2 : Int32)), .val (.int (4 : Int32)), .val (.int (Int32.ofNat nk3))]) rfl k) ?_
  show Goes p.tables e below (T22.setTop (mkF m 123 #[.val (.ref oa), .val (.ref ob), .val (.int (2 : Int32)), .val (.ref oc), .val (.ref b1), .val (.ref b14), .val (.int (2 : Int32)), .val (.int (4 : Int32)), .val (.int (Int32.ofNat nk3))] [])) _
  refine Goes.by (fun _ k => XS.goto X22.here hx rfl (pc0 := 123) (pc' := 87) rfl (hb hby d1_123) (by decide) (by decide) k) ?_
  show Goes p.tables e below (T22.setTop (mkF m 87 #[.val (.ref oa), .val (.ref ob), .val (.int (2 : Int32)), .val (.ref oc), .val (.ref b1), .val (.ref b14), .val (.int (2 : Int32)), .val (.int (4 : Int32)), .val (.int (Int32.ofNat nk3))] [])) _
  refine Goes.by (fun _ k => XS.iload X22.here hx rfl (hb hby d1_87) rfl k) ?_
  show Goes p.tables e below (T22.setTop (mkF m 89 #[.val (.ref oa), .val (.ref ob), .val (.int (2 : Int32)), .val (.ref oc), .val (.ref b1), .val (.ref b14), .val (.int (2 : Int32)), .val (.int (4 : Int32)), .val (.int (Int32.ofNat nk3))] [(.int (2 : Int32))])) _
  refine Goes.by (fun _ k => XS.aloadN X22.here hx rfl (hb hby d1_89) rfl rfl k) ?_
  show Goes p.tables e below (T22.setTop (mkF m 90 #[.val (.ref oa), .val (.ref ob), .val (.int (2 : Int32)), .val (.ref oc), .val (.ref b1), .val (.ref b14), .val (.int (2 : Int32)), .val (.int (4 : Int32)), .val (.int (Int32.ofNat nk3))] [(.ref oa), (.int (2 : Int32))])) _
  refine Goes.by (fun _ k => alen (z := (4 : Int32)) (fr := (mkF m 90 #[.val (.ref oa), .val (.ref ob), .val (.int (2 : Int32)), .val (.ref oc), .val (.ref b1), .val (.ref b14), .val (.int (2 : Int32)), .val (.int (4 : Int32)), .val (.int (Int32.ofNat nk3))] [(.ref oa), (.int (2 : Int32))])) X22 hx hZ e22 A_oa (by decide) rfl rfl (hb hby d1_90) k) ?_
  show Goes p.tables e below (T22.setTop (mkF m 91 #[.val (.ref oa), .val (.ref ob), .val (.int (2 : Int32)), .val (.ref oc), .val (.ref b1), .val (.ref b14), .val (.int (2 : Int32)), .val (.int (4 : Int32)), .val (.int (Int32.ofNat nk3))] [(.int (4 : Int32)), (.int (2 : Int32))])) _
  refine Goes.by (fun _ k => XS.icmpNo X22.here hx rfl (hb hby d1_91) rfl (tlt (by decide : (2 : Int32) < (4 : Int32))).2.1 k) ?_
  show Goes p.tables e below (T22.setTop (mkF m 94 #[.val (.ref oa), .val (.ref ob), .val (.int (2 : Int32)), .val (.ref oc), .val (.ref b1), .val (.ref b14), .val (.int (2 : Int32)), .val (.int (4 : Int32)), .val (.int (Int32.ofNat nk3))] [])) _
  refine Goes.by (fun _ k => XS.aloadN X22.here hx rfl (hb hby d1_94) rfl rfl k) ?_
  show Goes p.tables e below (T22.setTop (mkF m 95 #[.val (.ref oa), .val (.ref ob), .val (.int (2 : Int32)), .val (.ref oc), .val (.ref b1), .val (.ref b14), .val (.int (2 : Int32)), .val (.int (4 : Int32)), .val (.int (Int32.ofNat nk3))] [(.ref oc)])) _
  refine Goes.by (fun _ k => XS.aload X22.here hx rfl (hb hby d1_95) rfl rfl k) ?_
  show Goes p.tables e below (T22.setTop (mkF m 97 #[.val (.ref oa), .val (.ref ob), .val (.int (2 : Int32)), .val (.ref oc), .val (.ref b1), .val (.ref b14), .val (.int (2 : Int32)), .val (.int (4 : Int32)), .val (.int (Int32.ofNat nk3))] [(.ref b1), (.ref oc)])) _
  refine Goes.by (fun _ k => XS.aloadN X22.here hx rfl (hb hby d1_97) rfl rfl k) ?_
  show Goes p.tables e below (T22.setTop (mkF m 98 #[.val (.ref oa), .val (.ref ob), .val (.int (2 : Int32)), .val (.ref oc), .val (.ref b1), .val (.ref b14), .val (.int (2 : Int32)), .val (.int (4 : Int32)), .val (.int (Int32.ofNat nk3))] [(.ref ob), (.ref b1), (.ref oc)])) _
  refine Goes.by (fun _ k => XS.iload X22.here hx rfl (hb hby d1_98) rfl k) ?_
  show Goes p.tables e below (T22.setTop (mkF m 100 #[.val (.ref oa), .val (.ref ob), .val (.int (2 : Int32)), .val (.ref oc), .val (.ref b1), .val (.ref b14), .val (.int (2 : Int32)), .val (.int (4 : Int32)), .val (.int (Int32.ofNat nk3))] [(.int (2 : Int32)), (.ref ob), (.ref b1), (.ref oc)])) _
  refine Goes.by (fun _ k => ldI (v := (Int32.ofNat nk2)) (fr := (mkF m 100 #[.val (.ref oa), .val (.ref ob), .val (.int (2 : Int32)), .val (.ref oc), .val (.ref b1), .val (.ref b14), .val (.int (2 : Int32)), .val (.int (4 : Int32)), .val (.int (Int32.ofNat nk3))] [(.int (2 : Int32)), (.ref ob), (.ref b1), (.ref oc)])) X22 hx hZ e22 A_ob (i := 2) (by decide) (by decide) rfl rfl rfl (hb hby d1_100) k) ?_
  show Goes p.tables e below (T22.setTop (mkF m 101 #[.val (.ref oa), .val (.ref ob), .val (.int (2 : Int32)), .val (.ref oc), .val (.ref b1), .val (.ref b14), .val (.int (2 : Int32)), .val (.int (4 : Int32)), .val (.int (Int32.ofNat nk3))] [(.int (Int32.ofNat nk2)), (.ref b1), (.ref oc)])) _
  refine Goes.by (fun _ k => ldI (v := ((own_pre 2 nk0 nk1 nk2 nk3) nk2)) (fr := (mkF m 101 #[.val (.ref oa), .val (.ref ob), .val (.int (2 : Int32)), .val (.ref oc), .val (.ref b1), .val (.ref b14), .val (.int (2 : Int32)), .val (.int (4 : Int32)), .val (.int (Int32.ofNat nk3))] [(.int (Int32.ofNat nk2)), (.ref b1), (.ref oc)])) X22 hx hZ e22 A_b1 (i := nk2) (own_i0 nk2 (Nat.lt_trans hnk2 (by decide))) (Nat.lt_succ_of_lt hnk2) rfl rfl rfl (hb hby d1_101) k) ?_
  show Goes p.tables e below (T22.setTop (mkF m 102 #[.val (.ref oa), .val (.ref ob), .val (.int (2 : Int32)), .val (.ref oc), .val (.ref b1), .val (.ref b14), .val (.int (2 : Int32)), .val (.int (4 : Int32)), .val (.int (Int32.ofNat nk3))] [(.int ((own_pre 2 nk0 nk1 nk2 nk3) nk2)), (.ref oc)])) _
  refine Goes.by (fun _ k => XS.aload X22.here hx rfl (hb hby d1_102) rfl rfl k) ?_
  show Goes p.tables e below (T22.setTop (mkF m 104 #[.val (.ref oa), .val (.ref ob), .val (.int (2 : Int32)), .val (.ref oc), .val (.ref b1), .val (.ref b14), .val (.int (2 : Int32)), .val (.int (4 : Int32)), .val (.int (Int32.ofNat nk3))] [(.ref b14), (.int ((own_pre 2 nk0 nk1 nk2 nk3) nk2)), (.ref oc)])) _
  refine Goes.by (fun _ k => XS.aloadN X22.here hx rfl (hb hby d1_104) rfl rfl k) ?_
  show Goes p.tables e below (T22.setTop (mkF m 105 #[.val (.ref oa), .val (.ref ob), .val (.int (2 : Int32)), .val (.ref oc), .val (.ref b1), .val (.ref b14), .val (.int (2 : Int32)), .val (.int (4 : Int32)), .val (.int (Int32.ofNat nk3))] [(.ref ob), (.ref b14), (.int ((own_pre 2 nk0 nk1 nk2 nk3) nk2)), (.ref oc)])) _
  refine Goes.by (fun _ k => XS.iload X22.here hx rfl (hb hby d1_105) rfl k) ?_
  show Goes p.tables e below (T22.setTop (mkF m 107 #[.val (.ref oa), .val (.ref ob), .val (.int (2 : Int32)), .val (.ref oc), .val (.ref b1), .val (.ref b14), .val (.int (2 : Int32)), .val (.int (4 : Int32)), .val (.int (Int32.ofNat nk3))] [(.int (2 : Int32)), (.ref ob), (.ref b14), (.int ((own_pre 2 nk0 nk1 nk2 nk3) nk2)), (.ref oc)])) _
  refine Goes.by (fun _ k => ldI (v := (Int32.ofNat nk2)) (fr := (mkF m 107 #[.val (.ref oa), .val (.ref ob), .val (.int (2 : Int32)), .val (.ref oc), .val (.ref b1), .val (.ref b14), .val (.int (2 : Int32)), .val (.int (4 : Int32)), .val (.int (Int32.ofNat nk3))] [(.int (2 : Int32)), (.ref ob), (.ref b14), (.int ((own_pre 2 nk0 nk1 nk2 nk3) nk2)), (.ref oc)])) X22 hx hZ e22 A_ob (i := 2) (by decide) (by decide) rfl rfl rfl (hb hby d1_107) k) ?_
  show Goes p.tables e below (T22.setTop (mkF m 108 #[.val (.ref oa), .val (.ref ob), .val (.int (2 : Int32)), .val (.ref oc), .val (.ref b1), .val (.ref b14), .val (.int (2 : Int32)), .val (.int (4 : Int32)), .val (.int (Int32.ofNat nk3))] [(.int (Int32.ofNat nk2)), (.ref b14), (.int ((own_pre 2 nk0 nk1 nk2 nk3) nk2)), (.ref oc)])) _
  have sd23 : ∀ u, Steps p.tables e below (T22.setTop (mkF m 109 #[.val (.ref oa), .val (.ref ob), .val (.int (2 : Int32)), .val (.ref oc), .val (.ref b1), .val (.ref b14), .val (.int (2 : Int32)), .val (.int (4 : Int32)), .val (.int (Int32.ofNat nk3))] [(.int (Int32.ofNat nk2)), (.ref b14), (.int (Int32.ofNat nk2)), (.ref b14), (.int ((own_pre 2 nk0 nk1 nk2 nk3) nk2)), (.ref oc)])) u → Steps p.tables e below (T22.setTop (mkF m 108 #[.val (.ref oa), .val (.ref ob), .val (.int (2 : Int32)), .val (.ref oc), .val (.ref b1), .val (.ref b14), .val (.int (2 : Int32)), .val (.int (4 : Int32)), .val (.int (Int32.ofNat nk3))] [(.int (Int32.ofNat nk2)), (.ref b14), (.int ((own_pre 2 nk0 nk1 nk2 nk3) nk2)), (.ref oc)])) u := by
    intro u k
    jvm_step X22.here [X22.here.top, hx, (hb hby d1_108), Value.category]
    exact k
  refine Goes.by (fun _ k => sd23 _ k) ?_
  show Goes p.tables e below (T22.setTop (mkF m 109 #[.val (.ref oa), .val (.ref ob), .val (.int (2 : Int32)), .val (.ref oc), .val (.ref b1), .val (.ref b14), .val (.int (2 : Int32)), .val (.int (4 : Int32)), .val (.int (Int32.ofNat nk3))] [(.int (Int32.ofNat nk2)), (.ref b14), (.int (Int32.ofNat nk2)), (.ref b14), (.int ((own_pre 2 nk0 nk1 nk2 nk3) nk2)), (.ref oc)])) _
  refine Goes.by (fun _ k => ldI (v := ((own_nx2 nk0 nk1 nk2 nk3) nk2)) (fr := (mkF m 109 #[.val (.ref oa), .val (.ref ob), .val (.int (2 : Int32)), .val (.ref oc), .val (.ref b1), .val (.ref b14), .val (.int (2 : Int32)), .val (.int (4 : Int32)), .val (.int (Int32.ofNat nk3))] [(.int (Int32.ofNat nk2)), (.ref b14), (.int (Int32.ofNat nk2)), (.ref b14), (.int ((own_pre 2 nk0 nk1 nk2 nk3) nk2)), (.ref oc)])) X22 hx hZ e22 A_b14 (i := nk2) (own_i0 nk2 (Nat.lt_trans hnk2 (by decide))) hnk2 rfl rfl rfl (hb hby d1_109) k) ?_
  show Goes p.tables e below (T22.setTop (mkF m 110 #[.val (.ref oa), .val (.ref ob), .val (.int (2 : Int32)), .val (.ref oc), .val (.ref b1), .val (.ref b14), .val (.int (2 : Int32)), .val (.int (4 : Int32)), .val (.int (Int32.ofNat nk3))] [(.int ((own_nx2 nk0 nk1 nk2 nk3) nk2)), (.int (Int32.ofNat nk2)), (.ref b14), (.int ((own_pre 2 nk0 nk1 nk2 nk3) nk2)), (.ref oc)])) _
  have sd24 : ∀ u, Steps p.tables e below (T22.setTop (mkF m 111 #[.val (.ref oa), .val (.ref ob), .val (.int (2 : Int32)), .val (.ref oc), .val (.ref b1), .val (.ref b14), .val (.int (2 : Int32)), .val (.int (4 : Int32)), .val (.int (Int32.ofNat nk3))] [(.int ((own_nx2 nk0 nk1 nk2 nk3) nk2)), (.int (Int32.ofNat nk2)), (.ref b14), (.int ((own_nx2 nk0 nk1 nk2 nk3) nk2)), (.int ((own_pre 2 nk0 nk1 nk2 nk3) nk2)), (.ref oc)])) u → Steps p.tables e below (T22.setTop (mkF m 110 #[.val (.ref oa), .val (.ref ob), .val (.int (2 : Int32)), .val (.ref oc), .val (.ref b1), .val (.ref b14), .val (.int (2 : Int32)), .val (.int (4 : Int32)), .val (.int (Int32.ofNat nk3))] [(.int ((own_nx2 nk0 nk1 nk2 nk3) nk2)), (.int (Int32.ofNat nk2)), (.ref b14), (.int ((own_pre 2 nk0 nk1 nk2 nk3) nk2)), (.ref oc)])) u := by
    intro u k
    jvm_step X22.here [X22.here.top, hx, (hb hby d1_110), Value.category]
    exact k
  refine Goes.by (fun _ k => sd24 _ k) ?_
  show Goes p.tables e below (T22.setTop (mkF m 111 #[.val (.ref oa), .val (.ref ob), .val (.int (2 : Int32)), .val (.ref oc), .val (.ref b1), .val (.ref b14), .val (.int (2 : Int32)), .val (.int (4 : Int32)), .val (.int (Int32.ofNat nk3))] [(.int ((own_nx2 nk0 nk1 nk2 nk3) nk2)), (.int (Int32.ofNat nk2)), (.ref b14), (.int ((own_nx2 nk0 nk1 nk2 nk3) nk2)), (.int ((own_pre 2 nk0 nk1 nk2 nk3) nk2)), (.ref oc)])) _
  refine Goes.by (fun _ k => XS.iconst X22.here hx rfl (hb hby d1_111) k) ?_
  show Goes p.tables e below (T22.setTop (mkF m 112 #[.val (.ref oa), .val (.ref ob), .val (.int (2 : Int32)), .val (.ref oc), .val (.ref b1), .val (.ref b14), .val (.int (2 : Int32)), .val (.int (4 : Int32)), .val (.int (Int32.ofNat nk3))] [(.int (1 : Int32)), (.int ((own_nx2 nk0 nk1 nk2 nk3) nk2)), (.int (Int32.ofNat nk2)), (.ref b14), (.int ((own_nx2 nk0 nk1 nk2 nk3) nk2)), (.int ((own_pre 2 nk0 nk1 nk2 nk3) nk2)), (.ref oc)])) _
  refine Goes.by (fun _ k => XS.iadd X22.here hx rfl (hb hby d1_112) rfl k) ?_
  show Goes p.tables e below (T22.setTop (mkF m 113 #[.val (.ref oa), .val (.ref ob), .val (.int (2 : Int32)), .val (.ref oc), .val (.ref b1), .val (.ref b14), .val (.int (2 : Int32)), .val (.int (4 : Int32)), .val (.int (Int32.ofNat nk3))] [(.int (((own_nx2 nk0 nk1 nk2 nk3) nk2) + (1 : Int32))), (.int (Int32.ofNat nk2)), (.ref b14), (.int ((own_nx2 nk0 nk1 nk2 nk3) nk2)), (.int ((own_pre 2 nk0 nk1 nk2 nk3) nk2)), (.ref oc)])) _
  obtain ⟨T25, h25, X25, e25, W25, A25, st25⟩ := stAI (fr := (mkF m 113 #[.val (.ref oa), .val (.ref ob), .val (.int (2 : Int32)), .val (.ref oc), .val (.ref b1), .val (.ref b14), .val (.int (2 : Int32)), .val (.int (4 : Int32)), .val (.int (Int32.ofNat nk3))] [(.int (((own_nx2 nk0 nk1 nk2 nk3) nk2) + (1 : Int32))), (.int (Int32.ofNat nk2)), (.ref b14), (.int ((own_nx2 nk0 nk1 nk2 nk3) nk2)), (.int ((own_pre 2 nk0 nk1 nk2 nk3) nk2)), (.ref oc)])) X22 hx hZ e22 A_b14 (i := nk2) (own_i0 nk2 (Nat.lt_trans hnk2 (by decide))) hnk2 rfl rfl (hb hby d1_113)
  refine Goes.by st25 ?_
  have A_b14 : AI Z h25 b14 .int 2 (own_nx3 nk0 nk1 nk2 nk3) := A25.congr (fun j hj => own_g2_3 ⟨nk0, hnk0⟩ ⟨nk1, hnk1⟩ ⟨nk2, hnk2⟩ ⟨nk3, hnk3⟩ ⟨j, hj⟩)
  have N25 := Fr.snoc X25 N22 g_b14
  have Zs25 : n0 ≤ h25.size := Nat.le_trans Zs22 (Keep.of_wr W25).1
  have K25 : Keep h0 h25 [oc] := K22.wr W25 (Or.inr sz_b14)
  have A_oa : AI Z h25 oa .int 4 pa := A_oa.other W25 ne_oa_b14
  have A_ob : AI Z h25 ob .int 4 (own_keys nk0 nk1 nk2 nk3) := A_ob.other W25 ne_ob_b14
  have A_oc : AI Z h25 oc .int 4 (up (up (fun _ => (0 : Int32)) (own_rank0 nk0 nk1 nk2 nk3) (pa 0)) (own_rank1 nk0 nk1 nk2 nk3) (pa 1)) := A_oc.other W25 ne_oc_b14
  have A_b1 : AI Z h25 b1 .int 3 (own_pre 2 nk0 nk1 nk2 nk3) := A_b1.other W25 ne_b1_b14
  show Goes p.tables e below (T25.setTop (mkF m 114 #[.val (.ref oa), .val (.ref ob), .val (.int (2 : Int32)), .val (.ref oc), .val (.ref b1), .val (.ref b14), .val (.int (2 : Int32)), .val (.int (4 : Int32)), .val (.int (Int32.ofNat nk3))] [(.int ((own_nx2 nk0 nk1 nk2 nk3) nk2)), (.int ((own_pre 2 nk0 nk1 nk2 nk3) nk2)), (.ref oc)])) _
  refine Goes.by (fun _ k => XS.iadd X25.here hx rfl (hb hby d1_114) rfl k) ?_
  show Goes p.tables e below (T25.setTop (mkF m 115 #[.val (.ref oa), .val (.ref ob), .val (.int (2 : Int32)), .val (.ref oc), .val (.ref b1), .val (.ref b14), .val (.int (2 : Int32)), .val (.int (4 : Int32)), .val (.int (Int32.ofNat nk3))] [(.int (((own_pre 2 nk0 nk1 nk2 nk3) nk2) + ((own_nx2 nk0 nk1 nk2 nk3) nk2))), (.ref oc)])) _
  refine Goes.by (fun _ k => XS.aloadN X25.here hx rfl (hb hby d1_115) rfl rfl k) ?_
  show Goes p.tables e below (T25.setTop (mkF m 116 #[.val (.ref oa), .val (.ref ob), .val (.int (2 : Int32)), .val (.ref oc), .val (.ref b1), .val (.ref b14), .val (.int (2 : Int32)), .val (.int (4 : Int32)), .val (.int (Int32.ofNat nk3))] [(.ref oa), (.int (((own_pre 2 nk0 nk1 nk2 nk3) nk2) + ((own_nx2 nk0 nk1 nk2 nk3) nk2))), (.ref oc)])) _
  refine Goes.by (fun _ k => XS.iload X25.here hx rfl (hb hby d1_116) rfl k) ?_
  show Goes p.tables e below (T25.setTop (mkF m 118 #[.val (.ref oa), .val (.ref ob), .val (.int (2 : Int32)), .val (.ref oc), .val (.ref b1), .val (.ref b14), .val (.int (2 : Int32)), .val (.int (4 : Int32)), .val (.int (Int32.ofNat nk3))] [(.int (2 : Int32)), (.ref oa), (.int (((own_pre 2 nk0 nk1 nk2 nk3) nk2) + ((own_nx2 nk0 nk1 nk2 nk3) nk2))), (.ref oc)])) _
  refine Goes.by (fun _ k => ldI (v := (pa 2)) (fr := (mkF m 118 #[.val (.ref oa), .val (.ref ob), .val (.int (2 : Int32)), .val (.ref oc), .val (.ref b1), .val (.ref b14), .val (.int (2 : Int32)), .val (.int (4 : Int32)), .val (.int (Int32.ofNat nk3))] [(.int (2 : Int32)), (.ref oa), (.int (((own_pre 2 nk0 nk1 nk2 nk3) nk2) + ((own_nx2 nk0 nk1 nk2 nk3) nk2))), (.ref oc)])) X25 hx hZ e25 A_oa (i := 2) (by decide) (by decide) rfl rfl rfl (hb hby d1_118) k) ?_
  show Goes p.tables e below (T25.setTop (mkF m 119 #[.val (.ref oa), .val (.ref ob), .val (.int (2 : Int32)), .val (.ref oc), .val (.ref b1), .val (.ref b14), .val (.int (2 : Int32)), .val (.int (4 : Int32)), .val (.int (Int32.ofNat nk3))] [(.int (pa 2)), (.int (((own_pre 2 nk0 nk1 nk2 nk3) nk2) + ((own_nx2 nk0 nk1 nk2 nk3) nk2))), (.ref oc)])) _
  obtain ⟨T26, h26, X26, e26, W26, A26, st26⟩ := stAI (fr := (mkF m 119 #[.val (.ref oa), .val (.ref ob), .val (.int (2 : Int32)), .val (.ref oc), .val (.ref b1), .val (.ref b14), .val (.int (2 : Int32)), .val (.int (4 : Int32)), .val (.int (Int32.ofNat nk3))] [(.int (pa 2)), (.int (((own_pre 2 nk0 nk1 nk2 nk3) nk2) + ((own_nx2 nk0 nk1 nk2 nk3) nk2))), (.ref oc)])) X25 hx hZ e25 A_oc (i := (own_rank2 nk0 nk1 nk2 nk3)) (own_pl2_2 ⟨nk0, hnk0⟩ ⟨nk1, hnk1⟩ ⟨nk2, hnk2⟩ ⟨nk3, hnk3⟩).1 (own_pl2_2 ⟨nk0, hnk0⟩ ⟨nk1, hnk1⟩ ⟨nk2, hnk2⟩ ⟨nk3, hnk3⟩).2 rfl rfl (hb hby d1_119)
  refine Goes.by st26 ?_
  have A_oc : AI Z h26 oc .int 4 (up (up (up (fun _ => (0 : Int32)) (own_rank0 nk0 nk1 nk2 nk3) (pa 0)) (own_rank1 nk0 nk1 nk2 nk3) (pa 1)) (own_rank2 nk0 nk1 nk2 nk3) (pa 2)) := A26
  have N26 := Fr.snoc X26 N25 g_oc
  have Zs26 : n0 ≤ h26.size := Nat.le_trans Zs25 (Keep.of_wr W26).1
  have K26 : Keep h0 h26 [oc] := K25.wr W26 (Or.inl (List.mem_of_getElem? (i := 0) rfl))
  have A_oa : AI Z h26 oa .int 4 pa := A_oa.other W26 ne_oa_oc
  have A_ob : AI Z h26 ob .int 4 (own_keys nk0 nk1 nk2 nk3) := A_ob.other W26 ne_ob_oc
  have A_b1 : AI Z h26 b1 .int 3 (own_pre 2 nk0 nk1 nk2 nk3) := A_b1.other W26 (Ne.symm ne_oc_b1)
  have A_b14 : AI Z h26 b14 .int 2 (own_nx3 nk0 nk1 nk2 nk3) := A_b14.other W26 (Ne.symm ne_oc_b14)
  show Goes p.tables e below (T26.setTop (mkF m 120 #[.val (.ref oa), .val (.ref ob), .val (.int (2 : Int32)), .val (.ref oc), .val (.ref b1), .val (.ref b14), .val (.int (2 : Int32)), .val (.int (4 : Int32)), .val (.int (Int32.ofNat nk3))] [])) _
  refine Goes.by (fun _ k => XS.iinc X26.here hx rfl (hb hby d1_120) rfl (l' := #[.val (.ref oa), .val (.ref ob), .val (.int (2 : Int32)), .val (.ref oc), .val (.ref b1), .val (.ref b14), .val (.int (3 : Int32)), .val (.int (4 : Int32)), .val (.int (Int32.ofNat nk3))]) rfl k) ?_
  show Goes p.tables e below (T26.setTop (mkF m 123 #[.val (.ref oa), .val (.ref ob), .val (.int (2 : Int32)), .val (.ref oc), .val (.ref b1), .val (.ref b14), .val (.int (3 : Int32)), .val (.int (4 : Int32)), .val (.int (Int32.ofNat nk3))] [])) _
  refine Goes.by (fun _ k => XS.goto X26.here hx rfl (pc0 := 123) (pc' := 87) rfl (hb hby d1_123) (by decide) (by decide) k) ?_
  show Goes p.tables e below (T26.setTop (mkF m 87 #[.val (.ref oa), .val (.ref ob), .val (.int (2 : Int32)), .val (.ref oc), .val (.ref b1), .val (.ref b14), .val (.int (3 : Int32)), .val (.int (4 : Int32)), .val (.int (Int32.ofNat nk3))] [])) _
  refine Goes.by (fun _ k => XS.iload X26.here hx rfl (hb hby d1_87) rfl k) ?_
  show Goes p.tables e below (T26.setTop (mkF m 89 #[.val (.ref oa), .val (.ref ob), .val (.int (2 : Int32)), .val (.ref oc), .val (.ref b1), .val (.ref b14), .val (.int (3 : Int32)), .val (.int (4 : Int32)), .val (.int (Int32.ofNat nk3))] [(.int (3 : Int32))])) _
  refine Goes.by (fun _ k => XS.aloadN X26.here hx rfl (hb hby d1_89) rfl rfl k) ?_
  show Goes p.tables e below (T26.setTop (mkF m 90 #[.val (.ref oa), .val (.ref ob), .val (.int (2 : Int32)), .val (.ref oc), .val (.ref b1), .val (.ref b14), .val (.int (3 : Int32)), .val (.int (4 : Int32)), .val (.int (Int32.ofNat nk3))] [(.ref oa), (.int (3 : Int32))])) _
  refine Goes.by (fun _ k => alen (z := (4 : Int32)) (fr := (mkF m 90 #[.val (.ref oa), .val (.ref ob), .val (.int (2 : Int32)), .val (.ref oc), .val (.ref b1), .val (.ref b14), .val (.int (3 : Int32)), .val (.int (4 : Int32)), .val (.int (Int32.ofNat nk3))] [(.ref oa), (.int (3 : Int32))])) X26 hx hZ e26 A_oa (by decide) rfl rfl (hb hby d1_90) k) ?_
  show Goes p.tables e below (T26.setTop (mkF m 91 #[.val (.ref oa), .val (.ref ob), .val (.int (2 : Int32)), .val (.ref oc), .val (.ref b1), .val (.ref b14), .val (.int (3 : Int32)), .val (.int (4 : Int32)), .val (.int (Int32.ofNat nk3))] [(.int (4 : Int32)), (.int (3 : Int32))])) _
  refine Goes.by (fun _ k => XS.icmpNo X26.here hx rfl (hb hby d1_91) rfl (tlt (by decide : (3 : Int32) < (4 : Int32))).2.1 k) ?_
  show Goes p.tables e below (T26.setTop (mkF m 94 #[.val (.ref oa), .val (.ref ob), .val (.int (2 : Int32)), .val (.ref oc), .val (.ref b1), .val (.ref b14), .val (.int (3 : Int32)), .val (.int (4 : Int32)), .val (.int (Int32.ofNat nk3))] [])) _
  refine Goes.by (fun _ k => XS.aloadN X26.here hx rfl (hb hby d1_94) rfl rfl k) ?_
  show Goes p.tables e below (T26.setTop (mkF m 95 #[.val (.ref oa), .val (.ref ob), .val (.int (2 : Int32)), .val (.ref oc), .val (.ref b1), .val (.ref b14), .val (.int (3 : Int32)), .val (.int (4 : Int32)), .val (.int (Int32.ofNat nk3))] [(.ref oc)])) _
  refine Goes.by (fun _ k => XS.aload X26.here hx rfl (hb hby d1_95) rfl rfl k) ?_
  show Goes p.tables e below (T26.setTop (mkF m 97 #[.val (.ref oa), .val (.ref ob), .val (.int (2 : Int32)), .val (.ref oc), .val (.ref b1), .val (.ref b14), .val (.int (3 : Int32)), .val (.int (4 : Int32)), .val (.int (Int32.ofNat nk3))] [(.ref b1), (.ref oc)])) _
  refine Goes.by (fun _ k => XS.aloadN X26.here hx rfl (hb hby d1_97) rfl rfl k) ?_
  show Goes p.tables e below (T26.setTop (mkF m 98 #[.val (.ref oa), .val (.ref ob), .val (.int (2 : Int32)), .val (.ref oc), .val (.ref b1), .val (.ref b14), .val (.int (3 : Int32)), .val (.int (4 : Int32)), .val (.int (Int32.ofNat nk3))] [(.ref ob), (.ref b1), (.ref oc)])) _
  refine Goes.by (fun _ k => XS.iload X26.here hx rfl (hb hby d1_98) rfl k) ?_
  show Goes p.tables e below (T26.setTop (mkF m 100 #[.val (.ref oa), .val (.ref ob), .val (.int (2 : Int32)), .val (.ref oc), .val (.ref b1), .val (.ref b14), .val (.int (3 : Int32)), .val (.int (4 : Int32)), .val (.int (Int32.ofNat nk3))] [(.int (3 : Int32)), (.ref ob), (.ref b1), (.ref oc)])) _
  refine Goes.by (fun _ k => ldI (v := (Int32.ofNat nk3)) (fr := (mkF m 100 #[.val (.ref oa), .val (.ref ob), .val (.int (2 : Int32)), .val (.ref oc), .val (.ref b1), .val (.ref b14), .val (.int (3 : Int32)), .val (.int (4 : Int32)), .val (.int (Int32.ofNat nk3))] [(.int (3 : Int32)), (.ref ob), (.ref b1), (.ref oc)])) X26 hx hZ e26 A_ob (i := 3) (by decide) (by decide) rfl rfl rfl (hb hby d1_100) k) ?_
  show Goes p.tables e below (T26.setTop (mkF m 101 #[.val (.ref oa), .val (.ref ob), .val (.int (2 : Int32)), .val (.ref oc), .val (.ref b1), .val (.ref b14), .val (.int (3 : Int32)), .val (.int (4 : Int32)), .val (.int (Int32.ofNat nk3))] [(.int (Int32.ofNat nk3)), (.ref b1), (.ref oc)])) _
  refine Goes.by (fun _ k => ldI (v := ((own_pre 2 nk0 nk1 nk2 nk3) nk3)) (fr := (mkF m 101 #[.val (.ref oa), .val (.ref ob), .val (.int (2 : Int32)), .val (.ref oc), .val (.ref b1), .val (.ref b14), .val (.int (3 : Int32)), .val (.int (4 : Int32)), .val (.int (Int32.ofNat nk3))] [(.int (Int32.ofNat nk3)), (.ref b1), (.ref oc)])) X26 hx hZ e26 A_b1 (i := nk3) (own_i0 nk3 (Nat.lt_trans hnk3 (by decide))) (Nat.lt_succ_of_lt hnk3) rfl rfl rfl (hb hby d1_101) k) ?_
  show Goes p.tables e below (T26.setTop (mkF m 102 #[.val (.ref oa), .val (.ref ob), .val (.int (2 : Int32)), .val (.ref oc), .val (.ref b1), .val (.ref b14), .val (.int (3 : Int32)), .val (.int (4 : Int32)), .val (.int (Int32.ofNat nk3))] [(.int ((own_pre 2 nk0 nk1 nk2 nk3) nk3)), (.ref oc)])) _
  refine Goes.by (fun _ k => XS.aload X26.here hx rfl (hb hby d1_102) rfl rfl k) ?_
  show Goes p.tables e below (T26.setTop (mkF m 104 #[.val (.ref oa), .val (.ref ob), .val (.int (2 : Int32)), .val (.ref oc), .val (.ref b1), .val (.ref b14), .val (.int (3 : Int32)), .val (.int (4 : Int32)), .val (.int (Int32.ofNat nk3))] [(.ref b14), (.int ((own_pre 2 nk0 nk1 nk2 nk3) nk3)), (.ref oc)])) _
  refine Goes.by (fun _ k => XS.aloadN X26.here hx rfl (hb hby d1_104) rfl rfl k) ?_
  show Goes p.tables e below (T26.setTop (mkF m 105 #[.val (.ref oa), .val (.ref ob), .val (.int (2 : Int32)), .val (.ref oc), .val (.ref b1), .val (.ref b14), .val (.int (3 : Int32)), .val (.int (4 : Int32)), .val (.int (Int32.ofNat nk3))] [(.ref ob), (.ref b14), (.int ((own_pre 2 nk0 nk1 nk2 nk3) nk3)), (.ref oc)])) _
  refine Goes.by (fun _ k => XS.iload X26.here hx rfl (hb hby d1_105) rfl k) ?_
  show Goes p.tables e below (T26.setTop (mkF m 107 #[.val (.ref oa), .val (.ref ob), .val (.int (2 : Int32)), .val (.ref oc), .val (.ref b1), .val (.ref b14), .val (.int (3 : Int32)), .val (.int (4 : Int32)), .val (.int (Int32.ofNat nk3))] [(.int (3 : Int32)), (.ref ob), (.ref b14), (.int ((own_pre 2 nk0 nk1 nk2 nk3) nk3)), (.ref oc)])) _
  refine Goes.by (fun _ k => ldI (v := (Int32.ofNat nk3)) (fr := (mkF m 107 #[.val (.ref oa), .val (.ref ob), .val (.int (2 : Int32)), .val (.ref oc), .val (.ref b1), .val (.ref b14), .val (.int (3 : Int32)), .val (.int (4 : Int32)), .val (.int (Int32.ofNat nk3))] [(.int (3 : Int32)), (.ref ob), (.ref b14), (.int ((own_pre 2 nk0 nk1 nk2 nk3) nk3)), (.ref oc)])) X26 hx hZ e26 A_ob (i := 3) (by decide) (by decide) rfl rfl rfl (hb hby d1_107) k) ?_
  show Goes p.tables e below (T26.setTop (mkF m 108 #[.val (.ref oa), .val (.ref ob), .val (.int (2 : Int32)), .val (.ref oc), .val (.ref b1), .val (.ref b14), .val (.int (3 : Int32)), .val (.int (4 : Int32)), .val (.int (Int32.ofNat nk3))] [(.int (Int32.ofNat nk3)), (.ref b14), (.int ((own_pre 2 nk0 nk1 nk2 nk3) nk3)), (.ref oc)])) _
  have sd27 : ∀ u, Steps p.tables e below (T26.setTop (mkF m 109 #[.val (.ref oa), .val (.ref ob), .val (.int (2 : Int32)), .val (.ref oc), .val (.ref b1), .val (.ref b14), .val (.int (3 : Int32)), .val (.int (4 : Int32)), .val (.int (Int32.ofNat nk3))] [(.int (Int32.ofNat nk3)), (.ref b14), (.int (Int32.ofNat nk3)), (.ref b14), (.int ((own_pre 2 nk0 nk1 nk2 nk3) nk3)), (.ref oc)])) u → Steps p.tables e below (T26.setTop (mkF m 108 #[.val (.ref oa), .val (.ref ob), .val (.int (2 : Int32)), .val (.ref oc), .val (.ref b1), .val (.ref b14), .val (.int (3 : Int32)), .val (.int (4 : Int32)), .val (.int (Int32.ofNat nk3))] [(.int (Int32.ofNat nk3)), (.ref b14), (.int ((own_pre 2 nk0 nk1 nk2 nk3) nk3)), (.ref oc)])) u := by
    intro u k
    jvm_step X26.here [X26.here.top, hx, (hb hby d1_108), Value.category]
    exact k
  refine Goes.by (fun _ k => sd27 _ k) ?_
  show Goes p.tables e below (T26.setTop (mkF m 109 #[.val (.ref oa), .val (.ref ob), .val (.int (2 : Int32)), .val (.ref oc), .val (.ref b1), .val (.ref b14), .val (.int (3 : Int32)), .val (.int (4 : Int32)), .val (.int (Int32.ofNat nk3))] [(.int (Int32.ofNat nk3)), (.ref b14), (.int (Int32.ofNat nk3)), (.ref b14), (.int ((own_pre 2 nk0 nk1 nk2 nk3) nk3)), (.ref oc)])) _
  refine Goes.by (fun _ k => ldI (v := ((own_nx3 nk0 nk1 nk2 nk3) nk3)) (fr := (mkF m 109 #[.val (.ref oa), .val (.ref ob), .val (.int (2 : Int32)), .val (.ref oc), .val (.ref b1), .val (.ref b14), .val (.int (3 : Int32)), .val (.int (4 : Int32)), .val (.int (Int32.ofNat nk3))] [(.int (Int32.ofNat nk3)), (.ref b14), (.int (Int32.ofNat nk3)), (.ref b14), (.int ((own_pre 2 nk0 nk1 nk2 nk3) nk3)), (.ref oc)])) X26 hx hZ e26 A_b14 (i := nk3) (own_i0 nk3 (Nat.lt_trans hnk3 (by decide))) hnk3 rfl rfl rfl (hb hby d1_109) k) ?_
  show Goes p.tables e below (T26.setTop (mkF m 110 #[.val (.ref oa), .val (.ref ob), .val (.int (2 : Int32)), .val (.ref oc), .val (.ref b1), .val (.ref b14), .val (.int (3 : Int32)), .val (.int (4 : Int32)), .val (.int (Int32.ofNat nk3))] [(.int ((own_nx3 nk0 nk1 nk2 nk3) nk3)), (.int (Int32.ofNat nk3)), (.ref b14), (.int ((own_pre 2 nk0 nk1 nk2 nk3) nk3)), (.ref oc)])) _
  have sd28 : ∀ u, Steps p.tables e below (T26.setTop (mkF m 111 #[.val (.ref oa), .val (.ref ob), .val (.int (2 : Int32)), .val (.ref oc), .val (.ref b1), .val (.ref b14), .val (.int (3 : Int32)), .val (.int (4 : Int32)), .val (.int (Int32.ofNat nk3))] [(.int ((own_nx3 nk0 nk1 nk2 nk3) nk3)), (.int (Int32.ofNat nk3)), (.ref b14), (.int ((own_nx3 nk0 nk1 nk2 nk3) nk3)), (.int ((own_pre 2 nk0 nk1 nk2 nk3) nk3)), (.ref oc)])) u → Steps p.tables e below (T26.setTop (mkF m 110 #[.val (.ref oa), .val (.ref ob), .val (.int (2 : Int32)), .val (.ref oc), .val (.ref b1), .val (.ref b14), .val (.int (3 : Int32)), .val (.int (4 : Int32)), .val (.int (Int32.ofNat nk3))] [(.int ((own_nx3 nk0 nk1 nk2 nk3) nk3)), (.int (Int32.ofNat nk3)), (.ref b14), (.int ((own_pre 2 nk0 nk1 nk2 nk3) nk3)), (.ref oc)])) u := by
    intro u k
    jvm_step X26.here [X26.here.top, hx, (hb hby d1_110), Value.category]
    exact k
  refine Goes.by (fun _ k => sd28 _ k) ?_
  show Goes p.tables e below (T26.setTop (mkF m 111 #[.val (.ref oa), .val (.ref ob), .val (.int (2 : Int32)), .val (.ref oc), .val (.ref b1), .val (.ref b14), .val (.int (3 : Int32)), .val (.int (4 : Int32)), .val (.int (Int32.ofNat nk3))] [(.int ((own_nx3 nk0 nk1 nk2 nk3) nk3)), (.int (Int32.ofNat nk3)), (.ref b14), (.int ((own_nx3 nk0 nk1 nk2 nk3) nk3)), (.int ((own_pre 2 nk0 nk1 nk2 nk3) nk3)), (.ref oc)])) _
  refine Goes.by (fun _ k => XS.iconst X26.here hx rfl (hb hby d1_111) k) ?_
  show Goes p.tables e below (T26.setTop (mkF m 112 #[.val (.ref oa), .val (.ref ob), .val (.int (2 : Int32)), .val (.ref oc), .val (.ref b1), .val (.ref b14), .val (.int (3 : Int32)), .val (.int (4 : Int32)), .val (.int (Int32.ofNat nk3))] [(.int (1 : Int32)), (.int ((own_nx3 nk0 nk1 nk2 nk3) nk3)), (.int (Int32.ofNat nk3)), (.ref b14), (.int ((own_nx3 nk0 nk1 nk2 nk3) nk3)), (.int ((own_pre 2 nk0 nk1 nk2 nk3) nk3)), (.ref oc)])) _
  refine Goes.by (fun _ k => XS.iadd X26.here hx rfl (hb hby d1_112) rfl k) ?_
  show Goes p.tables e below (T26.setTop (mkF m 113 #[.val (.ref oa), .val (.ref ob), .val (.int (2 : Int32)), .val (.ref oc), .val (.ref b1), .val (.ref b14), .val (.int (3 : Int32)), .val (.int (4 : Int32)), .val (.int (Int32.ofNat nk3))] [(.int (((own_nx3 nk0 nk1 nk2 nk3) nk3) + (1 : Int32))), (.int (Int32.ofNat nk3)), (.ref b14), (.int ((own_nx3 nk0 nk1 nk2 nk3) nk3)), (.int ((own_pre 2 nk0 nk1 nk2 nk3) nk3)), (.ref oc)])) _
  obtain ⟨T29, h29, X29, e29, W29, A29, st29⟩ := stAI (fr := (mkF m 113 #[.val (.ref oa), .val (.ref ob), .val (.int (2 : Int32)), .val (.ref oc), .val (.ref b1), .val (.ref b14), .val (.int (3 : Int32)), .val (.int (4 : Int32)), .val (.int (Int32.ofNat nk3))] [(.int (((own_nx3 nk0 nk1 nk2 nk3) nk3) + (1 : Int32))), (.int (Int32.ofNat nk3)), (.ref b14), (.int ((own_nx3 nk0 nk1 nk2 nk3) nk3)), (.int ((own_pre 2 nk0 nk1 nk2 nk3) nk3)), (.ref oc)])) X26 hx hZ e26 A_b14 (i := nk3) (own_i0 nk3 (Nat.lt_trans hnk3 (by decide))) hnk3 rfl rfl (hb hby d1_113)
  refine Goes.by st29 ?_
  have A_b14 : AI Z h29 b14 .int 2 (own_nx4 nk0 nk1 nk2 nk3) := A29.congr (fun j hj => own_g2_4 ⟨nk0, hnk0⟩ ⟨nk1, hnk1⟩ ⟨nk2, hnk2⟩ ⟨nk3, hnk3⟩ ⟨j, hj⟩)
  have N29 := Fr.snoc X29 N26 g_b14
  have Zs29 : n0 ≤ h29.size := Nat.le_trans Zs26 (Keep.of_wr W29).1
  have K29 : Keep h0 h29 [oc] := K26.wr W29 (Or.inr sz_b14)
  have A_oa : AI Z h29 oa .int 4 pa := A_oa.other W29 ne_oa_b14
  have A_ob : AI Z h29 ob .int 4 (own_keys nk0 nk1 nk2 nk3) := A_ob.other W29 ne_ob_b14
  have A_oc : AI Z h29 oc .int 4 (up (up (up (fun _ => (0 : Int32)) (own_rank0 nk0 nk1 nk2 nk3) (pa 0)) (own_rank1 nk0 nk1 nk2 nk3) (pa 1)) (own_rank2 nk0 nk1 nk2 nk3) (pa 2)) := A_oc.other W29 ne_oc_b14
  have A_b1 : AI Z h29 b1 .int 3 (own_pre 2 nk0 nk1 nk2 nk3) := A_b1.other W29 ne_b1_b14
  show Goes p.tables e below (T29.setTop (mkF m 114 #[.val (.ref oa), .val (.ref ob), .val (.int (2 : Int32)), .val (.ref oc), .val (.ref b1), .val (.ref b14), .val (.int (3 : Int32)), .val (.int (4 : Int32)), .val (.int (Int32.ofNat nk3))] [(.int ((own_nx3 nk0 nk1 nk2 nk3) nk3)), (.int ((own_pre 2 nk0 nk1 nk2 nk3) nk3)), (.ref oc)])) _
  refine Goes.by (fun _ k => XS.iadd X29.here hx rfl (hb hby d1_114) rfl k) ?_
  show Goes p.tables e below (T29.setTop (mkF m 115 #[.val (.ref oa), .val (.ref ob), .val (.int (2 : Int32)), .val (.ref oc), .val (.ref b1), .val (.ref b14), .val (.int (3 : Int32)), .val (.int (4 : Int32)), .val (.int (Int32.ofNat nk3))] [(.int (((own_pre 2 nk0 nk1 nk2 nk3) nk3) + ((own_nx3 nk0 nk1 nk2 nk3) nk3))), (.ref oc)])) _
  refine Goes.by (fun _ k => XS.aloadN X29.here hx rfl (hb hby d1_115) rfl rfl k) ?_
  show Goes p.tables e below (T29.setTop (mkF m 116 #[.val (.ref oa), .val (.ref ob), .val (.int (2 : Int32)), .val (.ref oc), .val (.ref b1), .val (.ref b14), .val (.int (3 : Int32)), .val (.int (4 : Int32)), .val (.int (Int32.ofNat nk3))] [(.ref oa), (.int (((own_pre 2 nk0 nk1 nk2 nk3) nk3) + ((own_nx3 nk0 nk1 nk2 nk3) nk3))), (.ref oc)])) _
  refine Goes.by (fun _ k => XS.iload X29.here hx rfl (hb hby d1_116) rfl k) ?_
  show Goes p.tables e below (T29.setTop (mkF m 118 #[.val (.ref oa), .val (.ref ob), .val (.int (2 : Int32)), .val (.ref oc), .val (.ref b1), .val (.ref b14), .val (.int (3 : Int32)), .val (.int (4 : Int32)), .val (.int (Int32.ofNat nk3))] [(.int (3 : Int32)), (.ref oa), (.int (((own_pre 2 nk0 nk1 nk2 nk3) nk3) + ((own_nx3 nk0 nk1 nk2 nk3) nk3))), (.ref oc)])) _
  refine Goes.by (fun _ k => ldI (v := (pa 3)) (fr := (mkF m 118 #[.val (.ref oa), .val (.ref ob), .val (.int (2 : Int32)), .val (.ref oc), .val (.ref b1), .val (.ref b14), .val (.int (3 : Int32)), .val (.int (4 : Int32)), .val (.int (Int32.ofNat nk3))] [(.int (3 : Int32)), (.ref oa), (.int (((own_pre 2 nk0 nk1 nk2 nk3) nk3) + ((own_nx3 nk0 nk1 nk2 nk3) nk3))), (.ref oc)])) X29 hx hZ e29 A_oa (i := 3) (by decide) (by decide) rfl rfl rfl (hb hby d1_118) k) ?_
  show Goes p.tables e below (T29.setTop (mkF m 119 #[.val (.ref oa), .val (.ref ob), .val (.int (2 : Int32)), .val (.ref oc), .val (.ref b1), .val (.ref b14), .val (.int (3 : Int32)), .val (.int (4 : Int32)), .val (.int (Int32.ofNat nk3))] [(.int (pa 3)), (.int (((own_pre 2 nk0 nk1 nk2 nk3) nk3) + ((own_nx3 nk0 nk1 nk2 nk3) nk3))), (.ref oc)])) _
  obtain ⟨T30, h30, X30, e30, W30, A30, st30⟩ := stAI (fr := (mkF m 119 #[.val (.ref oa), .val (.ref ob), .val (.int (2 : Int32)), .val (.ref oc), .val (.ref b1), .val (.ref b14), .val (.int (3 : Int32)), .val (.int (4 : Int32)), .val (.int (Int32.ofNat nk3))] [(.int (pa 3)), (.int (((own_pre 2 nk0 nk1 nk2 nk3) nk3) + ((own_nx3 nk0 nk1 nk2 nk3) nk3))), (.ref oc)])) X29 hx hZ e29 A_oc (i := (own_rank3 nk0 nk1 nk2 nk3)) (own_pl2_3 ⟨nk0, hnk0⟩ ⟨nk1, hnk1⟩ ⟨nk2, hnk2⟩ ⟨nk3, hnk3⟩).1 (own_pl2_3 ⟨nk0, hnk0⟩ ⟨nk1, hnk1⟩ ⟨nk2, hnk2⟩ ⟨nk3, hnk3⟩).2 rfl rfl (hb hby d1_119)
  refine Goes.by st30 ?_
  have A_oc : AI Z h30 oc .int 4 (up (up (up (up (fun _ => (0 : Int32)) (own_rank0 nk0 nk1 nk2 nk3) (pa 0)) (own_rank1 nk0 nk1 nk2 nk3) (pa 1)) (own_rank2 nk0 nk1 nk2 nk3) (pa 2)) (own_rank3 nk0 nk1 nk2 nk3) (pa 3)) := A30
  have N30 := Fr.snoc X30 N29 g_oc
  have Zs30 : n0 ≤ h30.size := Nat.le_trans Zs29 (Keep.of_wr W30).1
  have K30 : Keep h0 h30 [oc] := K29.wr W30 (Or.inl (List.mem_of_getElem? (i := 0) rfl))
  have A_oa : AI Z h30 oa .int 4 pa := A_oa.other W30 ne_oa_oc
  have A_ob : AI Z h30 ob .int 4 (own_keys nk0 nk1 nk2 nk3) := A_ob.other W30 ne_ob_oc
  have A_b1 : AI Z h30 b1 .int 3 (own_pre 2 nk0 nk1 nk2 nk3) := A_b1.other W30 (Ne.symm ne_oc_b1)
  have A_b14 : AI Z h30 b14 .int 2 (own_nx4 nk0 nk1 nk2 nk3) := A_b14.other W30 (Ne.symm ne_oc_b14)
  show Goes p.tables e below (T30.setTop (mkF m 120 #[.val (.ref oa), .val (.ref ob), .val (.int (2 : Int32)), .val (.ref oc), .val (.ref b1), .val (.ref b14), .val (.int (3 : Int32)), .val (.int (4 : Int32)), .val (.int (Int32.ofNat nk3))] [])) _
  refine Goes.by (fun _ k => XS.iinc X30.here hx rfl (hb hby d1_120) rfl (l' := #[.val (.ref oa), .val (.ref ob), .val (.int (2 : Int32)), .val (.ref oc), .val (.ref b1), .val (.ref b14), .val (.int (4 : Int32)), .val (.int (4 : Int32)), .val (.int (Int32.ofNat nk3))]) rfl k) ?_
  show Goes p.tables e below (T30.setTop (mkF m 123 #[.val (.ref oa), .val (.ref ob), .val (.int (2 : Int32)), .val (.ref oc), .val (.ref b1), .val (.ref b14), .val (.int (4 : Int32)), .val (.int (4 : Int32)), .val (.int (Int32.ofNat nk3))] [])) _
  refine Goes.by (fun _ k => XS.goto X30.here hx rfl (pc0 := 123) (pc' := 87) rfl (hb hby d1_123) (by decide) (by decide) k) ?_
  show Goes p.tables e below (T30.setTop (mkF m 87 #[.val (.ref oa), .val (.ref ob), .val (.int (2 : Int32)), .val (.ref oc), .val (.ref b1), .val (.ref b14), .val (.int (4 : Int32)), .val (.int (4 : Int32)), .val (.int (Int32.ofNat nk3))] [])) _
  refine Goes.by (fun _ k => XS.iload X30.here hx rfl (hb hby d1_87) rfl k) ?_
  show Goes p.tables e below (T30.setTop (mkF m 89 #[.val (.ref oa), .val (.ref ob), .val (.int (2 : Int32)), .val (.ref oc), .val (.ref b1), .val (.ref b14), .val (.int (4 : Int32)), .val (.int (4 : Int32)), .val (.int (Int32.ofNat nk3))] [(.int (4 : Int32))])) _
  refine Goes.by (fun _ k => XS.aloadN X30.here hx rfl (hb hby d1_89) rfl rfl k) ?_
  show Goes p.tables e below (T30.setTop (mkF m 90 #[.val (.ref oa), .val (.ref ob), .val (.int (2 : Int32)), .val (.ref oc), .val (.ref b1), .val (.ref b14), .val (.int (4 : Int32)), .val (.int (4 : Int32)), .val (.int (Int32.ofNat nk3))] [(.ref oa), (.int (4 : Int32))])) _
  refine Goes.by (fun _ k => alen (z := (4 : Int32)) (fr := (mkF m 90 #[.val (.ref oa), .val (.ref ob), .val (.int (2 : Int32)), .val (.ref oc), .val (.ref b1), .val (.ref b14), .val (.int (4 : Int32)), .val (.int (4 : Int32)), .val (.int (Int32.ofNat nk3))] [(.ref oa), (.int (4 : Int32))])) X30 hx hZ e30 A_oa (by decide) rfl rfl (hb hby d1_90) k) ?_
  show Goes p.tables e below (T30.setTop (mkF m 91 #[.val (.ref oa), .val (.ref ob), .val (.int (2 : Int32)), .val (.ref oc), .val (.ref b1), .val (.ref b14), .val (.int (4 : Int32)), .val (.int (4 : Int32)), .val (.int (Int32.ofNat nk3))] [(.int (4 : Int32)), (.int (4 : Int32))])) _
  refine Goes.by (fun _ k => XS.icmpYes X30.here hx rfl (pc0 := 91) (pc' := 126) rfl (hb hby d1_91) rfl (flt (by decide : ¬ ((4 : Int32) < (4 : Int32)))).2.1 (by decide) (by decide) k) ?_
  show Goes p.tables e below (T30.setTop (mkF m 126 #[.val (.ref oa), .val (.ref ob), .val (.int (2 : Int32)), .val (.ref oc), .val (.ref b1), .val (.ref b14), .val (.int (4 : Int32)), .val (.int (4 : Int32)), .val (.int (Int32.ofNat nk3))] [])) _
  refine Goes.by (fun _ k => XS.aload X30.here hx rfl (hb hby d1_126) rfl rfl k) ?_
  show Goes p.tables e below (T30.setTop (mkF m 128 #[.val (.ref oa), .val (.ref ob), .val (.int (2 : Int32)), .val (.ref oc), .val (.ref b1), .val (.ref b14), .val (.int (4 : Int32)), .val (.int (4 : Int32)), .val (.int (Int32.ofNat nk3))] [(.ref b1)])) _
  obtain ⟨fs, hr, hrun, hended, hW, hsame⟩ := X30.leave (v := some (.ref b1)) (fun h => by rw [Bd.returns] at h; cases h)
  refine ⟨_, _, retOut X30 hx Bd.returns (i := .areturn) (narR rfl) (Or.inr (Or.inr (Or.inr (Or.inr ⟨rfl, rfl, rfl⟩)))) (hb hby d1_128) hr, hrun, hended, _, _, rfl, ?_, ⟨_, rfl⟩, hW, hsame.mono (by decide) (by decide)⟩
  show Q1k2 Z oa ob oc pa nk0 nk1 nk2 nk3 h0 n0 _ T30.heap _
  rw [e30]
  exact ⟨b1, rfl, N30, K30, A_b1, A_oc, sz_b1⟩
theorem own_f3_1 : ∀ nk0 nk1 nk2 nk3 : Fin 3, ∀ j : Fin 4, (up (fun _ => (0 : Int32)) (nk0.val + 1) (((fun _ => (0 : Int32)) (nk0.val + 1)) + (1 : Int32))) j.val = (own_cnt1 nk0.val nk1.val nk2.val nk3.val) j.val := by decide +kernel
theorem own_f3_2 : ∀ nk0 nk1 nk2 nk3 : Fin 3, ∀ j : Fin 4, (up (own_cnt1 nk0.val nk1.val nk2.val nk3.val) (nk1.val + 1) (((own_cnt1 nk0.val nk1.val nk2.val nk3.val) (nk1.val + 1)) + (1 : Int32))) j.val = (own_cnt2 nk0.val nk1.val nk2.val nk3.val) j.val := by decide +kernel
theorem own_f3_3 : ∀ nk0 nk1 nk2 nk3 : Fin 3, ∀ j : Fin 4, (up (own_cnt2 nk0.val nk1.val nk2.val nk3.val) (nk2.val + 1) (((own_cnt2 nk0.val nk1.val nk2.val nk3.val) (nk2.val + 1)) + (1 : Int32))) j.val = (own_cnt3 nk0.val nk1.val nk2.val nk3.val) j.val := by decide +kernel
theorem own_f3_4 : ∀ nk0 nk1 nk2 nk3 : Fin 3, ∀ j : Fin 4, (up (own_cnt3 nk0.val nk1.val nk2.val nk3.val) (nk3.val + 1) (((own_cnt3 nk0.val nk1.val nk2.val nk3.val) (nk3.val + 1)) + (1 : Int32))) j.val = (own_cnt4 nk0.val nk1.val nk2.val nk3.val) j.val := by decide +kernel
theorem own_f3_5 : ∀ nk0 nk1 nk2 nk3 : Fin 3, ∀ j : Fin 4, (up (own_cnt4 nk0.val nk1.val nk2.val nk3.val) 1 (((own_cnt4 nk0.val nk1.val nk2.val nk3.val) 1) + ((own_cnt4 nk0.val nk1.val nk2.val nk3.val) 0))) j.val = (own_pre 1 nk0.val nk1.val nk2.val nk3.val) j.val := by decide +kernel
theorem own_f3_6 : ∀ nk0 nk1 nk2 nk3 : Fin 3, ∀ j : Fin 4, (up (own_pre 1 nk0.val nk1.val nk2.val nk3.val) 2 (((own_pre 1 nk0.val nk1.val nk2.val nk3.val) 2) + ((own_pre 1 nk0.val nk1.val nk2.val nk3.val) 1))) j.val = (own_pre 2 nk0.val nk1.val nk2.val nk3.val) j.val := by decide +kernel
theorem own_f3_7 : ∀ nk0 nk1 nk2 nk3 : Fin 3, ∀ j : Fin 4, (up (own_pre 2 nk0.val nk1.val nk2.val nk3.val) 3 (((own_pre 2 nk0.val nk1.val nk2.val nk3.val) 3) + ((own_pre 2 nk0.val nk1.val nk2.val nk3.val) 2))) j.val = (own_pre 3 nk0.val nk1.val nk2.val nk3.val) j.val := by decide +kernel
theorem own_g3_1 : ∀ nk0 nk1 nk2 nk3 : Fin 3, ∀ j : Fin 3, (up (fun _ => (0 : Int32)) nk0.val (((fun _ => (0 : Int32)) nk0.val) + (1 : Int32))) j.val = (own_nx1 nk0.val nk1.val nk2.val nk3.val) j.val := by decide +kernel
theorem own_pl3_0 : ∀ nk0 nk1 nk2 nk3 : Fin 3, (((own_pre 3 nk0.val nk1.val nk2.val nk3.val) nk0.val) + ((fun _ => (0 : Int32)) nk0.val)).toInt = ((own_rank0 nk0.val nk1.val nk2.val nk3.val : Nat) : Int) ∧ own_rank0 nk0.val nk1.val nk2.val nk3.val < 4 := by decide +kernel
theorem own_g3_2 : ∀ nk0 nk1 nk2 nk3 : Fin 3, ∀ j : Fin 3, (up (own_nx1 nk0.val nk1.val nk2.val nk3.val) nk1.val (((own_nx1 nk0.val nk1.val nk2.val nk3.val) nk1.val) + (1 : Int32))) j.val = (own_nx2 nk0.val nk1.val nk2.val nk3.val) j.val := by decide +kernel
theorem own_pl3_1 : ∀ nk0 nk1 nk2 nk3 : Fin 3, (((own_pre 3 nk0.val nk1.val nk2.val nk3.val) nk1.val) + ((own_nx1 nk0.val nk1.val nk2.val nk3.val) nk1.val)).toInt = ((own_rank1 nk0.val nk1.val nk2.val nk3.val : Nat) : Int) ∧ own_rank1 nk0.val nk1.val nk2.val nk3.val < 4 := by decide +kernel
theorem own_g3_3 : ∀ nk0 nk1 nk2 nk3 : Fin 3, ∀ j : Fin 3, (up (own_nx2 nk0.val nk1.val nk2.val nk3.val) nk2.val (((own_nx2 nk0.val nk1.val nk2.val nk3.val) nk2.val) + (1 : Int32))) j.val = (own_nx3 nk0.val nk1.val nk2.val nk3.val) j.val := by decide +kernel
theorem own_pl3_2 : ∀ nk0 nk1 nk2 nk3 : Fin 3, (((own_pre 3 nk0.val nk1.val nk2.val nk3.val) nk2.val) + ((own_nx2 nk0.val nk1.val nk2.val nk3.val) nk2.val)).toInt = ((own_rank2 nk0.val nk1.val nk2.val nk3.val : Nat) : Int) ∧ own_rank2 nk0.val nk1.val nk2.val nk3.val < 4 := by decide +kernel
theorem own_g3_4 : ∀ nk0 nk1 nk2 nk3 : Fin 3, ∀ j : Fin 3, (up (own_nx3 nk0.val nk1.val nk2.val nk3.val) nk3.val (((own_nx3 nk0.val nk1.val nk2.val nk3.val) nk3.val) + (1 : Int32))) j.val = (own_nx4 nk0.val nk1.val nk2.val nk3.val) j.val := by decide +kernel
theorem own_pl3_3 : ∀ nk0 nk1 nk2 nk3 : Fin 3, (((own_pre 3 nk0.val nk1.val nk2.val nk3.val) nk3.val) + ((own_nx3 nk0.val nk1.val nk2.val nk3.val) nk3.val)).toInt = ((own_rank3 nk0.val nk1.val nk2.val nk3.val : Nat) : Int) ∧ own_rank3 nk0.val nk1.val nk2.val nk3.val < 4 := by decide +kernel
theorem ef1k3 (m : MethodId) (oa : Addr) (ob : Addr) (oc : Addr) : entryFrame m #[(.ref oa), (.ref ob), (.int (3 : Int32)), (.ref oc)] 9 = mkF m 0 #[.val (.ref oa), .val (.ref ob), .val (.int (3 : Int32)), .val (.ref oc), .unset, .unset, .unset, .unset, .unset] [] := by first | (simp [entryFrame, mkF, argsToLocals, Value.category]; done) | rfl
def Q1k3 (Z : State) (oa : Addr) (ob : Addr) (oc : Addr) (pa : Nat → Int32) (nk0 : Nat) (nk1 : Nat) (nk2 : Nat) (nk3 : Nat) (h0 : Heap) (n0 : Nat) (v : Option Value) (h : Heap) (L : List Loc) : Prop := ∃ oz : Addr, v = some (.ref oz) ∧ Fr n0 L ∧ Keep h0 h [oc] ∧ AI Z h oz .int 4 (own_pre 3 nk0 nk1 nk2 nk3) ∧ AI Z h oc .int 4 (up (up (up (up (fun _ => (0 : Int32)) (own_rank0 nk0 nk1 nk2 nk3) (pa 0)) (own_rank1 nk0 nk1 nk2 nk3) (pa 1)) (own_rank2 nk0 nk1 nk2 nk3) (pa 2)) (own_rank3 nk0 nk1 nk2 nk3) (pa 3)) ∧ (h0.size ≤ oz)
set_option maxRecDepth 65536 in
set_option maxHeartbeats 40000000 in
theorem rm1k3 (l : Launch) (Z : State) (a0 : Array Value) (hw : ∀ d ∈ tables_1, d.before a0 Z = true) (ws : List Jvm.Cond) (oa : Addr) (ob : Addr) (oc : Addr) (pa : Nat → Int32) (nk0 : Nat) (nk1 : Nat) (nk2 : Nat) (nk3 : Nat) (h0 : Heap) (n0 : Nat) (Z0 : n0 ≤ h0.size) (A_oa : AI Z h0 oa .int 4 pa) (A_ob : AI Z h0 ob .int 4 (own_keys nk0 nk1 nk2 nk3)) (A_oc : AI Z h0 oc .int 4 (fun _ => (0 : Int32))) (ne_oa_oc : oa ≠ oc) (ne_ob_oc : ob ≠ oc) (g_oc : n0 ≤ oc) (hnk0 : nk0 < 3) (hnk1 : nk1 < 3) (hnk2 : nk2 < 3) (hnk3 : nk3 < 3) :
    MetFree l (⟨"com/example/xml_graph_join/xmlgraphjoin/graph/CountingSort", "sort", "([I[II[I)[I"⟩ : MethodName) (head1 (Jvm.Cond.code (⟨"com/example/xml_graph_join/xmlgraphjoin/graph/CountingSort", "sort", "([I[II[I)[I"⟩ : MethodName) prog_49_method_2_code 9 (some (.array .int)) :: ws) ({ frames := 0, cells := 2, slots := 9, locals := 0 } : Room)) (fun a U => a = #[(.ref oa), (.ref ob), (.int (3 : Int32)), (.ref oc)] ∧ Z.Warmed39 U.vm ∧ U.heap = h0) (fun _ _ _ _ _ => True) (fun _ U o U' => ∃ v L, o = .returned v ∧ Q1k3 Z oa ob oc pa nk0 nk1 nk2 nk3 h0 n0 v U'.heap L ∧ FrameEnd U o U' L ({ frames := 0, cells := 2, slots := 9, locals := 0 } : Room).cells ({ frames := 0, cells := 2, slots := 9, locals := 0 } : Room).slots) := by
  refine MetFree.of_bodySF (plainFor_of_name pn_0) hisR ?_
  intro p e s m args below meth c s₁ Bd hml0 hP hK
  obtain ⟨rfl, hZ, hh⟩ := hP
  have hx := Bd.exec
  have hby := Bd.bytes
  have hml : c.maxLocals = 9 := hml0
  have hown : s.vm.findClass "com/example/xml_graph_join/xmlgraphjoin/graph/CountingSort" = some m.cls := findClass_of_methodNamed Bd.named
  have hnm := (name_of_methodNamed Bd.named Bd.method).1
  have X0 : Stand p l e ({ frames := 0, cells := 2, slots := 9, locals := 0 } : Room) s m #[(.ref oa), (.ref ob), (.int (3 : Int32)), (.ref oc)] below meth c s₁ [] 0 0 := Stand.of_body Bd
  have e0 : s₁.heap = h0 := by rw [← hh, Bd.state]; rfl
  have N0 := Fr.nil n0
  refine Goes.by (fun _ k => castTop (ef1k3 m oa ob oc) k) ?_
  show Goes p.tables e below (s₁.setTop (mkF m 0 #[.val (.ref oa), .val (.ref ob), .val (.int (3 : Int32)), .val (.ref oc), .unset, .unset, .unset, .unset, .unset] [])) _
  refine Goes.by (fun _ k => XS.iloadN X0.here hx rfl (hb hby d1_0) rfl k) ?_
  show Goes p.tables e below (s₁.setTop (mkF m 1 #[.val (.ref oa), .val (.ref ob), .val (.int (3 : Int32)), .val (.ref oc), .unset, .unset, .unset, .unset, .unset] [(.int (3 : Int32))])) _
  refine Goes.by (fun _ k => XS.iconst X0.here hx rfl (hb hby d1_1) k) ?_
  show Goes p.tables e below (s₁.setTop (mkF m 2 #[.val (.ref oa), .val (.ref ob), .val (.int (3 : Int32)), .val (.ref oc), .unset, .unset, .unset, .unset, .unset] [(.int (1 : Int32)), (.int (3 : Int32))])) _
  refine Goes.by (fun _ k => XS.iadd X0.here hx rfl (hb hby d1_2) rfl k) ?_
  show Goes p.tables e below (s₁.setTop (mkF m 3 #[.val (.ref oa), .val (.ref ob), .val (.int (3 : Int32)), .val (.ref oc), .unset, .unset, .unset, .unset, .unset] [(.int (4 : Int32))])) _
  obtain ⟨T1, h1, X1, e1, E1, A1, st1⟩ := nwA (n := 4) (cap := 4) (fr := (mkF m 3 #[.val (.ref oa), .val (.ref ob), .val (.int (3 : Int32)), .val (.ref oc), .unset, .unset, .unset, .unset, .unset] [(.int (4 : Int32))])) X0 hx hZ (hw _ (List.mem_of_getElem? (i := 0) rfl)) e0 (by decide) (by decide) (by decide) (by decide) (by decide) rfl rfl (hb hby d1_3)
  obtain ⟨b1, g1⟩ : ∃ z, z = h0.size := ⟨_, rfl⟩
  rw [← g1] at A1 st1
  have g_b1 : n0 ≤ b1 := Nat.le_trans Z0 (Nat.le_of_eq g1.symm)
  have sz_b1 : h0.size ≤ b1 := Nat.le_trans (Keep.refl h0 [oc]).1 (Nat.le_of_eq g1.symm)
  have ne_oa_b1 : oa ≠ b1 := Nat.ne_of_lt (Nat.lt_of_lt_of_le A_oa.lt (Nat.le_of_eq g1.symm))
  have ne_ob_b1 : ob ≠ b1 := Nat.ne_of_lt (Nat.lt_of_lt_of_le A_ob.lt (Nat.le_of_eq g1.symm))
  have ne_oc_b1 : oc ≠ b1 := Nat.ne_of_lt (Nat.lt_of_lt_of_le A_oc.lt (Nat.le_of_eq g1.symm))
  have Zs1 : n0 ≤ h1.size := Nat.le_trans Z0 E1.1
  have K1 : Keep h0 h1 [oc] := (Keep.refl h0 [oc]).ext E1
  refine Goes.by st1 ?_
  have A_oa : AI Z h1 oa .int 4 pa := A_oa.ext E1
  have A_ob : AI Z h1 ob .int 4 (own_keys nk0 nk1 nk2 nk3) := A_ob.ext E1
  have A_oc : AI Z h1 oc .int 4 (fun _ => (0 : Int32)) := A_oc.ext E1
  have A_b1 : AI Z h1 b1 .int 4 (fun _ => (0 : Int32)) := A1
  show Goes p.tables e below (T1.setTop (mkF m 5 #[.val (.ref oa), .val (.ref ob), .val (.int (3 : Int32)), .val (.ref oc), .unset, .unset, .unset, .unset, .unset] [(.ref b1)])) _
  refine Goes.by (fun _ k => XS.astore X1.here hx rfl (hb hby d1_5) rfl rfl (l' := #[.val (.ref oa), .val (.ref ob), .val (.int (3 : Int32)), .val (.ref oc), .val (.ref b1), .unset, .unset, .unset, .unset]) rfl k) ?_
  show Goes p.tables e below (T1.setTop (mkF m 7 #[.val (.ref oa), .val (.ref ob), .val (.int (3 : Int32)), .val (.ref oc), .val (.ref b1), .unset, .unset, .unset, .unset] [])) _
  refine Goes.by (fun _ k => XS.aloadN X1.here hx rfl (hb hby d1_7) rfl rfl k) ?_
  show Goes p.tables e below (T1.setTop (mkF m 8 #[.val (.ref oa), .val (.ref ob), .val (.int (3 : Int32)), .val (.ref oc), .val (.ref b1), .unset, .unset, .unset, .unset] [(.ref ob)])) _
  refine Goes.by (fun _ k => XS.astore X1.here hx rfl (hb hby d1_8) rfl rfl (l' := #[.val (.ref oa), .val (.ref ob), .val (.int (3 : Int32)), .val (.ref oc), .val (.ref b1), .val (.ref ob), .unset, .unset, .unset]) rfl k) ?_
  show Goes p.tables e below (T1.setTop (mkF m 10 #[.val (.ref oa), .val (.ref ob), .val (.int (3 : Int32)), .val (.ref oc), .val (.ref b1), .val (.ref ob), .unset, .unset, .unset] [])) _
  refine Goes.by (fun _ k => XS.aload X1.here hx rfl (hb hby d1_10) rfl rfl k) ?_
  show Goes p.tables e below (T1.setTop (mkF m 12 #[.val (.ref oa), .val (.ref ob), .val (.int (3 : Int32)), .val (.ref oc), .val (.ref b1), .val (.ref ob), .unset, .unset, .unset] [(.ref ob)])) _
  refine Goes.by (fun _ k => alen (z := (4 : Int32)) (fr := (mkF m 12 #[.val (.ref oa), .val (.ref ob), .val (.int (3 : Int32)), .val (.ref oc), .val (.ref b1), .val (.ref ob), .unset, .unset, .unset] [(.ref ob)])) X1 hx hZ e1 A_ob (by decide) rfl rfl (hb hby d1_12) k) ?_
  show Goes p.tables e below (T1.setTop (mkF m 13 #[.val (.ref oa), .val (.ref ob), .val (.int (3 : Int32)), .val (.ref oc), .val (.ref b1), .val (.ref ob), .unset, .unset, .unset] [(.int (4 : Int32))])) _
  refine Goes.by (fun _ k => XS.istore X1.here hx rfl (hb hby d1_13) rfl (l' := #[.val (.ref oa), .val (.ref ob), .val (.int (3 : Int32)), .val (.ref oc), .val (.ref b1), .val (.ref ob), .val (.int (4 : Int32)), .unset, .unset]) rfl k) ?_
  show Goes p.tables e below (T1.setTop (mkF m 15 #[.val (.ref oa), .val (.ref ob), .val (.int (3 : Int32)), .val (.ref oc), .val (.ref b1), .val (.ref ob), .val (.int (4 : Int32)), .unset, .unset] [])) _
  refine Goes.by (fun _ k => XS.iconst X1.here hx rfl (hb hby d1_15) k) ?_
  show Goes p.tables e below (T1.setTop (mkF m 16 #[.val (.ref oa), .val (.ref ob), .val (.int (3 : Int32)), .val (.ref oc), .val (.ref b1), .val (.ref ob), .val (.int (4 : Int32)), .unset, .unset] [(.int (0 : Int32))])) _
  refine Goes.by (fun _ k => XS.istore X1.here hx rfl (hb hby d1_16) rfl (l' := #[.val (.ref oa), .val (.ref ob), .val (.int (3 : Int32)), .val (.ref oc), .val (.ref b1), .val (.ref ob), .val (.int (4 : Int32)), .val (.int (0 : Int32)), .unset]) rfl k) ?_
  show Goes p.tables e below (T1.setTop (mkF m 18 #[.val (.ref oa), .val (.ref ob), .val (.int (3 : Int32)), .val (.ref oc), .val (.ref b1), .val (.ref ob), .val (.int (4 : Int32)), .val (.int (0 : Int32)), .unset] [])) _
  refine Goes.by (fun _ k => XS.iload X1.here hx rfl (hb hby d1_18) rfl k) ?_
  show Goes p.tables e below (T1.setTop (mkF m 20 #[.val (.ref oa), .val (.ref ob), .val (.int (3 : Int32)), .val (.ref oc), .val (.ref b1), .val (.ref ob), .val (.int (4 : Int32)), .val (.int (0 : Int32)), .unset] [(.int (0 : Int32))])) _
  refine Goes.by (fun _ k => XS.iload X1.here hx rfl (hb hby d1_20) rfl k) ?_
  show Goes p.tables e below (T1.setTop (mkF m 22 #[.val (.ref oa), .val (.ref ob), .val (.int (3 : Int32)), .val (.ref oc), .val (.ref b1), .val (.ref ob), .val (.int (4 : Int32)), .val (.int (0 : Int32)), .unset] [(.int (4 : Int32)), (.int (0 : Int32))])) _
  refine Goes.by (fun _ k => XS.icmpNo X1.here hx rfl (hb hby d1_22) rfl (tlt (by decide : (0 : Int32) < (4 : Int32))).2.1 k) ?_
  show Goes p.tables e below (T1.setTop (mkF m 25 #[.val (.ref oa), .val (.ref ob), .val (.int (3 : Int32)), .val (.ref oc), .val (.ref b1), .val (.ref ob), .val (.int (4 : Int32)), .val (.int (0 : Int32)), .unset] [])) _
  refine Goes.by (fun _ k => XS.aload X1.here hx rfl (hb hby d1_25) rfl rfl k) ?_
  show Goes p.tables e below (T1.setTop (mkF m 27 #[.val (.ref oa), .val (.ref ob), .val (.int (3 : Int32)), .val (.ref oc), .val (.ref b1), .val (.ref ob), .val (.int (4 : Int32)), .val (.int (0 : Int32)), .unset] [(.ref ob)])) _
  refine Goes.by (fun _ k => XS.iload X1.here hx rfl (hb hby d1_27) rfl k) ?_
  show Goes p.tables e below (T1.setTop (mkF m 29 #[.val (.ref oa), .val (.ref ob), .val (.int (3 : Int32)), .val (.ref oc), .val (.ref b1), .val (.ref ob), .val (.int (4 : Int32)), .val (.int (0 : Int32)), .unset] [(.int (0 : Int32)), (.ref ob)])) _
  refine Goes.by (fun _ k => ldI (v := (Int32.ofNat nk0)) (fr := (mkF m 29 #[.val (.ref oa), .val (.ref ob), .val (.int (3 : Int32)), .val (.ref oc), .val (.ref b1), .val (.ref ob), .val (.int (4 : Int32)), .val (.int (0 : Int32)), .unset] [(.int (0 : Int32)), (.ref ob)])) X1 hx hZ e1 A_ob (i := 0) (by decide) (by decide) rfl rfl rfl (hb hby d1_29) k) ?_
  show Goes p.tables e below (T1.setTop (mkF m 30 #[.val (.ref oa), .val (.ref ob), .val (.int (3 : Int32)), .val (.ref oc), .val (.ref b1), .val (.ref ob), .val (.int (4 : Int32)), .val (.int (0 : Int32)), .unset] [(.int (Int32.ofNat nk0))])) _
  refine Goes.by (fun _ k => XS.istore X1.here hx rfl (hb hby d1_30) rfl (l' := #[.val (.ref oa), .val (.ref ob), .val (.int (3 : Int32)), .val (.ref oc), .val (.ref b1), .val (.ref ob), .val (.int (4 : Int32)), .val (.int (0 : Int32)), .val (.int (Int32.ofNat nk0))]) rfl k) ?_
  show Goes p.tables e below (T1.setTop (mkF m 32 #[.val (.ref oa), .val (.ref ob), .val (.int (3 : Int32)), .val (.ref oc), .val (.ref b1), .val (.ref ob), .val (.int (4 : Int32)), .val (.int (0 : Int32)), .val (.int (Int32.ofNat nk0))] [])) _
  refine Goes.by (fun _ k => XS.aload X1.here hx rfl (hb hby d1_32) rfl rfl k) ?_
  show Goes p.tables e below (T1.setTop (mkF m 34 #[.val (.ref oa), .val (.ref ob), .val (.int (3 : Int32)), .val (.ref oc), .val (.ref b1), .val (.ref ob), .val (.int (4 : Int32)), .val (.int (0 : Int32)), .val (.int (Int32.ofNat nk0))] [(.ref b1)])) _
  refine Goes.by (fun _ k => XS.iload X1.here hx rfl (hb hby d1_34) rfl k) ?_
  show Goes p.tables e below (T1.setTop (mkF m 36 #[.val (.ref oa), .val (.ref ob), .val (.int (3 : Int32)), .val (.ref oc), .val (.ref b1), .val (.ref ob), .val (.int (4 : Int32)), .val (.int (0 : Int32)), .val (.int (Int32.ofNat nk0))] [(.int (Int32.ofNat nk0)), (.ref b1)])) _
  refine Goes.by (fun _ k => XS.iconst X1.here hx rfl (hb hby d1_36) k) ?_
  show Goes p.tables e below (T1.setTop (mkF m 37 #[.val (.ref oa), .val (.ref ob), .val (.int (3 : Int32)), .val (.ref oc), .val (.ref b1), .val (.ref ob), .val (.int (4 : Int32)), .val (.int (0 : Int32)), .val (.int (Int32.ofNat nk0))] [(.int (1 : Int32)), (.int (Int32.ofNat nk0)), (.ref b1)])) _
  refine Goes.by (fun _ k => XS.iadd X1.here hx rfl (hb hby d1_37) rfl k) ?_
  show Goes p.tables e below (T1.setTop (mkF m 38 #[.val (.ref oa), .val (.ref ob), .val (.int (3 : Int32)), .val (.ref oc), .val (.ref b1), .val (.ref ob), .val (.int (4 : Int32)), .val (.int (0 : Int32)), .val (.int (Int32.ofNat nk0))] [(.int ((Int32.ofNat nk0) + (1 : Int32))), (.ref b1)])) _
  have sd2 : ∀ u, Steps p.tables e below (T1.setTop (mkF m 39 #[.val (.ref oa), .val (.ref ob), .val (.int (3 : Int32)), .val (.ref oc), .val (.ref b1), .val (.ref ob), .val (.int (4 : Int32)), .val (.int (0 : Int32)), .val (.int (Int32.ofNat nk0))] [(.int ((Int32.ofNat nk0) + (1 : Int32))), (.ref b1), (.int ((Int32.ofNat nk0) + (1 : Int32))), (.ref b1)])) u → Steps p.tables e below (T1.setTop (mkF m 38 #[.val (.ref oa), .val (.ref ob), .val (.int (3 : Int32)), .val (.ref oc), .val (.ref b1), .val (.ref ob), .val (.int (4 : Int32)), .val (.int (0 : Int32)), .val (.int (Int32.ofNat nk0))] [(.int ((Int32.ofNat nk0) + (1 : Int32))), (.ref b1)])) u := by
    intro u k
    jvm_step X1.here [X1.here.top, hx, (hb hby d1_38), Value.category]
    exact k
  refine Goes.by (fun _ k => sd2 _ k) ?_
  show Goes p.tables e below (T1.setTop (mkF m 39 #[.val (.ref oa), .val (.ref ob), .val (.int (3 : Int32)), .val (.ref oc), .val (.ref b1), .val (.ref ob), .val (.int (4 : Int32)), .val (.int (0 : Int32)), .val (.int (Int32.ofNat nk0))] [(.int ((Int32.ofNat nk0) + (1 : Int32))), (.ref b1), (.int ((Int32.ofNat nk0) + (1 : Int32))), (.ref b1)])) _
  refine Goes.by (fun _ k => ldI (v := ((fun _ => (0 : Int32)) (nk0 + 1))) (fr := (mkF m 39 #[.val (.ref oa), .val (.ref ob), .val (.int (3 : Int32)), .val (.ref oc), .val (.ref b1), .val (.ref ob), .val (.int (4 : Int32)), .val (.int (0 : Int32)), .val (.int (Int32.ofNat nk0))] [(.int ((Int32.ofNat nk0) + (1 : Int32))), (.ref b1), (.int ((Int32.ofNat nk0) + (1 : Int32))), (.ref b1)])) X1 hx hZ e1 A_b1 (i := (nk0 + 1)) (own_i1 nk0 (Nat.lt_trans hnk0 (by decide))) (Nat.succ_lt_succ hnk0) rfl rfl rfl (hb hby d1_39) k) ?_
  show Goes p.tables e below (T1.setTop (mkF m 40 #[.val (.ref oa), .val (.ref ob), .val (.int (3 : Int32)), .val (.ref oc), .val (.ref b1), .val (.ref ob), .val (.int (4 : Int32)), .val (.int (0 : Int32)), .val (.int (Int32.ofNat nk0))] [(.int ((fun _ => (0 : Int32)) (nk0 + 1))), (.int ((Int32.ofNat nk0) + (1 : Int32))), (.ref b1)])) _
  refine Goes.by (fun _ k => XS.iconst X1.here hx rfl (hb hby d1_40) k) ?_
  show Goes p.tables e below (T1.setTop (mkF m 41 #[.val (.ref oa), .val (.ref ob), .val (.int (3 : Int32)), .val (.ref oc), .val (.ref b1), .val (.ref ob), .val (.int (4 : Int32)), .val (.int (0 : Int32)), .val (.int (Int32.ofNat nk0))] [(.int (1 : Int32)), (.int ((fun _ => (0 : Int32)) (nk0 + 1))), (.int ((Int32.ofNat nk0) + (1 : Int32))), (.ref b1)])) _
  refine Goes.by (fun _ k => XS.iadd X1.here hx rfl (hb hby d1_41) rfl k) ?_
  show Goes p.tables e below (T1.setTop (mkF m 42 #[.val (.ref oa), .val (.ref ob), .val (.int (3 : Int32)), .val (.ref oc), .val (.ref b1), .val (.ref ob), .val (.int (4 : Int32)), .val (.int (0 : Int32)), .val (.int (Int32.ofNat nk0))] [(.int (((fun _ => (0 : Int32)) (nk0 + 1)) + (1 : Int32))), (.int ((Int32.ofNat nk0) + (1 : Int32))), (.ref b1)])) _
  obtain ⟨T3, h3, X3, e3, W3, A3, st3⟩ := stAI (fr := (mkF m 42 #[.val (.ref oa), .val (.ref ob), .val (.int (3 : Int32)), .val (.ref oc), .val (.ref b1), .val (.ref ob), .val (.int (4 : Int32)), .val (.int (0 : Int32)), .val (.int (Int32.ofNat nk0))] [(.int (((fun _ => (0 : Int32)) (nk0 + 1)) + (1 : Int32))), (.int ((Int32.ofNat nk0) + (1 : Int32))), (.ref b1)])) X1 hx hZ e1 A_b1 (i := (nk0 + 1)) (own_i1 nk0 (Nat.lt_trans hnk0 (by decide))) (Nat.succ_lt_succ hnk0) rfl rfl (hb hby d1_42)
  refine Goes.by st3 ?_
  have A_b1 : AI Z h3 b1 .int 4 (own_cnt1 nk0 nk1 nk2 nk3) := A3.congr (fun j hj => own_f3_1 ⟨nk0, hnk0⟩ ⟨nk1, hnk1⟩ ⟨nk2, hnk2⟩ ⟨nk3, hnk3⟩ ⟨j, hj⟩)
  have N3 := Fr.snoc X3 N0 g_b1
  have Zs3 : n0 ≤ h3.size := Nat.le_trans Zs1 (Keep.of_wr W3).1
  have K3 : Keep h0 h3 [oc] := K1.wr W3 (Or.inr sz_b1)
  have A_oa : AI Z h3 oa .int 4 pa := A_oa.other W3 ne_oa_b1
  have A_ob : AI Z h3 ob .int 4 (own_keys nk0 nk1 nk2 nk3) := A_ob.other W3 ne_ob_b1
  have A_oc : AI Z h3 oc .int 4 (fun _ => (0 : Int32)) := A_oc.other W3 ne_oc_b1
  show Goes p.tables e below (T3.setTop (mkF m 43 #[.val (.ref oa), .val (.ref ob), .val (.int (3 : Int32)), .val (.ref oc), .val (.ref b1), .val (.ref ob), .val (.int (4 : Int32)), .val (.int (0 : Int32)), .val (.int (Int32.ofNat nk0))] [])) _
  refine Goes.by (fun _ k => XS.iinc X3.here hx rfl (hb hby d1_43) rfl (l' := #[.val (.ref oa), .val (.ref ob), .val (.int (3 : Int32)), .val (.ref oc), .val (.ref b1), .val (.ref ob), .val (.int (4 : Int32)), .val (.int (1 : Int32)), .val (.int (Int32.ofNat nk0))]) rfl k) ?_
  show Goes p.tables e below (T3.setTop (mkF m 46 #[.val (.ref oa), .val (.ref ob), .val (.int (3 : Int32)), .val (.ref oc), .val (.ref b1), .val (.ref ob), .val (.int (4 : Int32)), .val (.int (1 : Int32)), .val (.int (Int32.ofNat nk0))] [])) _
  refine Goes.by (fun _ k => XS.goto X3.here hx rfl (pc0 := 46) (pc' := 18) rfl (hb hby d1_46) (by decide) (by decide) k) ?_
  show Goes p.tables e below (T3.setTop (mkF m 18 #[.val (.ref oa), .val (.ref ob), .val (.int (3 : Int32)), .val (.ref oc), .val (.ref b1), .val (.ref ob), .val (.int (4 : Int32)), .val (.int (1 : Int32)), .val (.int (Int32.ofNat nk0))] [])) _
  refine Goes.by (fun _ k => XS.iload X3.here hx rfl (hb hby d1_18) rfl k) ?_
  show Goes p.tables e below (T3.setTop (mkF m 20 #[.val (.ref oa), .val (.ref ob), .val (.int (3 : Int32)), .val (.ref oc), .val (.ref b1), .val (.ref ob), .val (.int (4 : Int32)), .val (.int (1 : Int32)), .val (.int (Int32.ofNat nk0))] [(.int (1 : Int32))])) _
  refine Goes.by (fun _ k => XS.iload X3.here hx rfl (hb hby d1_20) rfl k) ?_
  show Goes p.tables e below (T3.setTop (mkF m 22 #[.val (.ref oa), .val (.ref ob), .val (.int (3 : Int32)), .val (.ref oc), .val (.ref b1), .val (.ref ob), .val (.int (4 : Int32)), .val (.int (1 : Int32)), .val (.int (Int32.ofNat nk0))] [(.int (4 : Int32)), (.int (1 : Int32))])) _
  refine Goes.by (fun _ k => XS.icmpNo X3.here hx rfl (hb hby d1_22) rfl (tlt (by decide : (1 : Int32) < (4 : Int32))).2.1 k) ?_
  show Goes p.tables e below (T3.setTop (mkF m 25 #[.val (.ref oa), .val (.ref ob), .val (.int (3 : Int32)), .val (.ref oc), .val (.ref b1), .val (.ref ob), .val (.int (4 : Int32)), .val (.int (1 : Int32)), .val (.int (Int32.ofNat nk0))] [])) _
  refine Goes.by (fun _ k => XS.aload X3.here hx rfl (hb hby d1_25) rfl rfl k) ?_
  show Goes p.tables e below (T3.setTop (mkF m 27 #[.val (.ref oa), .val (.ref ob), .val (.int (3 : Int32)), .val (.ref oc), .val (.ref b1), .val (.ref ob), .val (.int (4 : Int32)), .val (.int (1 : Int32)), .val (.int (Int32.ofNat nk0))] [(.ref ob)])) _
  refine Goes.by (fun _ k => XS.iload X3.here hx rfl (hb hby d1_27) rfl k) ?_
  show Goes p.tables e below (T3.setTop (mkF m 29 #[.val (.ref oa), .val (.ref ob), .val (.int (3 : Int32)), .val (.ref oc), .val (.ref b1), .val (.ref ob), .val (.int (4 : Int32)), .val (.int (1 : Int32)), .val (.int (Int32.ofNat nk0))] [(.int (1 : Int32)), (.ref ob)])) _
  refine Goes.by (fun _ k => ldI (v := (Int32.ofNat nk1)) (fr := (mkF m 29 #[.val (.ref oa), .val (.ref ob), .val (.int (3 : Int32)), .val (.ref oc), .val (.ref b1), .val (.ref ob), .val (.int (4 : Int32)), .val (.int (1 : Int32)), .val (.int (Int32.ofNat nk0))] [(.int (1 : Int32)), (.ref ob)])) X3 hx hZ e3 A_ob (i := 1) (by decide) (by decide) rfl rfl rfl (hb hby d1_29) k) ?_
  show Goes p.tables e below (T3.setTop (mkF m 30 #[.val (.ref oa), .val (.ref ob), .val (.int (3 : Int32)), .val (.ref oc), .val (.ref b1), .val (.ref ob), .val (.int (4 : Int32)), .val (.int (1 : Int32)), .val (.int (Int32.ofNat nk0))] [(.int (Int32.ofNat nk1))])) _
  refine Goes.by (fun _ k => XS.istore X3.here hx rfl (hb hby d1_30) rfl (l' := #[.val (.ref oa), .val (.ref ob), .val (.int (3 : Int32)), .val (.ref oc), .val (.ref b1), .val (.ref ob), .val (.int (4 : Int32)), .val (.int (1 : Int32)), .val (.int (Int32.ofNat nk1))]) rfl k) ?_
  show Goes p.tables e below (T3.setTop (mkF m 32 #[.val (.ref oa), .val (.ref ob), .val (.int (3 : Int32)), .val (.ref oc), .val (.ref b1), .val (.ref ob), .val (.int (4 : Int32)), .val (.int (1 : Int32)), .val (.int (Int32.ofNat nk1))] [])) _
  refine Goes.by (fun _ k => XS.aload X3.here hx rfl (hb hby d1_32) rfl rfl k) ?_
  show Goes p.tables e below (T3.setTop (mkF m 34 #[.val (.ref oa), .val (.ref ob), .val (.int (3 : Int32)), .val (.ref oc), .val (.ref b1), .val (.ref ob), .val (.int (4 : Int32)), .val (.int (1 : Int32)), .val (.int (Int32.ofNat nk1))] [(.ref b1)])) _
  refine Goes.by (fun _ k => XS.iload X3.here hx rfl (hb hby d1_34) rfl k) ?_
  show Goes p.tables e below (T3.setTop (mkF m 36 #[.val (.ref oa), .val (.ref ob), .val (.int (3 : Int32)), .val (.ref oc), .val (.ref b1), .val (.ref ob), .val (.int (4 : Int32)), .val (.int (1 : Int32)), .val (.int (Int32.ofNat nk1))] [(.int (Int32.ofNat nk1)), (.ref b1)])) _
  refine Goes.by (fun _ k => XS.iconst X3.here hx rfl (hb hby d1_36) k) ?_
  show Goes p.tables e below (T3.setTop (mkF m 37 #[.val (.ref oa), .val (.ref ob), .val (.int (3 : Int32)), .val (.ref oc), .val (.ref b1), .val (.ref ob), .val (.int (4 : Int32)), .val (.int (1 : Int32)), .val (.int (Int32.ofNat nk1))] [(.int (1 : Int32)), (.int (Int32.ofNat nk1)), (.ref b1)])) _
  refine Goes.by (fun _ k => XS.iadd X3.here hx rfl (hb hby d1_37) rfl k) ?_
  show Goes p.tables e below (T3.setTop (mkF m 38 #[.val (.ref oa), .val (.ref ob), .val (.int (3 : Int32)), .val (.ref oc), .val (.ref b1), .val (.ref ob), .val (.int (4 : Int32)), .val (.int (1 : Int32)), .val (.int (Int32.ofNat nk1))] [(.int ((Int32.ofNat nk1) + (1 : Int32))), (.ref b1)])) _
  have sd4 : ∀ u, Steps p.tables e below (T3.setTop (mkF m 39 #[.val (.ref oa), .val (.ref ob), .val (.int (3 : Int32)), .val (.ref oc), .val (.ref b1), .val (.ref ob), .val (.int (4 : Int32)), .val (.int (1 : Int32)), .val (.int (Int32.ofNat nk1))] [(.int ((Int32.ofNat nk1) + (1 : Int32))), (.ref b1), (.int ((Int32.ofNat nk1) + (1 : Int32))), (.ref b1)])) u → Steps p.tables e below (T3.setTop (mkF m 38 #[.val (.ref oa), .val (.ref ob), .val (.int (3 : Int32)), .val (.ref oc), .val (.ref b1), .val (.ref ob), .val (.int (4 : Int32)), .val (.int (1 : Int32)), .val (.int (Int32.ofNat nk1))] [(.int ((Int32.ofNat nk1) + (1 : Int32))), (.ref b1)])) u := by
    intro u k
    jvm_step X3.here [X3.here.top, hx, (hb hby d1_38), Value.category]
    exact k
  refine Goes.by (fun _ k => sd4 _ k) ?_
  show Goes p.tables e below (T3.setTop (mkF m 39 #[.val (.ref oa), .val (.ref ob), .val (.int (3 : Int32)), .val (.ref oc), .val (.ref b1), .val (.ref ob), .val (.int (4 : Int32)), .val (.int (1 : Int32)), .val (.int (Int32.ofNat nk1))] [(.int ((Int32.ofNat nk1) + (1 : Int32))), (.ref b1), (.int ((Int32.ofNat nk1) + (1 : Int32))), (.ref b1)])) _
  refine Goes.by (fun _ k => ldI (v := ((own_cnt1 nk0 nk1 nk2 nk3) (nk1 + 1))) (fr := (mkF m 39 #[.val (.ref oa), .val (.ref ob), .val (.int (3 : Int32)), .val (.ref oc), .val (.ref b1), .val (.ref ob), .val (.int (4 : Int32)), .val (.int (1 : Int32)), .val (.int (Int32.ofNat nk1))] [(.int ((Int32.ofNat nk1) + (1 : Int32))), (.ref b1), (.int ((Int32.ofNat nk1) + (1 : Int32))), (.ref b1)])) X3 hx hZ e3 A_b1 (i := (nk1 + 1)) (own_i1 nk1 (Nat.lt_trans hnk1 (by decide))) (Nat.succ_lt_succ hnk1) rfl rfl rfl (hb hby d1_39) k) ?_
  show Goes p.tables e below (T3.setTop (mkF m 40 #[.val (.ref oa), .val (.ref ob), .val (.int (3 : Int32)), .val (.ref oc), .val (.ref b1), .val (.ref ob), .val (.int (4 : Int32)), .val (.int (1 : Int32)), .val (.int (Int32.ofNat nk1))] [(.int ((own_cnt1 nk0 nk1 nk2 nk3) (nk1 + 1))), (.int ((Int32.ofNat nk1) + (1 : Int32))), (.ref b1)])) _
  refine Goes.by (fun _ k => XS.iconst X3.here hx rfl (hb hby d1_40) k) ?_
  show Goes p.tables e below (T3.setTop (mkF m 41 #[.val (.ref oa), .val (.ref ob), .val (.int (3 : Int32)), .val (.ref oc), .val (.ref b1), .val (.ref ob), .val (.int (4 : Int32)), .val (.int (1 : Int32)), .val (.int (Int32.ofNat nk1))] [(.int (1 : Int32)), (.int ((own_cnt1 nk0 nk1 nk2 nk3) (nk1 + 1))), (.int ((Int32.ofNat nk1) + (1 : Int32))), (.ref b1)])) _
  refine Goes.by (fun _ k => XS.iadd X3.here hx rfl (hb hby d1_41) rfl k) ?_
  show Goes p.tables e below (T3.setTop (mkF m 42 #[.val (.ref oa), .val (.ref ob), .val (.int (3 : Int32)), .val (.ref oc), .val (.ref b1), .val (.ref ob), .val (.int (4 : Int32)), .val (.int (1 : Int32)), .val (.int (Int32.ofNat nk1))] [(.int (((own_cnt1 nk0 nk1 nk2 nk3) (nk1 + 1)) + (1 : Int32))), (.int ((Int32.ofNat nk1) + (1 : Int32))), (.ref b1)])) _
  obtain ⟨T5, h5, X5, e5, W5, A5, st5⟩ := stAI (fr := (mkF m 42 #[.val (.ref oa), .val (.ref ob), .val (.int (3 : Int32)), .val (.ref oc), .val (.ref b1), .val (.ref ob), .val (.int (4 : Int32)), .val (.int (1 : Int32)), .val (.int (Int32.ofNat nk1))] [(.int (((own_cnt1 nk0 nk1 nk2 nk3) (nk1 + 1)) + (1 : Int32))), (.int ((Int32.ofNat nk1) + (1 : Int32))), (.ref b1)])) X3 hx hZ e3 A_b1 (i := (nk1 + 1)) (own_i1 nk1 (Nat.lt_trans hnk1 (by decide))) (Nat.succ_lt_succ hnk1) rfl rfl (hb hby d1_42)
  refine Goes.by st5 ?_
  have A_b1 : AI Z h5 b1 .int 4 (own_cnt2 nk0 nk1 nk2 nk3) := A5.congr (fun j hj => own_f3_2 ⟨nk0, hnk0⟩ ⟨nk1, hnk1⟩ ⟨nk2, hnk2⟩ ⟨nk3, hnk3⟩ ⟨j, hj⟩)
  have N5 := Fr.snoc X5 N3 g_b1
  have Zs5 : n0 ≤ h5.size := Nat.le_trans Zs3 (Keep.of_wr W5).1
  have K5 : Keep h0 h5 [oc] := K3.wr W5 (Or.inr sz_b1)
  have A_oa : AI Z h5 oa .int 4 pa := A_oa.other W5 ne_oa_b1
  have A_ob : AI Z h5 ob .int 4 (own_keys nk0 nk1 nk2 nk3) := A_ob.other W5 ne_ob_b1
  have A_oc : AI Z h5 oc .int 4 (fun _ => (0 : Int32)) := A_oc.other W5 ne_oc_b1
  show Goes p.tables e below (T5.setTop (mkF m 43 #[.val (.ref oa), .val (.ref ob), .val (.int (3 : Int32)), .val (.ref oc), .val (.ref b1), .val (.ref ob), .val (.int (4 : Int32)), .val (.int (1 : Int32)), .val (.int (Int32.ofNat nk1))] [])) _
  refine Goes.by (fun _ k => XS.iinc X5.here hx rfl (hb hby d1_43) rfl (l' := #[.val (.ref oa), .val (.ref ob), .val (.int (3 : Int32)), .val (.ref oc), .val (.ref b1), .val (.ref ob), .val (.int (4 : Int32)), .val (.int (2 : Int32)), .val (.int (Int32.ofNat nk1))]) rfl k) ?_
  show Goes p.tables e below (T5.setTop (mkF m 46 #[.val (.ref oa), .val (.ref ob), .val (.int (3 : Int32)), .val (.ref oc), .val (.ref b1), .val (.ref ob), .val (.int (4 : Int32)), .val (.int (2 : Int32)), .val (.int (Int32.ofNat nk1))] [])) _
  refine Goes.by (fun _ k => XS.goto X5.here hx rfl (pc0 := 46) (pc' := 18) rfl (hb hby d1_46) (by decide) (by decide) k) ?_
  show Goes p.tables e below (T5.setTop (mkF m 18 #[.val (.ref oa), .val (.ref ob), .val (.int (3 : Int32)), .val (.ref oc), .val (.ref b1), .val (.ref ob), .val (.int (4 : Int32)), .val (.int (2 : Int32)), .val (.int (Int32.ofNat nk1))] [])) _
  refine Goes.by (fun _ k => XS.iload X5.here hx rfl (hb hby d1_18) rfl k) ?_
  show Goes p.tables e below (T5.setTop (mkF m 20 #[.val (.ref oa), .val (.ref ob), .val (.int (3 : Int32)), .val (.ref oc), .val (.ref b1), .val (.ref ob), .val (.int (4 : Int32)), .val (.int (2 : Int32)), .val (.int (Int32.ofNat nk1))] [(.int (2 : Int32))])) _
  refine Goes.by (fun _ k => XS.iload X5.here hx rfl (hb hby d1_20) rfl k) ?_
  show Goes p.tables e below (T5.setTop (mkF m 22 #[.val (.ref oa), .val (.ref ob), .val (.int (3 : Int32)), .val (.ref oc), .val (.ref b1), .val (.ref ob), .val (.int (4 : Int32)), .val (.int (2 : Int32)), .val (.int (Int32.ofNat nk1))] [(.int (4 : Int32)), (.int (2 : Int32))])) _
  refine Goes.by (fun _ k => XS.icmpNo X5.here hx rfl (hb hby d1_22) rfl (tlt (by decide : (2 : Int32) < (4 : Int32))).2.1 k) ?_
  show Goes p.tables e below (T5.setTop (mkF m 25 #[.val (.ref oa), .val (.ref ob), .val (.int (3 : Int32)), .val (.ref oc), .val (.ref b1), .val (.ref ob), .val (.int (4 : Int32)), .val (.int (2 : Int32)), .val (.int (Int32.ofNat nk1))] [])) _
  refine Goes.by (fun _ k => XS.aload X5.here hx rfl (hb hby d1_25) rfl rfl k) ?_
  show Goes p.tables e below (T5.setTop (mkF m 27 #[.val (.ref oa), .val (.ref ob), .val (.int (3 : Int32)), .val (.ref oc), .val (.ref b1), .val (.ref ob), .val (.int (4 : Int32)), .val (.int (2 : Int32)), .val (.int (Int32.ofNat nk1))] [(.ref ob)])) _
  refine Goes.by (fun _ k => XS.iload X5.here hx rfl (hb hby d1_27) rfl k) ?_
  show Goes p.tables e below (T5.setTop (mkF m 29 #[.val (.ref oa), .val (.ref ob), .val (.int (3 : Int32)), .val (.ref oc), .val (.ref b1), .val (.ref ob), .val (.int (4 : Int32)), .val (.int (2 : Int32)), .val (.int (Int32.ofNat nk1))] [(.int (2 : Int32)), (.ref ob)])) _
  refine Goes.by (fun _ k => ldI (v := (Int32.ofNat nk2)) (fr := (mkF m 29 #[.val (.ref oa), .val (.ref ob), .val (.int (3 : Int32)), .val (.ref oc), .val (.ref b1), .val (.ref ob), .val (.int (4 : Int32)), .val (.int (2 : Int32)), .val (.int (Int32.ofNat nk1))] [(.int (2 : Int32)), (.ref ob)])) X5 hx hZ e5 A_ob (i := 2) (by decide) (by decide) rfl rfl rfl (hb hby d1_29) k) ?_
  show Goes p.tables e below (T5.setTop (mkF m 30 #[.val (.ref oa), .val (.ref ob), .val (.int (3 : Int32)), .val (.ref oc), .val (.ref b1), .val (.ref ob), .val (.int (4 : Int32)), .val (.int (2 : Int32)), .val (.int (Int32.ofNat nk1))] [(.int (Int32.ofNat nk2))])) _
  refine Goes.by (fun _ k => XS.istore X5.here hx rfl (hb hby d1_30) rfl (l' := #[.val (.ref oa), .val (.ref ob), .val (.int (3 : Int32)), .val (.ref oc), .val (.ref b1), .val (.ref ob), .val (.int (4 : Int32)), .val (.int (2 : Int32)), .val (.int (Int32.ofNat nk2))]) rfl k) ?_
  show Goes p.tables e below (T5.setTop (mkF m 32 #[.val (.ref oa), .val (.ref ob), .val (.int (3 : Int32)), .val (.ref oc), .val (.ref b1), .val (.ref ob), .val (.int (4 : Int32)), .val (.int (2 : Int32)), .val (.int (Int32.ofNat nk2))] [])) _
  refine Goes.by (fun _ k => XS.aload X5.here hx rfl (hb hby d1_32) rfl rfl k) ?_
  show Goes p.tables e below (T5.setTop (mkF m 34 #[.val (.ref oa), .val (.ref ob), .val (.int (3 : Int32)), .val (.ref oc), .val (.ref b1), .val (.ref ob), .val (.int (4 : Int32)), .val (.int (2 : Int32)), .val (.int (Int32.ofNat nk2))] [(.ref b1)])) _
  refine Goes.by (fun _ k => XS.iload X5.here hx rfl (hb hby d1_34) rfl k) ?_
  show Goes p.tables e below (T5.setTop (mkF m 36 #[.val (.ref oa), .val (.ref ob), .val (.int (3 : Int32)), .val (.ref oc), .val (.ref b1), .val (.ref ob), .val (.int (4 : Int32)), .val (.int (2 : Int32)), .val (.int (Int32.ofNat nk2))] [(.int (Int32.ofNat nk2)), (.ref b1)])) _
  refine Goes.by (fun _ k => XS.iconst X5.here hx rfl (hb hby d1_36) k) ?_
  show Goes p.tables e below (T5.setTop (mkF m 37 #[.val (.ref oa), .val (.ref ob), .val (.int (3 : Int32)), .val (.ref oc), .val (.ref b1), .val (.ref ob), .val (.int (4 : Int32)), .val (.int (2 : Int32)), .val (.int (Int32.ofNat nk2))] [(.int (1 : Int32)), (.int (Int32.ofNat nk2)), (.ref b1)])) _
  refine Goes.by (fun _ k => XS.iadd X5.here hx rfl (hb hby d1_37) rfl k) ?_
  show Goes p.tables e below (T5.setTop (mkF m 38 #[.val (.ref oa), .val (.ref ob), .val (.int (3 : Int32)), .val (.ref oc), .val (.ref b1), .val (.ref ob), .val (.int (4 : Int32)), .val (.int (2 : Int32)), .val (.int (Int32.ofNat nk2))] [(.int ((Int32.ofNat nk2) + (1 : Int32))), (.ref b1)])) _
  have sd6 : ∀ u, Steps p.tables e below (T5.setTop (mkF m 39 #[.val (.ref oa), .val (.ref ob), .val (.int (3 : Int32)), .val (.ref oc), .val (.ref b1), .val (.ref ob), .val (.int (4 : Int32)), .val (.int (2 : Int32)), .val (.int (Int32.ofNat nk2))] [(.int ((Int32.ofNat nk2) + (1 : Int32))), (.ref b1), (.int ((Int32.ofNat nk2) + (1 : Int32))), (.ref b1)])) u → Steps p.tables e below (T5.setTop (mkF m 38 #[.val (.ref oa), .val (.ref ob), .val (.int (3 : Int32)), .val (.ref oc), .val (.ref b1), .val (.ref ob), .val (.int (4 : Int32)), .val (.int (2 : Int32)), .val (.int (Int32.ofNat nk2))] [(.int ((Int32.ofNat nk2) + (1 : Int32))), (.ref b1)])) u := by
    intro u k
    jvm_step X5.here [X5.here.top, hx, (hb hby d1_38), Value.category]
    exact k
  refine Goes.by (fun _ k => sd6 _ k) ?_
  show Goes p.tables e below (T5.setTop (mkF m 39 #[.val (.ref oa), .val (.ref ob), .val (.int (3 : Int32)), .val (.ref oc), .val (.ref b1), .val (.ref ob), .val (.int (4 : Int32)), .val (.int (2 : Int32)), .val (.int (Int32.ofNat nk2))] [(.int ((Int32.ofNat nk2) + (1 : Int32))), (.ref b1), (.int ((Int32.ofNat nk2) + (1 : Int32))), (.ref b1)])) _
  refine Goes.by (fun _ k => ldI (v := ((own_cnt2 nk0 nk1 nk2 nk3) (nk2 + 1))) (fr := (mkF m 39 #[.val (.ref oa), .val (.ref ob), .val (.int (3 : Int32)), .val (.ref oc), .val (.ref b1), .val (.ref ob), .val (.int (4 : Int32)), .val (.int (2 : Int32)), .val (.int (Int32.ofNat nk2))] [(.int ((Int32.ofNat nk2) + (1 : Int32))), (.ref b1), (.int ((Int32.ofNat nk2) + (1 : Int32))), (.ref b1)])) X5 hx hZ e5 A_b1 (i := (nk2 + 1)) (own_i1 nk2 (Nat.lt_trans hnk2 (by decide))) (Nat.succ_lt_succ hnk2) rfl rfl rfl (hb hby d1_39) k) ?_
  show Goes p.tables e below (T5.setTop (mkF m 40 #[.val (.ref oa), .val (.ref ob), .val (.int (3 : Int32)), .val (.ref oc), .val (.ref b1), .val (.ref ob), .val (.int (4 : Int32)), .val (.int (2 : Int32)), .val (.int (Int32.ofNat nk2))] [(.int ((own_cnt2 nk0 nk1 nk2 nk3) (nk2 + 1))), (.int ((Int32.ofNat nk2) + (1 : Int32))), (.ref b1)])) _
  refine Goes.by (fun _ k => XS.iconst X5.here hx rfl (hb hby d1_40) k) ?_
  show Goes p.tables e below (T5.setTop (mkF m 41 #[.val (.ref oa), .val (.ref ob), .val (.int (3 : Int32)), .val (.ref oc), .val (.ref b1), .val (.ref ob), .val (.int (4 : Int32)), .val (.int (2 : Int32)), .val (.int (Int32.ofNat nk2))] [(.int (1 : Int32)), (.int ((own_cnt2 nk0 nk1 nk2 nk3) (nk2 + 1))), (.int ((Int32.ofNat nk2) + (1 : Int32))), (.ref b1)])) _
  refine Goes.by (fun _ k => XS.iadd X5.here hx rfl (hb hby d1_41) rfl k) ?_
  show Goes p.tables e below (T5.setTop (mkF m 42 #[.val (.ref oa), .val (.ref ob), .val (.int (3 : Int32)), .val (.ref oc), .val (.ref b1), .val (.ref ob), .val (.int (4 : Int32)), .val (.int (2 : Int32)), .val (.int (Int32.ofNat nk2))] [(.int (((own_cnt2 nk0 nk1 nk2 nk3) (nk2 + 1)) + (1 : Int32))), (.int ((Int32.ofNat nk2) + (1 : Int32))), (.ref b1)])) _
  obtain ⟨T7, h7, X7, e7, W7, A7, st7⟩ := stAI (fr := (mkF m 42 #[.val (.ref oa), .val (.ref ob), .val (.int (3 : Int32)), .val (.ref oc), .val (.ref b1), .val (.ref ob), .val (.int (4 : Int32)), .val (.int (2 : Int32)), .val (.int (Int32.ofNat nk2))] [(.int (((own_cnt2 nk0 nk1 nk2 nk3) (nk2 + 1)) + (1 : Int32))), (.int ((Int32.ofNat nk2) + (1 : Int32))), (.ref b1)])) X5 hx hZ e5 A_b1 (i := (nk2 + 1)) (own_i1 nk2 (Nat.lt_trans hnk2 (by decide))) (Nat.succ_lt_succ hnk2) rfl rfl (hb hby d1_42)
  refine Goes.by st7 ?_
  have A_b1 : AI Z h7 b1 .int 4 (own_cnt3 nk0 nk1 nk2 nk3) := A7.congr (fun j hj => own_f3_3 ⟨nk0, hnk0⟩ ⟨nk1, hnk1⟩ ⟨nk2, hnk2⟩ ⟨nk3, hnk3⟩ ⟨j, hj⟩)
  have N7 := Fr.snoc X7 N5 g_b1
  have Zs7 : n0 ≤ h7.size := Nat.le_trans Zs5 (Keep.of_wr W7).1
  have K7 : Keep h0 h7 [oc] := K5.wr W7 (Or.inr sz_b1)
  have A_oa : AI Z h7 oa .int 4 pa := A_oa.other W7 ne_oa_b1
  have A_ob : AI Z h7 ob .int 4 (own_keys nk0 nk1 nk2 nk3) := A_ob.other W7 ne_ob_b1
  have A_oc : AI Z h7 oc .int 4 (fun _ => (0 : Int32)) := A_oc.other W7 ne_oc_b1
  show Goes p.tables e below (T7.setTop (mkF m 43 #[.val (.ref oa), .val (.ref ob), .val (.int (3 : Int32)), .val (.ref oc), .val (.ref b1), .val (.ref ob), .val (.int (4 : Int32)), .val (.int (2 : Int32)), .val (.int (Int32.ofNat nk2))] [])) _
  refine Goes.by (fun _ k => XS.iinc X7.here hx rfl (hb hby d1_43) rfl (l' := #[.val (.ref oa), .val (.ref ob), .val (.int (3 : Int32)), .val (.ref oc), .val (.ref b1), .val (.ref ob), .val (.int (4 : Int32)), .val (.int (3 : Int32)), .val (.int (Int32.ofNat nk2))]) rfl k) ?_
  show Goes p.tables e below (T7.setTop (mkF m 46 #[.val (.ref oa), .val (.ref ob), .val (.int (3 : Int32)), .val (.ref oc), .val (.ref b1), .val (.ref ob), .val (.int (4 : Int32)), .val (.int (3 : Int32)), .val (.int (Int32.ofNat nk2))] [])) _
  refine Goes.by (fun _ k => XS.goto X7.here hx rfl (pc0 := 46) (pc' := 18) rfl (hb hby d1_46) (by decide) (by decide) k) ?_
  show Goes p.tables e below (T7.setTop (mkF m 18 #[.val (.ref oa), .val (.ref ob), .val (.int (3 : Int32)), .val (.ref oc), .val (.ref b1), .val (.ref ob), .val (.int (4 : Int32)), .val (.int (3 : Int32)), .val (.int (Int32.ofNat nk2))] [])) _
  refine Goes.by (fun _ k => XS.iload X7.here hx rfl (hb hby d1_18) rfl k) ?_
  show Goes p.tables e below (T7.setTop (mkF m 20 #[.val (.ref oa), .val (.ref ob), .val (.int (3 : Int32)), .val (.ref oc), .val (.ref b1), .val (.ref ob), .val (.int (4 : Int32)), .val (.int (3 : Int32)), .val (.int (Int32.ofNat nk2))] [(.int (3 : Int32))])) _
  refine Goes.by (fun _ k => XS.iload X7.here hx rfl (hb hby d1_20) rfl k) ?_
  show Goes p.tables e below (T7.setTop (mkF m 22 #[.val (.ref oa), .val (.ref ob), .val (.int (3 : Int32)), .val (.ref oc), .val (.ref b1), .val (.ref ob), .val (.int (4 : Int32)), .val (.int (3 : Int32)), .val (.int (Int32.ofNat nk2))] [(.int (4 : Int32)), (.int (3 : Int32))])) _
  refine Goes.by (fun _ k => XS.icmpNo X7.here hx rfl (hb hby d1_22) rfl (tlt (by decide : (3 : Int32) < (4 : Int32))).2.1 k) ?_
  show Goes p.tables e below (T7.setTop (mkF m 25 #[.val (.ref oa), .val (.ref ob), .val (.int (3 : Int32)), .val (.ref oc), .val (.ref b1), .val (.ref ob), .val (.int (4 : Int32)), .val (.int (3 : Int32)), .val (.int (Int32.ofNat nk2))] [])) _
  refine Goes.by (fun _ k => XS.aload X7.here hx rfl (hb hby d1_25) rfl rfl k) ?_
  show Goes p.tables e below (T7.setTop (mkF m 27 #[.val (.ref oa), .val (.ref ob), .val (.int (3 : Int32)), .val (.ref oc), .val (.ref b1), .val (.ref ob), .val (.int (4 : Int32)), .val (.int (3 : Int32)), .val (.int (Int32.ofNat nk2))] [(.ref ob)])) _
  refine Goes.by (fun _ k => XS.iload X7.here hx rfl (hb hby d1_27) rfl k) ?_
  show Goes p.tables e below (T7.setTop (mkF m 29 #[.val (.ref oa), .val (.ref ob), .val (.int (3 : Int32)), .val (.ref oc), .val (.ref b1), .val (.ref ob), .val (.int (4 : Int32)), .val (.int (3 : Int32)), .val (.int (Int32.ofNat nk2))] [(.int (3 : Int32)), (.ref ob)])) _
  refine Goes.by (fun _ k => ldI (v := (Int32.ofNat nk3)) (fr := (mkF m 29 #[.val (.ref oa), .val (.ref ob), .val (.int (3 : Int32)), .val (.ref oc), .val (.ref b1), .val (.ref ob), .val (.int (4 : Int32)), .val (.int (3 : Int32)), .val (.int (Int32.ofNat nk2))] [(.int (3 : Int32)), (.ref ob)])) X7 hx hZ e7 A_ob (i := 3) (by decide) (by decide) rfl rfl rfl (hb hby d1_29) k) ?_
  show Goes p.tables e below (T7.setTop (mkF m 30 #[.val (.ref oa), .val (.ref ob), .val (.int (3 : Int32)), .val (.ref oc), .val (.ref b1), .val (.ref ob), .val (.int (4 : Int32)), .val (.int (3 : Int32)), .val (.int (Int32.ofNat nk2))] [(.int (Int32.ofNat nk3))])) _
  refine Goes.by (fun _ k => XS.istore X7.here hx rfl (hb hby d1_30) rfl (l' := #[.val (.ref oa), .val (.ref ob), .val (.int (3 : Int32)), .val (.ref oc), .val (.ref b1), .val (.ref ob), .val (.int (4 : Int32)), .val (.int (3 : Int32)), .val (.int (Int32.ofNat nk3))]) rfl k) ?_
  show Goes p.tables e below (T7.setTop (mkF m 32 #[.val (.ref oa), .val (.ref ob), .val (.int (3 : Int32)), .val (.ref oc), .val (.ref b1), .val (.ref ob), .val (.int (4 : Int32)), .val (.int (3 : Int32)), .val (.int (Int32.ofNat nk3))] [])) _
  refine Goes.by (fun _ k => XS.aload X7.here hx rfl (hb hby d1_32) rfl rfl k) ?_
  show Goes p.tables e below (T7.setTop (mkF m 34 #[.val (.ref oa), .val (.ref ob), .val (.int (3 : Int32)), .val (.ref oc), .val (.ref b1), .val (.ref ob), .val (.int (4 : Int32)), .val (.int (3 : Int32)), .val (.int (Int32.ofNat nk3))] [(.ref b1)])) _
  refine Goes.by (fun _ k => XS.iload X7.here hx rfl (hb hby d1_34) rfl k) ?_
  show Goes p.tables e below (T7.setTop (mkF m 36 #[.val (.ref oa), .val (.ref ob), .val (.int (3 : Int32)), .val (.ref oc), .val (.ref b1), .val (.ref ob), .val (.int (4 : Int32)), .val (.int (3 : Int32)), .val (.int (Int32.ofNat nk3))] [(.int (Int32.ofNat nk3)), (.ref b1)])) _
  refine Goes.by (fun _ k => XS.iconst X7.here hx rfl (hb hby d1_36) k) ?_
  show Goes p.tables e below (T7.setTop (mkF m 37 #[.val (.ref oa), .val (.ref ob), .val (.int (3 : Int32)), .val (.ref oc), .val (.ref b1), .val (.ref ob), .val (.int (4 : Int32)), .val (.int (3 : Int32)), .val (.int (Int32.ofNat nk3))] [(.int (1 : Int32)), (.int (Int32.ofNat nk3)), (.ref b1)])) _
  refine Goes.by (fun _ k => XS.iadd X7.here hx rfl (hb hby d1_37) rfl k) ?_
  show Goes p.tables e below (T7.setTop (mkF m 38 #[.val (.ref oa), .val (.ref ob), .val (.int (3 : Int32)), .val (.ref oc), .val (.ref b1), .val (.ref ob), .val (.int (4 : Int32)), .val (.int (3 : Int32)), .val (.int (Int32.ofNat nk3))] [(.int ((Int32.ofNat nk3) + (1 : Int32))), (.ref b1)])) _
  have sd8 : ∀ u, Steps p.tables e below (T7.setTop (mkF m 39 #[.val (.ref oa), .val (.ref ob), .val (.int (3 : Int32)), .val (.ref oc), .val (.ref b1), .val (.ref ob), .val (.int (4 : Int32)), .val (.int (3 : Int32)), .val (.int (Int32.ofNat nk3))] [(.int ((Int32.ofNat nk3) + (1 : Int32))), (.ref b1), (.int ((Int32.ofNat nk3) + (1 : Int32))), (.ref b1)])) u → Steps p.tables e below (T7.setTop (mkF m 38 #[.val (.ref oa), .val (.ref ob), .val (.int (3 : Int32)), .val (.ref oc), .val (.ref b1), .val (.ref ob), .val (.int (4 : Int32)), .val (.int (3 : Int32)), .val (.int (Int32.ofNat nk3))] [(.int ((Int32.ofNat nk3) + (1 : Int32))), (.ref b1)])) u := by
    intro u k
    jvm_step X7.here [X7.here.top, hx, (hb hby d1_38), Value.category]
    exact k
  refine Goes.by (fun _ k => sd8 _ k) ?_
  show Goes p.tables e below (T7.setTop (mkF m 39 #[.val (.ref oa), .val (.ref ob), .val (.int (3 : Int32)), .val (.ref oc), .val (.ref b1), .val (.ref ob), .val (.int (4 : Int32)), .val (.int (3 : Int32)), .val (.int (Int32.ofNat nk3))] [(.int ((Int32.ofNat nk3) + (1 : Int32))), (.ref b1), (.int ((Int32.ofNat nk3) + (1 : Int32))), (.ref b1)])) _
  refine Goes.by (fun _ k => ldI (v := ((own_cnt3 nk0 nk1 nk2 nk3) (nk3 + 1))) (fr := (mkF m 39 #[.val (.ref oa), .val (.ref ob), .val (.int (3 : Int32)), .val (.ref oc), .val (.ref b1), .val (.ref ob), .val (.int (4 : Int32)), .val (.int (3 : Int32)), .val (.int (Int32.ofNat nk3))] [(.int ((Int32.ofNat nk3) + (1 : Int32))), (.ref b1), (.int ((Int32.ofNat nk3) + (1 : Int32))), (.ref b1)])) X7 hx hZ e7 A_b1 (i := (nk3 + 1)) (own_i1 nk3 (Nat.lt_trans hnk3 (by decide))) (Nat.succ_lt_succ hnk3) rfl rfl rfl (hb hby d1_39) k) ?_
  show Goes p.tables e below (T7.setTop (mkF m 40 #[.val (.ref oa), .val (.ref ob), .val (.int (3 : Int32)), .val (.ref oc), .val (.ref b1), .val (.ref ob), .val (.int (4 : Int32)), .val (.int (3 : Int32)), .val (.int (Int32.ofNat nk3))] [(.int ((own_cnt3 nk0 nk1 nk2 nk3) (nk3 + 1))), (.int ((Int32.ofNat nk3) + (1 : Int32))), (.ref b1)])) _
  refine Goes.by (fun _ k => XS.iconst X7.here hx rfl (hb hby d1_40) k) ?_
  show Goes p.tables e below (T7.setTop (mkF m 41 #[.val (.ref oa), .val (.ref ob), .val (.int (3 : Int32)), .val (.ref oc), .val (.ref b1), .val (.ref ob), .val (.int (4 : Int32)), .val (.int (3 : Int32)), .val (.int (Int32.ofNat nk3))] [(.int (1 : Int32)), (.int ((own_cnt3 nk0 nk1 nk2 nk3) (nk3 + 1))), (.int ((Int32.ofNat nk3) + (1 : Int32))), (.ref b1)])) _
  refine Goes.by (fun _ k => XS.iadd X7.here hx rfl (hb hby d1_41) rfl k) ?_
  show Goes p.tables e below (T7.setTop (mkF m 42 #[.val (.ref oa), .val (.ref ob), .val (.int (3 : Int32)), .val (.ref oc), .val (.ref b1), .val (.ref ob), .val (.int (4 : Int32)), .val (.int (3 : Int32)), .val (.int (Int32.ofNat nk3))] [(.int (((own_cnt3 nk0 nk1 nk2 nk3) (nk3 + 1)) + (1 : Int32))), (.int ((Int32.ofNat nk3) + (1 : Int32))), (.ref b1)])) _
  obtain ⟨T9, h9, X9, e9, W9, A9, st9⟩ := stAI (fr := (mkF m 42 #[.val (.ref oa), .val (.ref ob), .val (.int (3 : Int32)), .val (.ref oc), .val (.ref b1), .val (.ref ob), .val (.int (4 : Int32)), .val (.int (3 : Int32)), .val (.int (Int32.ofNat nk3))] [(.int (((own_cnt3 nk0 nk1 nk2 nk3) (nk3 + 1)) + (1 : Int32))), (.int ((Int32.ofNat nk3) + (1 : Int32))), (.ref b1)])) X7 hx hZ e7 A_b1 (i := (nk3 + 1)) (own_i1 nk3 (Nat.lt_trans hnk3 (by decide))) (Nat.succ_lt_succ hnk3) rfl rfl (hb hby d1_42)
  refine Goes.by st9 ?_
  have A_b1 : AI Z h9 b1 .int 4 (own_cnt4 nk0 nk1 nk2 nk3) := A9.congr (fun j hj => own_f3_4 ⟨nk0, hnk0⟩ ⟨nk1, hnk1⟩ ⟨nk2, hnk2⟩ ⟨nk3, hnk3⟩ ⟨j, hj⟩)
  have N9 := Fr.snoc X9 N7 g_b1
  have Zs9 : n0 ≤ h9.size := Nat.le_trans Zs7 (Keep.of_wr W9).1
  have K9 : Keep h0 h9 [oc] := K7.wr W9 (Or.inr sz_b1)
  have A_oa : AI Z h9 oa .int 4 pa := A_oa.other W9 ne_oa_b1
  have A_ob : AI Z h9 ob .int 4 (own_keys nk0 nk1 nk2 nk3) := A_ob.other W9 ne_ob_b1
  have A_oc : AI Z h9 oc .int 4 (fun _ => (0 : Int32)) := A_oc.other W9 ne_oc_b1
  show Goes p.tables e below (T9.setTop (mkF m 43 #[.val (.ref oa), .val (.ref ob), .val (.int (3 : Int32)), .val (.ref oc), .val (.ref b1), .val (.ref ob), .val (.int (4 : Int32)), .val (.int (3 : Int32)), .val (.int (Int32.ofNat nk3))] [])) _
  refine Goes.by (fun _ k => XS.iinc X9.here hx rfl (hb hby d1_43) rfl (l' := #[.val (.ref oa), .val (.ref ob), .val (.int (3 : Int32)), .val (.ref oc), .val (.ref b1), .val (.ref ob), .val (.int (4 : Int32)), .val (.int (4 : Int32)), .val (.int (Int32.ofNat nk3))]) rfl k) ?_
  show Goes p.tables e below (T9.setTop (mkF m 46 #[.val (.ref oa), .val (.ref ob), .val (.int (3 : Int32)), .val (.ref oc), .val (.ref b1), .val (.ref ob), .val (.int (4 : Int32)), .val (.int (4 : Int32)), .val (.int (Int32.ofNat nk3))] [])) _
  refine Goes.by (fun _ k => XS.goto X9.here hx rfl (pc0 := 46) (pc' := 18) rfl (hb hby d1_46) (by decide) (by decide) k) ?_
  show Goes p.tables e below (T9.setTop (mkF m 18 #[.val (.ref oa), .val (.ref ob), .val (.int (3 : Int32)), .val (.ref oc), .val (.ref b1), .val (.ref ob), .val (.int (4 : Int32)), .val (.int (4 : Int32)), .val (.int (Int32.ofNat nk3))] [])) _
  refine Goes.by (fun _ k => XS.iload X9.here hx rfl (hb hby d1_18) rfl k) ?_
  show Goes p.tables e below (T9.setTop (mkF m 20 #[.val (.ref oa), .val (.ref ob), .val (.int (3 : Int32)), .val (.ref oc), .val (.ref b1), .val (.ref ob), .val (.int (4 : Int32)), .val (.int (4 : Int32)), .val (.int (Int32.ofNat nk3))] [(.int (4 : Int32))])) _
  refine Goes.by (fun _ k => XS.iload X9.here hx rfl (hb hby d1_20) rfl k) ?_
  show Goes p.tables e below (T9.setTop (mkF m 22 #[.val (.ref oa), .val (.ref ob), .val (.int (3 : Int32)), .val (.ref oc), .val (.ref b1), .val (.ref ob), .val (.int (4 : Int32)), .val (.int (4 : Int32)), .val (.int (Int32.ofNat nk3))] [(.int (4 : Int32)), (.int (4 : Int32))])) _
  refine Goes.by (fun _ k => XS.icmpYes X9.here hx rfl (pc0 := 22) (pc' := 49) rfl (hb hby d1_22) rfl (flt (by decide : ¬ ((4 : Int32) < (4 : Int32)))).2.1 (by decide) (by decide) k) ?_
  show Goes p.tables e below (T9.setTop (mkF m 49 #[.val (.ref oa), .val (.ref ob), .val (.int (3 : Int32)), .val (.ref oc), .val (.ref b1), .val (.ref ob), .val (.int (4 : Int32)), .val (.int (4 : Int32)), .val (.int (Int32.ofNat nk3))] [])) _
  refine Goes.by (fun _ k => XS.iconst X9.here hx rfl (hb hby d1_49) k) ?_
  show Goes p.tables e below (T9.setTop (mkF m 50 #[.val (.ref oa), .val (.ref ob), .val (.int (3 : Int32)), .val (.ref oc), .val (.ref b1), .val (.ref ob), .val (.int (4 : Int32)), .val (.int (4 : Int32)), .val (.int (Int32.ofNat nk3))] [(.int (0 : Int32))])) _
  refine Goes.by (fun _ k => XS.istore X9.here hx rfl (hb hby d1_50) rfl (l' := #[.val (.ref oa), .val (.ref ob), .val (.int (3 : Int32)), .val (.ref oc), .val (.ref b1), .val (.int (0 : Int32)), .val (.int (4 : Int32)), .val (.int (4 : Int32)), .val (.int (Int32.ofNat nk3))]) rfl k) ?_
  show Goes p.tables e below (T9.setTop (mkF m 52 #[.val (.ref oa), .val (.ref ob), .val (.int (3 : Int32)), .val (.ref oc), .val (.ref b1), .val (.int (0 : Int32)), .val (.int (4 : Int32)), .val (.int (4 : Int32)), .val (.int (Int32.ofNat nk3))] [])) _
  refine Goes.by (fun _ k => XS.iload X9.here hx rfl (hb hby d1_52) rfl k) ?_
  show Goes p.tables e below (T9.setTop (mkF m 54 #[.val (.ref oa), .val (.ref ob), .val (.int (3 : Int32)), .val (.ref oc), .val (.ref b1), .val (.int (0 : Int32)), .val (.int (4 : Int32)), .val (.int (4 : Int32)), .val (.int (Int32.ofNat nk3))] [(.int (0 : Int32))])) _
  refine Goes.by (fun _ k => XS.iloadN X9.here hx rfl (hb hby d1_54) rfl k) ?_
  show Goes p.tables e below (T9.setTop (mkF m 55 #[.val (.ref oa), .val (.ref ob), .val (.int (3 : Int32)), .val (.ref oc), .val (.ref b1), .val (.int (0 : Int32)), .val (.int (4 : Int32)), .val (.int (4 : Int32)), .val (.int (Int32.ofNat nk3))] [(.int (3 : Int32)), (.int (0 : Int32))])) _
  refine Goes.by (fun _ k => XS.icmpNo X9.here hx rfl (hb hby d1_55) rfl (tlt (by decide : (0 : Int32) < (3 : Int32))).2.1 k) ?_
  show Goes p.tables e below (T9.setTop (mkF m 58 #[.val (.ref oa), .val (.ref ob), .val (.int (3 : Int32)), .val (.ref oc), .val (.ref b1), .val (.int (0 : Int32)), .val (.int (4 : Int32)), .val (.int (4 : Int32)), .val (.int (Int32.ofNat nk3))] [])) _
  refine Goes.by (fun _ k => XS.aload X9.here hx rfl (hb hby d1_58) rfl rfl k) ?_
  show Goes p.tables e below (T9.setTop (mkF m 60 #[.val (.ref oa), .val (.ref ob), .val (.int (3 : Int32)), .val (.ref oc), .val (.ref b1), .val (.int (0 : Int32)), .val (.int (4 : Int32)), .val (.int (4 : Int32)), .val (.int (Int32.ofNat nk3))] [(.ref b1)])) _
  refine Goes.by (fun _ k => XS.iload X9.here hx rfl (hb hby d1_60) rfl k) ?_
  show Goes p.tables e below (T9.setTop (mkF m 62 #[.val (.ref oa), .val (.ref ob), .val (.int (3 : Int32)), .val (.ref oc), .val (.ref b1), .val (.int (0 : Int32)), .val (.int (4 : Int32)), .val (.int (4 : Int32)), .val (.int (Int32.ofNat nk3))] [(.int (0 : Int32)), (.ref b1)])) _
  refine Goes.by (fun _ k => XS.iconst X9.here hx rfl (hb hby d1_62) k) ?_
  show Goes p.tables e below (T9.setTop (mkF m 63 #[.val (.ref oa), .val (.ref ob), .val (.int (3 : Int32)), .val (.ref oc), .val (.ref b1), .val (.int (0 : Int32)), .val (.int (4 : Int32)), .val (.int (4 : Int32)), .val (.int (Int32.ofNat nk3))] [(.int (1 : Int32)), (.int (0 : Int32)), (.ref b1)])) _
  refine Goes.by (fun _ k => XS.iadd X9.here hx rfl (hb hby d1_63) rfl k) ?_
  show Goes p.tables e below (T9.setTop (mkF m 64 #[.val (.ref oa), .val (.ref ob), .val (.int (3 : Int32)), .val (.ref oc), .val (.ref b1), .val (.int (0 : Int32)), .val (.int (4 : Int32)), .val (.int (4 : Int32)), .val (.int (Int32.ofNat nk3))] [(.int (1 : Int32)), (.ref b1)])) _
  have sd10 : ∀ u, Steps p.tables e below (T9.setTop (mkF m 65 #[.val (.ref oa), .val (.ref ob), .val (.int (3 : Int32)), .val (.ref oc), .val (.ref b1), .val (.int (0 : Int32)), .val (.int (4 : Int32)), .val (.int (4 : Int32)), .val (.int (Int32.ofNat nk3))] [(.int (1 : Int32)), (.ref b1), (.int (1 : Int32)), (.ref b1)])) u → Steps p.tables e below (T9.setTop (mkF m 64 #[.val (.ref oa), .val (.ref ob), .val (.int (3 : Int32)), .val (.ref oc), .val (.ref b1), .val (.int (0 : Int32)), .val (.int (4 : Int32)), .val (.int (4 : Int32)), .val (.int (Int32.ofNat nk3))] [(.int (1 : Int32)), (.ref b1)])) u := by
    intro u k
    jvm_step X9.here [X9.here.top, hx, (hb hby d1_64), Value.category]
    exact k
  refine Goes.by (fun _ k => sd10 _ k) ?_
  show Goes p.tables e below (T9.setTop (mkF m 65 #[.val (.ref oa), .val (.ref ob), .val (.int (3 : Int32)), .val (.ref oc), .val (.ref b1), .val (.int (0 : Int32)), .val (.int (4 : Int32)), .val (.int (4 : Int32)), .val (.int (Int32.ofNat nk3))] [(.int (1 : Int32)), (.ref b1), (.int (1 : Int32)), (.ref b1)])) _
  refine Goes.by (fun _ k => ldI (v := ((own_cnt4 nk0 nk1 nk2 nk3) 1)) (fr := (mkF m 65 #[.val (.ref oa), .val (.ref ob), .val (.int (3 : Int32)), .val (.ref oc), .val (.ref b1), .val (.int (0 : Int32)), .val (.int (4 : Int32)), .val (.int (4 : Int32)), .val (.int (Int32.ofNat nk3))] [(.int (1 : Int32)), (.ref b1), (.int (1 : Int32)), (.ref b1)])) X9 hx hZ e9 A_b1 (i := 1) (by decide) (by decide) rfl rfl rfl (hb hby d1_65) k) ?_
  show Goes p.tables e below (T9.setTop (mkF m 66 #[.val (.ref oa), .val (.ref ob), .val (.int (3 : Int32)), .val (.ref oc), .val (.ref b1), .val (.int (0 : Int32)), .val (.int (4 : Int32)), .val (.int (4 : Int32)), .val (.int (Int32.ofNat nk3))] [(.int ((own_cnt4 nk0 nk1 nk2 nk3) 1)), (.int (1 : Int32)), (.ref b1)])) _
  refine Goes.by (fun _ k => XS.aload X9.here hx rfl (hb hby d1_66) rfl rfl k) ?_
  show Goes p.tables e below (T9.setTop (mkF m 68 #[.val (.ref oa), .val (.ref ob), .val (.int (3 : Int32)), .val (.ref oc), .val (.ref b1), .val (.int (0 : Int32)), .val (.int (4 : Int32)), .val (.int (4 : Int32)), .val (.int (Int32.ofNat nk3))] [(.ref b1), (.int ((own_cnt4 nk0 nk1 nk2 nk3) 1)), (.int (1 : Int32)), (.ref b1)])) _
  refine Goes.by (fun _ k => XS.iload X9.here hx rfl (hb hby d1_68) rfl k) ?_
  show Goes p.tables e below (T9.setTop (mkF m 70 #[.val (.ref oa), .val (.ref ob), .val (.int (3 : Int32)), .val (.ref oc), .val (.ref b1), .val (.int (0 : Int32)), .val (.int (4 : Int32)), .val (.int (4 : Int32)), .val (.int (Int32.ofNat nk3))] [(.int (0 : Int32)), (.ref b1), (.int ((own_cnt4 nk0 nk1 nk2 nk3) 1)), (.int (1 : Int32)), (.ref b1)])) _
  refine Goes.by (fun _ k => ldI (v := ((own_cnt4 nk0 nk1 nk2 nk3) 0)) (fr := (mkF m 70 #[.val (.ref oa), .val (.ref ob), .val (.int (3 : Int32)), .val (.ref oc), .val (.ref b1), .val (.int (0 : Int32)), .val (.int (4 : Int32)), .val (.int (4 : Int32)), .val (.int (Int32.ofNat nk3))] [(.int (0 : Int32)), (.ref b1), (.int ((own_cnt4 nk0 nk1 nk2 nk3) 1)), (.int (1 : Int32)), (.ref b1)])) X9 hx hZ e9 A_b1 (i := 0) (by decide) (by decide) rfl rfl rfl (hb hby d1_70) k) ?_
  show Goes p.tables e below (T9.setTop (mkF m 71 #[.val (.ref oa), .val (.ref ob), .val (.int (3 : Int32)), .val (.ref oc), .val (.ref b1), .val (.int (0 : Int32)), .val (.int (4 : Int32)), .val (.int (4 : Int32)), .val (.int (Int32.ofNat nk3))] [(.int ((own_cnt4 nk0 nk1 nk2 nk3) 0)), (.int ((own_cnt4 nk0 nk1 nk2 nk3) 1)), (.int (1 : Int32)), (.ref b1)])) _
  refine Goes.by (fun _ k => XS.iadd X9.here hx rfl (hb hby d1_71) rfl k) ?_
  show Goes p.tables e below (T9.setTop (mkF m 72 #[.val (.ref oa), .val (.ref ob), .val (.int (3 : Int32)), .val (.ref oc), .val (.ref b1), .val (.int (0 : Int32)), .val (.int (4 : Int32)), .val (.int (4 : Int32)), .val (.int (Int32.ofNat nk3))] [(.int (((own_cnt4 nk0 nk1 nk2 nk3) 1) + ((own_cnt4 nk0 nk1 nk2 nk3) 0))), (.int (1 : Int32)), (.ref b1)])) _
  obtain ⟨T11, h11, X11, e11, W11, A11, st11⟩ := stAI (fr := (mkF m 72 #[.val (.ref oa), .val (.ref ob), .val (.int (3 : Int32)), .val (.ref oc), .val (.ref b1), .val (.int (0 : Int32)), .val (.int (4 : Int32)), .val (.int (4 : Int32)), .val (.int (Int32.ofNat nk3))] [(.int (((own_cnt4 nk0 nk1 nk2 nk3) 1) + ((own_cnt4 nk0 nk1 nk2 nk3) 0))), (.int (1 : Int32)), (.ref b1)])) X9 hx hZ e9 A_b1 (i := 1) (by decide) (by decide) rfl rfl (hb hby d1_72)
  refine Goes.by st11 ?_
  have A_b1 : AI Z h11 b1 .int 4 (own_pre 1 nk0 nk1 nk2 nk3) := A11.congr (fun j hj => own_f3_5 ⟨nk0, hnk0⟩ ⟨nk1, hnk1⟩ ⟨nk2, hnk2⟩ ⟨nk3, hnk3⟩ ⟨j, hj⟩)
  have N11 := Fr.snoc X11 N9 g_b1
  have Zs11 : n0 ≤ h11.size := Nat.le_trans Zs9 (Keep.of_wr W11).1
  have K11 : Keep h0 h11 [oc] := K9.wr W11 (Or.inr sz_b1)
  have A_oa : AI Z h11 oa .int 4 pa := A_oa.other W11 ne_oa_b1
  have A_ob : AI Z h11 ob .int 4 (own_keys nk0 nk1 nk2 nk3) := A_ob.other W11 ne_ob_b1
  have A_oc : AI Z h11 oc .int 4 (fun _ => (0 : Int32)) := A_oc.other W11 ne_oc_b1
  show Goes p.tables e below (T11.setTop (mkF m 73 #[.val (.ref oa), .val (.ref ob), .val (.int (3 : Int32)), .val (.ref oc), .val (.ref b1), .val (.int (0 : Int32)), .val (.int (4 : Int32)), .val (.int (4 : Int32)), .val (.int (Int32.ofNat nk3))] [])) _
  refine Goes.by (fun _ k => XS.iinc X11.here hx rfl (hb hby d1_73) rfl (l' := #[.val (.ref oa), .val (.ref ob), .val (.int (3 : Int32)), .val (.ref oc), .val (.ref b1), .val (.int (1 : Int32)), .val (.int (4 : Int32)), .val (.int (4 : Int32)), .val (.int (Int32.ofNat nk3))]) rfl k) ?_
  show Goes p.tables e below (T11.setTop (mkF m 76 #[.val (.ref oa), .val (.ref ob), .val (.int (3 : Int32)), .val (.ref oc), .val (.ref b1), .val (.int (1 : Int32)), .val (.int (4 : Int32)), .val (.int (4 : Int32)), .val (.int (Int32.ofNat nk3))] [])) _
  refine Goes.by (fun _ k => XS.goto X11.here hx rfl (pc0 := 76) (pc' := 52) rfl (hb hby d1_76) (by decide) (by decide) k) ?_
  show Goes p.tables e below (T11.setTop (mkF m 52 #[.val (.ref oa), .val (.ref ob), .val (.int (3 : Int32)), .val (.ref oc), .val (.ref b1), .val (.int (1 : Int32)), .val (.int (4 : Int32)), .val (.int (4 : Int32)), .val (.int (Int32.ofNat nk3))] [])) _
  refine Goes.by (fun _ k => XS.iload X11.here hx rfl (hb hby d1_52) rfl k) ?_
  show Goes p.tables e below (T11.setTop (mkF m 54 #[.val (.ref oa), .val (.ref ob), .val (.int (3 : Int32)), .val (.ref oc), .val (.ref b1), .val (.int (1 : Int32)), .val (.int (4 : Int32)), .val (.int (4 : Int32)), .val (.int (Int32.ofNat nk3))] [(.int (1 : Int32))])) _
  refine Goes.by (fun _ k => XS.iloadN X11.here hx rfl (hb hby d1_54) rfl k) ?_
  show Goes p.tables e below (T11.setTop (mkF m 55 #[.val (.ref oa), .val (.ref ob), .val (.int (3 : Int32)), .val (.ref oc), .val (.ref b1), .val (.int (1 : Int32)), .val (.int (4 : Int32)), .val (.int (4 : Int32)), .val (.int (Int32.ofNat nk3))] [(.int (3 : Int32)), (.int (1 : Int32))])) _
  refine Goes.by (fun _ k => XS.icmpNo X11.here hx rfl (hb hby d1_55) rfl (tlt (by decide : (1 : Int32) < (3 : Int32))).2.1 k) ?_
  show Goes p.tables e below (T11.setTop (mkF m 58 #[.val (.ref oa), .val (.ref ob), .val (.int (3 : Int32)), .val (.ref oc), .val (.ref b1), .val (.int (1 : Int32)), .val (.int (4 : Int32)), .val (.int (4 : Int32)), .val (.int (Int32.ofNat nk3))] [])) _
  refine Goes.by (fun _ k => XS.aload X11.here hx rfl (hb hby d1_58) rfl rfl k) ?_
  show Goes p.tables e below (T11.setTop (mkF m 60 #[.val (.ref oa), .val (.ref ob), .val (.int (3 : Int32)), .val (.ref oc), .val (.ref b1), .val (.int (1 : Int32)), .val (.int (4 : Int32)), .val (.int (4 : Int32)), .val (.int (Int32.ofNat nk3))] [(.ref b1)])) _
  refine Goes.by (fun _ k => XS.iload X11.here hx rfl (hb hby d1_60) rfl k) ?_
  show Goes p.tables e below (T11.setTop (mkF m 62 #[.val (.ref oa), .val (.ref ob), .val (.int (3 : Int32)), .val (.ref oc), .val (.ref b1), .val (.int (1 : Int32)), .val (.int (4 : Int32)), .val (.int (4 : Int32)), .val (.int (Int32.ofNat nk3))] [(.int (1 : Int32)), (.ref b1)])) _
  refine Goes.by (fun _ k => XS.iconst X11.here hx rfl (hb hby d1_62) k) ?_
  show Goes p.tables e below (T11.setTop (mkF m 63 #[.val (.ref oa), .val (.ref ob), .val (.int (3 : Int32)), .val (.ref oc), .val (.ref b1), .val (.int (1 : Int32)), .val (.int (4 : Int32)), .val (.int (4 : Int32)), .val (.int (Int32.ofNat nk3))] [(.int (1 : Int32)), (.int (1 : Int32)), (.ref b1)])) _
  refine Goes.by (fun _ k => XS.iadd X11.here hx rfl (hb hby d1_63) rfl k) ?_
  show Goes p.tables e below (T11.setTop (mkF m 64 #[.val (.ref oa), .val (.ref ob), .val (.int (3 : Int32)), .val (.ref oc), .val (.ref b1), .val (.int (1 : Int32)), .val (.int (4 : Int32)), .val (.int (4 : Int32)), .val (.int (Int32.ofNat nk3))] [(.int (2 : Int32)), (.ref b1)])) _
  have sd12 : ∀ u, Steps p.tables e below (T11.setTop (mkF m 65 #[.val (.ref oa), .val (.ref ob), .val (.int (3 : Int32)), .val (.ref oc), .val (.ref b1), .val (.int (1 : Int32)), .val (.int (4 : Int32)), .val (.int (4 : Int32)), .val (.int (Int32.ofNat nk3))] [(.int (2 : Int32)), (.ref b1), (.int (2 : Int32)), (.ref b1)])) u → Steps p.tables e below (T11.setTop (mkF m 64 #[.val (.ref oa), .val (.ref ob), .val (.int (3 : Int32)), .val (.ref oc), .val (.ref b1), .val (.int (1 : Int32)), .val (.int (4 : Int32)), .val (.int (4 : Int32)), .val (.int (Int32.ofNat nk3))] [(.int (2 : Int32)), (.ref b1)])) u := by
    intro u k
    jvm_step X11.here [X11.here.top, hx, (hb hby d1_64), Value.category]
    exact k
  refine Goes.by (fun _ k => sd12 _ k) ?_
  show Goes p.tables e below (T11.setTop (mkF m 65 #[.val (.ref oa), .val (.ref ob), .val (.int (3 : Int32)), .val (.ref oc), .val (.ref b1), .val (.int (1 : Int32)), .val (.int (4 : Int32)), .val (.int (4 : Int32)), .val (.int (Int32.ofNat nk3))] [(.int (2 : Int32)), (.ref b1), (.int (2 : Int32)), (.ref b1)])) _
  refine Goes.by (fun _ k => ldI (v := ((own_pre 1 nk0 nk1 nk2 nk3) 2)) (fr := (mkF m 65 #[.val (.ref oa), .val (.ref ob), .val (.int (3 : Int32)), .val (.ref oc), .val (.ref b1), .val (.int (1 : Int32)), .val (.int (4 : Int32)), .val (.int (4 : Int32)), .val (.int (Int32.ofNat nk3))] [(.int (2 : Int32)), (.ref b1), (.int (2 : Int32)), (.ref b1)])) X11 hx hZ e11 A_b1 (i := 2) (by decide) (by decide) rfl rfl rfl (hb hby d1_65) k) ?_
  show Goes p.tables e below (T11.setTop (mkF m 66 #[.val (.ref oa), .val (.ref ob), .val (.int (3 : Int32)), .val (.ref oc), .val (.ref b1), .val (.int (1 : Int32)), .val (.int (4 : Int32)), .val (.int (4 : Int32)), .val (.int (Int32.ofNat nk3))] [(.int ((own_pre 1 nk0 nk1 nk2 nk3) 2)), (.int (2 : Int32)), (.ref b1)])) _
  refine Goes.by (fun _ k => XS.aload X11.here hx rfl (hb hby d1_66) rfl rfl k) ?_
  show Goes p.tables e below (T11.setTop (mkF m 68 #[.val (.ref oa), .val (.ref ob), .val (.int (3 : Int32)), .val (.ref oc), .val (.ref b1), .val (.int (1 : Int32)), .val (.int (4 : Int32)), .val (.int (4 : Int32)), .val (.int (Int32.ofNat nk3))] [(.ref b1), (.int ((own_pre 1 nk0 nk1 nk2 nk3) 2)), (.int (2 : Int32)), (.ref b1)])) _
  refine Goes.by (fun _ k => XS.iload X11.here hx rfl (hb hby d1_68) rfl k) ?_
  show Goes p.tables e below (T11.setTop (mkF m 70 #[.val (.ref oa), .val (.ref ob), .val (.int (3 : Int32)), .val (.ref oc), .val (.ref b1), .val (.int (1 : Int32)), .val (.int (4 : Int32)), .val (.int (4 : Int32)), .val (.int (Int32.ofNat nk3))] [(.int (1 : Int32)), (.ref b1), (.int ((own_pre 1 nk0 nk1 nk2 nk3) 2)), (.int (2 : Int32)), (.ref b1)])) _
  refine Goes.by (fun _ k => ldI (v := ((own_pre 1 nk0 nk1 nk2 nk3) 1)) (fr := (mkF m 70 #[.val (.ref oa), .val (.ref ob), .val (.int (3 : Int32)), .val (.ref oc), .val (.ref b1), .val (.int (1 : Int32)), .val (.int (4 : Int32)), .val (.int (4 : Int32)), .val (.int (Int32.ofNat nk3))] [(.int (1 : Int32)), (.ref b1), (.int ((own_pre 1 nk0 nk1 nk2 nk3) 2)), (.int (2 : Int32)), (.ref b1)])) X11 hx hZ e11 A_b1 (i := 1) (by decide) (by decide) rfl rfl rfl (hb hby d1_70) k) ?_
  show Goes p.tables e below (T11.setTop (mkF m 71 #[.val (.ref oa), .val (.ref ob), .val (.int (3 : Int32)), .val (.ref oc), .val (.ref b1), .val (.int (1 : Int32)), .val (.int (4 : Int32)), .val (.int (4 : Int32)), .val (.int (Int32.ofNat nk3))] [(.int ((own_pre 1 nk0 nk1 nk2 nk3) 1)), (.int ((own_pre 1 nk0 nk1 nk2 nk3) 2)), (.int (2 : Int32)), (.ref b1)])) _
  refine Goes.by (fun _ k => XS.iadd X11.here hx rfl (hb hby d1_71) rfl k) ?_
  show Goes p.tables e below (T11.setTop (mkF m 72 #[.val (.ref oa), .val (.ref ob), .val (.int (3 : Int32)), .val (.ref oc), .val (.ref b1), .val (.int (1 : Int32)), .val (.int (4 : Int32)), .val (.int (4 : Int32)), .val (.int (Int32.ofNat nk3))] [(.int (((own_pre 1 nk0 nk1 nk2 nk3) 2) + ((own_pre 1 nk0 nk1 nk2 nk3) 1))), (.int (2 : Int32)), (.ref b1)])) _
  obtain ⟨T13, h13, X13, e13, W13, A13, st13⟩ := stAI (fr := (mkF m 72 #[.val (.ref oa), .val (.ref ob), .val (.int (3 : Int32)), .val (.ref oc), .val (.ref b1), .val (.int (1 : Int32)), .val (.int (4 : Int32)), .val (.int (4 : Int32)), .val (.int (Int32.ofNat nk3))] [(.int (((own_pre 1 nk0 nk1 nk2 nk3) 2) + ((own_pre 1 nk0 nk1 nk2 nk3) 1))), (.int (2 : Int32)), (.ref b1)])) X11 hx hZ e11 A_b1 (i := 2) (by decide) (by decide) rfl rfl (hb hby d1_72)
  refine Goes.by st13 ?_
  have A_b1 : AI Z h13 b1 .int 4 (own_pre 2 nk0 nk1 nk2 nk3) := A13.congr (fun j hj => own_f3_6 ⟨nk0, hnk0⟩ ⟨nk1, hnk1⟩ ⟨nk2, hnk2⟩ ⟨nk3, hnk3⟩ ⟨j, hj⟩)
  have N13 := Fr.snoc X13 N11 g_b1
  have Zs13 : n0 ≤ h13.size := Nat.le_trans Zs11 (Keep.of_wr W13).1
  have K13 : Keep h0 h13 [oc] := K11.wr W13 (Or.inr sz_b1)
  have A_oa : AI Z h13 oa .int 4 pa := A_oa.other W13 ne_oa_b1
  have A_ob : AI Z h13 ob .int 4 (own_keys nk0 nk1 nk2 nk3) := A_ob.other W13 ne_ob_b1
  have A_oc : AI Z h13 oc .int 4 (fun _ => (0 : Int32)) := A_oc.other W13 ne_oc_b1
  show Goes p.tables e below (T13.setTop (mkF m 73 #[.val (.ref oa), .val (.ref ob), .val (.int (3 : Int32)), .val (.ref oc), .val (.ref b1), .val (.int (1 : Int32)), .val (.int (4 : Int32)), .val (.int (4 : Int32)), .val (.int (Int32.ofNat nk3))] [])) _
  refine Goes.by (fun _ k => XS.iinc X13.here hx rfl (hb hby d1_73) rfl (l' := #[.val (.ref oa), .val (.ref ob), .val (.int (3 : Int32)), .val (.ref oc), .val (.ref b1), .val (.int (2 : Int32)), .val (.int (4 : Int32)), .val (.int (4 : Int32)), .val (.int (Int32.ofNat nk3))]) rfl k) ?_
  show Goes p.tables e below (T13.setTop (mkF m 76 #[.val (.ref oa), .val (.ref ob), .val (.int (3 : Int32)), .val (.ref oc), .val (.ref b1), .val (.int (2 : Int32)), .val (.int (4 : Int32)), .val (.int (4 : Int32)), .val (.int (Int32.ofNat nk3))] [])) _
  refine Goes.by (fun _ k => XS.goto X13.here hx rfl (pc0 := 76) (pc' := 52) rfl (hb hby d1_76) (by decide) (by decide) k) ?_
  show Goes p.tables e below (T13.setTop (mkF m 52 #[.val (.ref oa), .val (.ref ob), .val (.int (3 : Int32)), .val (.ref oc), .val (.ref b1), .val (.int (2 : Int32)), .val (.int (4 : Int32)), .val (.int (4 : Int32)), .val (.int (Int32.ofNat nk3))] [])) _
  refine Goes.by (fun _ k => XS.iload X13.here hx rfl (hb hby d1_52) rfl k) ?_
  show Goes p.tables e below (T13.setTop (mkF m 54 #[.val (.ref oa), .val (.ref ob), .val (.int (3 : Int32)), .val (.ref oc), .val (.ref b1), .val (.int (2 : Int32)), .val (.int (4 : Int32)), .val (.int (4 : Int32)), .val (.int (Int32.ofNat nk3))] [(.int (2 : Int32))])) _
  refine Goes.by (fun _ k => XS.iloadN X13.here hx rfl (hb hby d1_54) rfl k) ?_
  show Goes p.tables e below (T13.setTop (mkF m 55 #[.val (.ref oa), .val (.ref ob), .val (.int (3 : Int32)), .val (.ref oc), .val (.ref b1), .val (.int (2 : Int32)), .val (.int (4 : Int32)), .val (.int (4 : Int32)), .val (.int (Int32.ofNat nk3))] [(.int (3 : Int32)), (.int (2 : Int32))])) _
  refine Goes.by (fun _ k => XS.icmpNo X13.here hx rfl (hb hby d1_55) rfl (tlt (by decide : (2 : Int32) < (3 : Int32))).2.1 k) ?_
  show Goes p.tables e below (T13.setTop (mkF m 58 #[.val (.ref oa), .val (.ref ob), .val (.int (3 : Int32)), .val (.ref oc), .val (.ref b1), .val (.int (2 : Int32)), .val (.int (4 : Int32)), .val (.int (4 : Int32)), .val (.int (Int32.ofNat nk3))] [])) _
  refine Goes.by (fun _ k => XS.aload X13.here hx rfl (hb hby d1_58) rfl rfl k) ?_
  show Goes p.tables e below (T13.setTop (mkF m 60 #[.val (.ref oa), .val (.ref ob), .val (.int (3 : Int32)), .val (.ref oc), .val (.ref b1), .val (.int (2 : Int32)), .val (.int (4 : Int32)), .val (.int (4 : Int32)), .val (.int (Int32.ofNat nk3))] [(.ref b1)])) _
  refine Goes.by (fun _ k => XS.iload X13.here hx rfl (hb hby d1_60) rfl k) ?_
  show Goes p.tables e below (T13.setTop (mkF m 62 #[.val (.ref oa), .val (.ref ob), .val (.int (3 : Int32)), .val (.ref oc), .val (.ref b1), .val (.int (2 : Int32)), .val (.int (4 : Int32)), .val (.int (4 : Int32)), .val (.int (Int32.ofNat nk3))] [(.int (2 : Int32)), (.ref b1)])) _
  refine Goes.by (fun _ k => XS.iconst X13.here hx rfl (hb hby d1_62) k) ?_
  show Goes p.tables e below (T13.setTop (mkF m 63 #[.val (.ref oa), .val (.ref ob), .val (.int (3 : Int32)), .val (.ref oc), .val (.ref b1), .val (.int (2 : Int32)), .val (.int (4 : Int32)), .val (.int (4 : Int32)), .val (.int (Int32.ofNat nk3))] [(.int (1 : Int32)), (.int (2 : Int32)), (.ref b1)])) _
  refine Goes.by (fun _ k => XS.iadd X13.here hx rfl (hb hby d1_63) rfl k) ?_
  show Goes p.tables e below (T13.setTop (mkF m 64 #[.val (.ref oa), .val (.ref ob), .val (.int (3 : Int32)), .val (.ref oc), .val (.ref b1), .val (.int (2 : Int32)), .val (.int (4 : Int32)), .val (.int (4 : Int32)), .val (.int (Int32.ofNat nk3))] [(.int (3 : Int32)), (.ref b1)])) _
  have sd14 : ∀ u, Steps p.tables e below (T13.setTop (mkF m 65 #[.val (.ref oa), .val (.ref ob), .val (.int (3 : Int32)), .val (.ref oc), .val (.ref b1), .val (.int (2 : Int32)), .val (.int (4 : Int32)), .val (.int (4 : Int32)), .val (.int (Int32.ofNat nk3))] [(.int (3 : Int32)), (.ref b1), (.int (3 : Int32)), (.ref b1)])) u → Steps p.tables e below (T13.setTop (mkF m 64 #[.val (.ref oa), .val (.ref ob), .val (.int (3 : Int32)), .val (.ref oc), .val (.ref b1), .val (.int (2 : Int32)), .val (.int (4 : Int32)), .val (.int (4 : Int32)), .val (.int (Int32.ofNat nk3))] [(.int (3 : Int32)), (.ref b1)])) u := by
    intro u k
    jvm_step X13.here [X13.here.top, hx, (hb hby d1_64), Value.category]
    exact k
  refine Goes.by (fun _ k => sd14 _ k) ?_
  show Goes p.tables e below (T13.setTop (mkF m 65 #[.val (.ref oa), .val (.ref ob), .val (.int (3 : Int32)), .val (.ref oc), .val (.ref b1), .val (.int (2 : Int32)), .val (.int (4 : Int32)), .val (.int (4 : Int32)), .val (.int (Int32.ofNat nk3))] [(.int (3 : Int32)), (.ref b1), (.int (3 : Int32)), (.ref b1)])) _
  refine Goes.by (fun _ k => ldI (v := ((own_pre 2 nk0 nk1 nk2 nk3) 3)) (fr := (mkF m 65 #[.val (.ref oa), .val (.ref ob), .val (.int (3 : Int32)), .val (.ref oc), .val (.ref b1), .val (.int (2 : Int32)), .val (.int (4 : Int32)), .val (.int (4 : Int32)), .val (.int (Int32.ofNat nk3))] [(.int (3 : Int32)), (.ref b1), (.int (3 : Int32)), (.ref b1)])) X13 hx hZ e13 A_b1 (i := 3) (by decide) (by decide) rfl rfl rfl (hb hby d1_65) k) ?_
  show Goes p.tables e below (T13.setTop (mkF m 66 #[.val (.ref oa), .val (.ref ob), .val (.int (3 : Int32)), .val (.ref oc), .val (.ref b1), .val (.int (2 : Int32)), .val (.int (4 : Int32)), .val (.int (4 : Int32)), .val (.int (Int32.ofNat nk3))] [(.int ((own_pre 2 nk0 nk1 nk2 nk3) 3)), (.int (3 : Int32)), (.ref b1)])) _
  refine Goes.by (fun _ k => XS.aload X13.here hx rfl (hb hby d1_66) rfl rfl k) ?_
  show Goes p.tables e below (T13.setTop (mkF m 68 #[.val (.ref oa), .val (.ref ob), .val (.int (3 : Int32)), .val (.ref oc), .val (.ref b1), .val (.int (2 : Int32)), .val (.int (4 : Int32)), .val (.int (4 : Int32)), .val (.int (Int32.ofNat nk3))] [(.ref b1), (.int ((own_pre 2 nk0 nk1 nk2 nk3) 3)), (.int (3 : Int32)), (.ref b1)])) _
  refine Goes.by (fun _ k => XS.iload X13.here hx rfl (hb hby d1_68) rfl k) ?_
  show Goes p.tables e below (T13.setTop (mkF m 70 #[.val (.ref oa), .val (.ref ob), .val (.int (3 : Int32)), .val (.ref oc), .val (.ref b1), .val (.int (2 : Int32)), .val (.int (4 : Int32)), .val (.int (4 : Int32)), .val (.int (Int32.ofNat nk3))] [(.int (2 : Int32)), (.ref b1), (.int ((own_pre 2 nk0 nk1 nk2 nk3) 3)), (.int (3 : Int32)), (.ref b1)])) _
  refine Goes.by (fun _ k => ldI (v := ((own_pre 2 nk0 nk1 nk2 nk3) 2)) (fr := (mkF m 70 #[.val (.ref oa), .val (.ref ob), .val (.int (3 : Int32)), .val (.ref oc), .val (.ref b1), .val (.int (2 : Int32)), .val (.int (4 : Int32)), .val (.int (4 : Int32)), .val (.int (Int32.ofNat nk3))] [(.int (2 : Int32)), (.ref b1), (.int ((own_pre 2 nk0 nk1 nk2 nk3) 3)), (.int (3 : Int32)), (.ref b1)])) X13 hx hZ e13 A_b1 (i := 2) (by decide) (by decide) rfl rfl rfl (hb hby d1_70) k) ?_
  show Goes p.tables e below (T13.setTop (mkF m 71 #[.val (.ref oa), .val (.ref ob), .val (.int (3 : Int32)), .val (.ref oc), .val (.ref b1), .val (.int (2 : Int32)), .val (.int (4 : Int32)), .val (.int (4 : Int32)), .val (.int (Int32.ofNat nk3))] [(.int ((own_pre 2 nk0 nk1 nk2 nk3) 2)), (.int ((own_pre 2 nk0 nk1 nk2 nk3) 3)), (.int (3 : Int32)), (.ref b1)])) _
  refine Goes.by (fun _ k => XS.iadd X13.here hx rfl (hb hby d1_71) rfl k) ?_
  show Goes p.tables e below (T13.setTop (mkF m 72 #[.val (.ref oa), .val (.ref ob), .val (.int (3 : Int32)), .val (.ref oc), .val (.ref b1), .val (.int (2 : Int32)), .val (.int (4 : Int32)), .val (.int (4 : Int32)), .val (.int (Int32.ofNat nk3))] [(.int (((own_pre 2 nk0 nk1 nk2 nk3) 3) + ((own_pre 2 nk0 nk1 nk2 nk3) 2))), (.int (3 : Int32)), (.ref b1)])) _
  obtain ⟨T15, h15, X15, e15, W15, A15, st15⟩ := stAI (fr := (mkF m 72 #[.val (.ref oa), .val (.ref ob), .val (.int (3 : Int32)), .val (.ref oc), .val (.ref b1), .val (.int (2 : Int32)), .val (.int (4 : Int32)), .val (.int (4 : Int32)), .val (.int (Int32.ofNat nk3))] [(.int (((own_pre 2 nk0 nk1 nk2 nk3) 3) + ((own_pre 2 nk0 nk1 nk2 nk3) 2))), (.int (3 : Int32)), (.ref b1)])) X13 hx hZ e13 A_b1 (i := 3) (by decide) (by decide) rfl rfl (hb hby d1_72)
  refine Goes.by st15 ?_
  have A_b1 : AI Z h15 b1 .int 4 (own_pre 3 nk0 nk1 nk2 nk3) := A15.congr (fun j hj => own_f3_7 ⟨nk0, hnk0⟩ ⟨nk1, hnk1⟩ ⟨nk2, hnk2⟩ ⟨nk3, hnk3⟩ ⟨j, hj⟩)
  have N15 := Fr.snoc X15 N13 g_b1
  have Zs15 : n0 ≤ h15.size := Nat.le_trans Zs13 (Keep.of_wr W15).1
  have K15 : Keep h0 h15 [oc] := K13.wr W15 (Or.inr sz_b1)
  have A_oa : AI Z h15 oa .int 4 pa := A_oa.other W15 ne_oa_b1
  have A_ob : AI Z h15 ob .int 4 (own_keys nk0 nk1 nk2 nk3) := A_ob.other W15 ne_ob_b1
  have A_oc : AI Z h15 oc .int 4 (fun _ => (0 : Int32)) := A_oc.other W15 ne_oc_b1
  show Goes p.tables e below (T15.setTop (mkF m 73 #[.val (.ref oa), .val (.ref ob), .val (.int (3 : Int32)), .val (.ref oc), .val (.ref b1), .val (.int (2 : Int32)), .val (.int (4 : Int32)), .val (.int (4 : Int32)), .val (.int (Int32.ofNat nk3))] [])) _
  refine Goes.by (fun _ k => XS.iinc X15.here hx rfl (hb hby d1_73) rfl (l' := #[.val (.ref oa), .val (.ref ob), .val (.int (3 : Int32)), .val (.ref oc), .val (.ref b1), .val (.int (3 : Int32)), .val (.int (4 : Int32)), .val (.int (4 : Int32)), .val (.int (Int32.ofNat nk3))]) rfl k) ?_
  show Goes p.tables e below (T15.setTop (mkF m 76 #[.val (.ref oa), .val (.ref ob), .val (.int (3 : Int32)), .val (.ref oc), .val (.ref b1), .val (.int (3 : Int32)), .val (.int (4 : Int32)), .val (.int (4 : Int32)), .val (.int (Int32.ofNat nk3))] [])) _
  refine Goes.by (fun _ k => XS.goto X15.here hx rfl (pc0 := 76) (pc' := 52) rfl (hb hby d1_76) (by decide) (by decide) k) ?_
  show Goes p.tables e below (T15.setTop (mkF m 52 #[.val (.ref oa), .val (.ref ob), .val (.int (3 : Int32)), .val (.ref oc), .val (.ref b1), .val (.int (3 : Int32)), .val (.int (4 : Int32)), .val (.int (4 : Int32)), .val (.int (Int32.ofNat nk3))] [])) _
  refine Goes.by (fun _ k => XS.iload X15.here hx rfl (hb hby d1_52) rfl k) ?_
  show Goes p.tables e below (T15.setTop (mkF m 54 #[.val (.ref oa), .val (.ref ob), .val (.int (3 : Int32)), .val (.ref oc), .val (.ref b1), .val (.int (3 : Int32)), .val (.int (4 : Int32)), .val (.int (4 : Int32)), .val (.int (Int32.ofNat nk3))] [(.int (3 : Int32))])) _
  refine Goes.by (fun _ k => XS.iloadN X15.here hx rfl (hb hby d1_54) rfl k) ?_
  show Goes p.tables e below (T15.setTop (mkF m 55 #[.val (.ref oa), .val (.ref ob), .val (.int (3 : Int32)), .val (.ref oc), .val (.ref b1), .val (.int (3 : Int32)), .val (.int (4 : Int32)), .val (.int (4 : Int32)), .val (.int (Int32.ofNat nk3))] [(.int (3 : Int32)), (.int (3 : Int32))])) _
  refine Goes.by (fun _ k => XS.icmpYes X15.here hx rfl (pc0 := 55) (pc' := 79) rfl (hb hby d1_55) rfl (flt (by decide : ¬ ((3 : Int32) < (3 : Int32)))).2.1 (by decide) (by decide) k) ?_
  show Goes p.tables e below (T15.setTop (mkF m 79 #[.val (.ref oa), .val (.ref ob), .val (.int (3 : Int32)), .val (.ref oc), .val (.ref b1), .val (.int (3 : Int32)), .val (.int (4 : Int32)), .val (.int (4 : Int32)), .val (.int (Int32.ofNat nk3))] [])) _
  refine Goes.by (fun _ k => XS.iloadN X15.here hx rfl (hb hby d1_79) rfl k) ?_
  show Goes p.tables e below (T15.setTop (mkF m 80 #[.val (.ref oa), .val (.ref ob), .val (.int (3 : Int32)), .val (.ref oc), .val (.ref b1), .val (.int (3 : Int32)), .val (.int (4 : Int32)), .val (.int (4 : Int32)), .val (.int (Int32.ofNat nk3))] [(.int (3 : Int32))])) _
  obtain ⟨T16, h16, X16, e16, E16, A16, st16⟩ := nwA (n := 3) (cap := 3) (fr := (mkF m 80 #[.val (.ref oa), .val (.ref ob), .val (.int (3 : Int32)), .val (.ref oc), .val (.ref b1), .val (.int (3 : Int32)), .val (.int (4 : Int32)), .val (.int (4 : Int32)), .val (.int (Int32.ofNat nk3))] [(.int (3 : Int32))])) X15 hx hZ (hw _ (List.mem_of_getElem? (i := 0) rfl)) e15 (by decide) (by decide) (by decide) (by decide) (by decide) rfl rfl (hb hby d1_80)
  obtain ⟨b16, g16⟩ : ∃ z, z = h15.size := ⟨_, rfl⟩
  rw [← g16] at A16 st16
  have g_b16 : n0 ≤ b16 := Nat.le_trans Zs15 (Nat.le_of_eq g16.symm)
  have sz_b16 : h0.size ≤ b16 := Nat.le_trans K15.1 (Nat.le_of_eq g16.symm)
  have ne_oa_b16 : oa ≠ b16 := Nat.ne_of_lt (Nat.lt_of_lt_of_le A_oa.lt (Nat.le_of_eq g16.symm))
  have ne_ob_b16 : ob ≠ b16 := Nat.ne_of_lt (Nat.lt_of_lt_of_le A_ob.lt (Nat.le_of_eq g16.symm))
  have ne_oc_b16 : oc ≠ b16 := Nat.ne_of_lt (Nat.lt_of_lt_of_le A_oc.lt (Nat.le_of_eq g16.symm))
  have ne_b1_b16 : b1 ≠ b16 := Nat.ne_of_lt (Nat.lt_of_lt_of_le A_b1.lt (Nat.le_of_eq g16.symm))
  have Zs16 : n0 ≤ h16.size := Nat.le_trans Zs15 E16.1
  have K16 : Keep h0 h16 [oc] := K15.ext E16
  refine Goes.by st16 ?_
  have A_oa : AI Z h16 oa .int 4 pa := A_oa.ext E16
  have A_ob : AI Z h16 ob .int 4 (own_keys nk0 nk1 nk2 nk3) := A_ob.ext E16
  have A_oc : AI Z h16 oc .int 4 (fun _ => (0 : Int32)) := A_oc.ext E16
  have A_b1 : AI Z h16 b1 .int 4 (own_pre 3 nk0 nk1 nk2 nk3) := A_b1.ext E16
  have A_b16 : AI Z h16 b16 .int 3 (fun _ => (0 : Int32)) := A16
  show Goes p.tables e below (T16.setTop (mkF m 82 #[.val (.ref oa), .val (.ref ob), .val (.int (3 : Int32)), .val (.ref oc), .val (.ref b1), .val (.int (3 : Int32)), .val (.int (4 : Int32)), .val (.int (4 : Int32)), .val (.int (Int32.ofNat nk3))] [(.ref b16)])) _
  refine Goes.by (fun _ k => XS.astore X16.here hx rfl (hb hby d1_82) rfl rfl (l' := #[.val (.ref oa), .val (.ref ob), .val (.int (3 : Int32)), .val (.ref oc), .val (.ref b1), .val (.ref b16), .val (.int (4 : Int32)), .val (.int (4 : Int32)), .val (.int (Int32.ofNat nk3))]) rfl k) ?_
  show Goes p.tables e below (T16.setTop (mkF m 84 #[.val (.ref oa), .val (.ref ob), .val (.int (3 : Int32)), .val (.ref oc), .val (.ref b1), .val (.ref b16), .val (.int (4 : Int32)), .val (.int (4 : Int32)), .val (.int (Int32.ofNat nk3))] [])) _
  refine Goes.by (fun _ k => XS.iconst X16.here hx rfl (hb hby d1_84) k) ?_
  show Goes p.tables e below (T16.setTop (mkF m 85 #[.val (.ref oa), .val (.ref ob), .val (.int (3 : Int32)), .val (.ref oc), .val (.ref b1), .val (.ref b16), .val (.int (4 : Int32)), .val (.int (4 : Int32)), .val (.int (Int32.ofNat nk3))] [(.int (0 : Int32))])) _
  refine Goes.by (fun _ k => XS.istore X16.here hx rfl (hb hby d1_85) rfl (l' := #[.val (.ref oa), .val (.ref ob), .val (.int (3 : Int32)), .val (.ref oc), .val (.ref b1), .val (.ref b16), .val (.int (0 : Int32)), .val (.int (4 : Int32)), .val (.int (Int32.ofNat nk3))]) rfl k) ?_
  show Goes p.tables e below (T16.setTop (mkF m 87 #[.val (.ref oa), .val (.ref ob), .val (.int (3 : Int32)), .val (.ref oc), .val (.ref b1), .val (.ref b16), .val (.int (0 : Int32)), .val (.int (4 : Int32)), .val (.int (Int32.ofNat nk3))] [])) _
  refine Goes.by (fun _ k => XS.iload X16.here hx rfl (hb hby d1_87) rfl k) ?_
  show Goes p.tables e below (T16.setTop (mkF m 89 #[.val (.ref oa), .val (.ref ob), .val (.int (3 : Int32)), .val (.ref oc), .val (.ref b1), .val (.ref b16), .val (.int (0 : Int32)), .val (.int (4 : Int32)), .val (.int (Int32.ofNat nk3))] [(.int (0 : Int32))])) _
  refine Goes.by (fun _ k => XS.aloadN X16.here hx rfl (hb hby d1_89) rfl rfl k) ?_
  show Goes p.tables e below (T16.setTop (mkF m 90 #[.val (.ref oa), .val (.ref ob), .val (.int (3 : Int32)), .val (.ref oc), .val (.ref b1), .val (.ref b16), .val (.int (0 : Int32)), .val (.int (4 : Int32)), .val (.int (Int32.ofNat nk3))] [(.ref oa), (.int (0 : Int32))])) _
  refine Goes.by (fun _ k => alen (z := (4 : Int32)) (fr := (mkF m 90 #[.val (.ref oa), .val (.ref ob), .val (.int (3 : Int32)), .val (.ref oc), .val (.ref b1), .val (.ref b16), .val (.int (0 : Int32)), .val (.int (4 : Int32)), .val (.int (Int32.ofNat nk3))] [(.ref oa), (.int (0 : Int32))])) X16 hx hZ e16 A_oa (by decide) rfl rfl (hb hby d1_90) k) ?_
  show Goes p.tables e below (T16.setTop (mkF m 91 #[.val (.ref oa), .val (.ref ob), .val (.int (3 : Int32)), .val (.ref oc), .val (.ref b1), .val (.ref b16), .val (.int (0 : Int32)), .val (.int (4 : Int32)), .val (.int (Int32.ofNat nk3))] [(.int (4 : Int32)), (.int (0 : Int32))])) _
  refine Goes.by (fun _ k => XS.icmpNo X16.here hx rfl (hb hby d1_91) rfl (tlt (by decide : (0 : Int32) < (4 : Int32))).2.1 k) ?_
  show Goes p.tables e below (T16.setTop (mkF m 94 #[.val (.ref oa), .val (.ref ob), .val (.int (3 : Int32)), .val (.ref oc), .val (.ref b1), .val (.ref b16), .val (.int (0 : Int32)), .val (.int (4 : Int32)), .val (.int (Int32.ofNat nk3))] [])) _
  refine Goes.by (fun _ k => XS.aloadN X16.here hx rfl (hb hby d1_94) rfl rfl k) ?_
  show Goes p.tables e below (T16.setTop (mkF m 95 #[.val (.ref oa), .val (.ref ob), .val (.int (3 : Int32)), .val (.ref oc), .val (.ref b1), .val (.ref b16), .val (.int (0 : Int32)), .val (.int (4 : Int32)), .val (.int (Int32.ofNat nk3))] [(.ref oc)])) _
  refine Goes.by (fun _ k => XS.aload X16.here hx rfl (hb hby d1_95) rfl rfl k) ?_
  show Goes p.tables e below (T16.setTop (mkF m 97 #[.val (.ref oa), .val (.ref ob), .val (.int (3 : Int32)), .val (.ref oc), .val (.ref b1), .val (.ref b16), .val (.int (0 : Int32)), .val (.int (4 : Int32)), .val (.int (Int32.ofNat nk3))] [(.ref b1), (.ref oc)])) _
  refine Goes.by (fun _ k => XS.aloadN X16.here hx rfl (hb hby d1_97) rfl rfl k) ?_
  show Goes p.tables e below (T16.setTop (mkF m 98 #[.val (.ref oa), .val (.ref ob), .val (.int (3 : Int32)), .val (.ref oc), .val (.ref b1), .val (.ref b16), .val (.int (0 : Int32)), .val (.int (4 : Int32)), .val (.int (Int32.ofNat nk3))] [(.ref ob), (.ref b1), (.ref oc)])) _
  refine Goes.by (fun _ k => XS.iload X16.here hx rfl (hb hby d1_98) rfl k) ?_
  show Goes p.tables e below (T16.setTop (mkF m 100 #[.val (.ref oa), .val (.ref ob), .val (.int (3 : Int32)), .val (.ref oc), .val (.ref b1), .val (.ref b16), .val (.int (0 : Int32)), .val (.int (4 : Int32)), .val (.int (Int32.ofNat nk3))] [(.int (0 : Int32)), (.ref ob), (.ref b1), (.ref oc)])) _
  refine Goes.by (fun _ k => ldI (v := (Int32.ofNat nk0)) (fr := (mkF m 100 #[.val (.ref oa), .val (.ref ob), .val (.int (3 : Int32)), .val (.ref oc), .val (.ref b1), .val (.ref b16), .val (.int (0 : Int32)), .val (.int (4 : Int32)), .val (.int (Int32.ofNat nk3))] [(.int (0 : Int32)), (.ref ob), (.ref b1), (.ref oc)])) X16 hx hZ e16 A_ob (i := 0) (by decide) (by decide) rfl rfl rfl (hb hby d1_100) k) ?_
  show Goes p.tables e below (T16.setTop (mkF m 101 #[.val (.ref oa), .val (.ref ob), .val (.int (3 : Int32)), .val (.ref oc), .val (.ref b1), .val (.ref b16), .val (.int (0 : Int32)), .val (.int (4 : Int32)), .val (.int (Int32.ofNat nk3))] [(.int (Int32.ofNat nk0)), (.ref b1), (.ref oc)])) _
  refine Goes.by (fun _ k => ldI (v := ((own_pre 3 nk0 nk1 nk2 nk3) nk0)) (fr := (mkF m 101 #[.val (.ref oa), .val (.ref ob), .val (.int (3 : Int32)), .val (.ref oc), .val (.ref b1), .val (.ref b16), .val (.int (0 : Int32)), .val (.int (4 : Int32)), .val (.int (Int32.ofNat nk3))] [(.int (Int32.ofNat nk0)), (.ref b1), (.ref oc)])) X16 hx hZ e16 A_b1 (i := nk0) (own_i0 nk0 (Nat.lt_trans hnk0 (by decide))) (Nat.lt_succ_of_lt hnk0) rfl rfl rfl (hb hby d1_101) k) ?_
  show Goes p.tables e below (T16.setTop (mkF m 102 #[.val (.ref oa), .val (.ref ob), .val (.int (3 : Int32)), .val (.ref oc), .val (.ref b1), .val (.ref b16), .val (.int (0 : Int32)), .val (.int (4 : Int32)), .val (.int (Int32.ofNat nk3))] [(.int ((own_pre 3 nk0 nk1 nk2 nk3) nk0)), (.ref oc)])) _
  refine Goes.by (fun _ k => XS.aload X16.here hx rfl (hb hby d1_102) rfl rfl k) ?_
  show Goes p.tables e below (T16.setTop (mkF m 104 #[.val (.ref oa), .val (.ref ob), .val (.int (3 : Int32)), .val (.ref oc), .val (.ref b1), .val (.ref b16), .val (.int (0 : Int32)), .val (.int (4 : Int32)), .val (.int (Int32.ofNat nk3))] [(.ref b16), (.int ((own_pre 3 nk0 nk1 nk2 nk3) nk0)), (.ref oc)])) _
  refine Goes.by (fun _ k => XS.aloadN X16.here hx rfl (hb hby d1_104) rfl rfl k) ?_
  show Goes p.tables e below (T16.setTop (mkF m 105 #[.val (.ref oa), .val (.ref ob), .val (.int (3 : Int32)), .val (.ref oc), .val (.ref b1), .val (.ref b16), .val (.int (0 : Int32)), .val (.int (4 : Int32)), .val (.int (Int32.ofNat nk3))] [(.ref ob), (.ref b16), (.int ((own_pre 3 nk0 nk1 nk2 nk3) nk0)), (.ref oc)])) _
  refine Goes.by (fun _ k => XS.iload X16.here hx rfl (hb hby d1_105) rfl k) ?_
  show Goes p.tables e below (T16.setTop (mkF m 107 #[.val (.ref oa), .val (.ref ob), .val (.int (3 : Int32)), .val (.ref oc), .val (.ref b1), .val (.ref b16), .val (.int (0 : Int32)), .val (.int (4 : Int32)), .val (.int (Int32.ofNat nk3))] [(.int (0 : Int32)), (.ref ob), (.ref b16), (.int ((own_pre 3 nk0 nk1 nk2 nk3) nk0)), (.ref oc)])) _
  refine Goes.by (fun _ k => ldI (v := (Int32.ofNat nk0)) (fr := (mkF m 107 #[.val (.ref oa), .val (.ref ob), .val (.int (3 : Int32)), .val (.ref oc), .val (.ref b1), .val (.ref b16), .val (.int (0 : Int32)), .val (.int (4 : Int32)), .val (.int (Int32.ofNat nk3))] [(.int (0 : Int32)), (.ref ob), (.ref b16), (.int ((own_pre 3 nk0 nk1 nk2 nk3) nk0)), (.ref oc)])) X16 hx hZ e16 A_ob (i := 0) (by decide) (by decide) rfl rfl rfl (hb hby d1_107) k) ?_
  show Goes p.tables e below (T16.setTop (mkF m 108 #[.val (.ref oa), .val (.ref ob), .val (.int (3 : Int32)), .val (.ref oc), .val (.ref b1), .val (.ref b16), .val (.int (0 : Int32)), .val (.int (4 : Int32)), .val (.int (Int32.ofNat nk3))] [(.int (Int32.ofNat nk0)), (.ref b16), (.int ((own_pre 3 nk0 nk1 nk2 nk3) nk0)), (.ref oc)])) _
  have sd17 : ∀ u, Steps p.tables e below (T16.setTop (mkF m 109 #[.val (.ref oa), .val (.ref ob), .val (.int (3 : Int32)), .val (.ref oc), .val (.ref b1), .val (.ref b16), .val (.int (0 : Int32)), .val (.int (4 : Int32)), .val (.int (Int32.ofNat nk3))] [(.int (Int32.ofNat nk0)), (.ref b16), (.int (Int32.ofNat nk0)), (.ref b16), (.int ((own_pre 3 nk0 nk1 nk2 nk3) nk0)), (.ref oc)])) u → Steps p.tables e below (T16.setTop (mkF m 108 #[.val (.ref oa), .val (.ref ob), .val (.int (3 : Int32)), .val (.ref oc), .val (.ref b1), .val (.ref b16), .val (.int (0 : Int32)), .val (.int (4 : Int32)), .val (.int (Int32.ofNat nk3))] [(.int (Int32.ofNat nk0)), (.ref b16), (.int ((own_pre 3 nk0 nk1 nk2 nk3) nk0)), (.ref oc)])) u := by
    intro u k
    jvm_step X16.here [X16.here.top, hx, (hb hby d1_108), Value.category]
    exact k
  refine Goes.by (fun _ k => sd17 _ k) ?_
  show Goes p.tables e below (T16.setTop (mkF m 109 #[.val (.ref oa), .val (.ref ob), .val (.int (3 : Int32)), .val (.ref oc), .val (.ref b1), .val (.ref b16), .val (.int (0 : Int32)), .val (.int (4 : Int32)), .val (.int (Int32.ofNat nk3))] [(.int (Int32.ofNat nk0)), (.ref b16), (.int (Int32.ofNat nk0)), (.ref b16), (.int ((own_pre 3 nk0 nk1 nk2 nk3) nk0)), (.ref oc)])) _
  refine Goes.by (fun _ k => ldI (v := ((fun _ => (0 : Int32)) nk0)) (fr := (mkF m 109 #[.val (.ref oa), .val (.ref ob), .val (.int (3 : Int32)), .val (.ref oc), .val (.ref b1), .val (.ref b16), .val (.int (0 : Int32)), .val (.int (4 : Int32)), .val (.int (Int32.ofNat nk3))] [(.int (Int32.ofNat nk0)), (.ref b16), (.int (Int32.ofNat nk0)), (.ref b16), (.int ((own_pre 3 nk0 nk1 nk2 nk3) nk0)), (.ref oc)])) X16 hx hZ e16 A_b16 (i := nk0) (own_i0 nk0 (Nat.lt_trans hnk0 (by decide))) hnk0 rfl rfl rfl (hb hby d1_109) k) ?_
  show Goes p.tables e below (T16.setTop (mkF m 110 #[.val (.ref oa), .val (.ref ob), .val (.int (3 : Int32)), .val (.ref oc), .val (.ref b1), .val (.ref b16), .val (.int (0 : Int32)), .val (.int (4 : Int32)), .val (.int (Int32.ofNat nk3))] [(.int ((fun _ => (0 : Int32)) nk0)), (.int (Int32.ofNat nk0)), (.ref b16), (.int ((own_pre 3 nk0 nk1 nk2 nk3) nk0)), (.ref oc)])) _
  have sd18 : ∀ u, Steps p.tables e below (T16.setTop (mkF m 111 #[.val (.ref oa), .val (.ref ob), .val (.int (3 : Int32)), .val (.ref oc), .val (.ref b1), .val (.ref b16), .val (.int (0 : Int32)), .val (.int (4 : Int32)), .val (.int (Int32.ofNat nk3))] [(.int ((fun _ => (0 : Int32)) nk0)), (.int (Int32.ofNat nk0)), (.ref b16), (.int ((fun _ => (0 : Int32)) nk0)), (.int ((own_pre 3 nk0 nk1 nk2 nk3) nk0)), (.ref oc)])) u → Steps p.tables e below (T16.setTop (mkF m 110 #[.val (.ref oa), .val (.ref ob), .val (.int (3 : Int32)), .val (.ref oc), .val (.ref b1), .val (.ref b16), .val (.int (0 : Int32)), .val (.int (4 : Int32)), .val (.int (Int32.ofNat nk3))] [(.int ((fun _ => (0 : Int32)) nk0)), (.int (Int32.ofNat nk0)), (.ref b16), (.int ((own_pre 3 nk0 nk1 nk2 nk3) nk0)), (.ref oc)])) u := by
    intro u k
    jvm_step X16.here [X16.here.top, hx, (hb hby d1_110), Value.category]
    exact k
  refine Goes.by (fun _ k => sd18 _ k) ?_
  show Goes p.tables e below (T16.setTop (mkF m 111 #[.val (.ref oa), .val (.ref ob), .val (.int (3 : Int32)), .val (.ref oc), .val (.ref b1), .val (.ref b16), .val (.int (0 : Int32)), .val (.int (4 : Int32)), .val (.int (Int32.ofNat nk3))] [(.int ((fun _ => (0 : Int32)) nk0)), (.int (Int32.ofNat nk0)), (.ref b16), (.int ((fun _ => (0 : Int32)) nk0)), (.int ((own_pre 3 nk0 nk1 nk2 nk3) nk0)), (.ref oc)])) _
  refine Goes.by (fun _ k => XS.iconst X16.here hx rfl (hb hby d1_111) k) ?_
  show Goes p.tables e below (T16.setTop (mkF m 112 #[.val (.ref oa), .val (.ref ob), .val (.int (3 : Int32)), .val (.ref oc), .val (.ref b1), .val (.ref b16), .val (.int (0 : Int32)), .val (.int (4 : Int32)), .val (.int (Int32.ofNat nk3))] [(.int (1 : Int32)), (.int ((fun _ => (0 : Int32)) nk0)), (.int (Int32.ofNat nk0)), (.ref b16), (.int ((fun _ => (0 : Int32)) nk0)), (.int ((own_pre 3 nk0 nk1 nk2 nk3) nk0)), (.ref oc)])) _
  refine Goes.by (fun _ k => XS.iadd X16.here hx rfl (hb hby d1_112) rfl k) ?_
  show Goes p.tables e below (T16.setTop (mkF m 113 #[.val (.ref oa), .val (.ref ob), .val (.int (3 : Int32)), .val (.ref oc), .val (.ref b1), .val (.ref b16), .val (.int (0 : Int32)), .val (.int (4 : Int32)), .val (.int (Int32.ofNat nk3))] [(.int (((fun _ => (0 : Int32)) nk0) + (1 : Int32))), (.int (Int32.ofNat nk0)), (.ref b16), (.int ((fun _ => (0 : Int32)) nk0)), (.int ((own_pre 3 nk0 nk1 nk2 nk3) nk0)), (.ref oc)])) _
  obtain ⟨T19, h19, X19, e19, W19, A19, st19⟩ := stAI (fr := (mkF m 113 #[.val (.ref oa), .val (.ref ob), .val (.int (3 : Int32)), .val (.ref oc), .val (.ref b1), .val (.ref b16), .val (.int (0 : Int32)), .val (.int (4 : Int32)), .val (.int (Int32.ofNat nk3))] [(.int (((fun _ => (0 : Int32)) nk0) + (1 : Int32))), (.int (Int32.ofNat nk0)), (.ref b16), (.int ((fun _ => (0 : Int32)) nk0)), (.int ((own_pre 3 nk0 nk1 nk2 nk3) nk0)), (.ref oc)])) X16 hx hZ e16 A_b16 (i := nk0) (own_i0 nk0 (Nat.lt_trans hnk0 (by decide))) hnk0 rfl rfl (hb hby d1_113)
  refine Goes.by st19 ?_
  have A_b16 : AI Z h19 b16 .int 3 (own_nx1 nk0 nk1 nk2 nk3) := A19.congr (fun j hj => own_g3_1 ⟨nk0, hnk0⟩ ⟨nk1, hnk1⟩ ⟨nk2, hnk2⟩ ⟨nk3, hnk3⟩ ⟨j, hj⟩)
  have N19 := Fr.snoc X19 N15 g_b16
  have Zs19 : n0 ≤ h19.size := Nat.le_trans Zs16 (Keep.of_wr W19).1
  have K19 : Keep h0 h19 [oc] := K16.wr W19 (Or.inr sz_b16)
  have A_oa : AI Z h19 oa .int 4 pa := A_oa.other W19 ne_oa_b16
  have A_ob : AI Z h19 ob .int 4 (own_keys nk0 nk1 nk2 nk3) := A_ob.other W19 ne_ob_b16
  have A_oc : AI Z h19 oc .int 4 (fun _ => (0 : Int32)) := A_oc.other W19 ne_oc_b16
  have A_b1 : AI Z h19 b1 .int 4 (own_pre 3 nk0 nk1 nk2 nk3) := A_b1.other W19 ne_b1_b16
  show Goes p.tables e below (T19.setTop (mkF m 114 #[.val (.ref oa), .val (.ref ob), .val (.int (3 : Int32)), .val (.ref oc), .val (.ref b1), .val (.ref b16), .val (.int (0 : Int32)), .val (.int (4 : Int32)), .val (.int (Int32.ofNat nk3))] [(.int ((fun _ => (0 : Int32)) nk0)), (.int ((own_pre 3 nk0 nk1 nk2 nk3) nk0)), (.ref oc)])) _
  refine Goes.by (fun _ k => XS.iadd X19.here hx rfl (hb hby d1_114) rfl k) ?_
  show Goes p.tables e below (T19.setTop (mkF m 115 #[.val (.ref oa), .val (.ref ob), .val (.int (3 : Int32)), .val (.ref oc), .val (.ref b1), .val (.ref b16), .val (.int (0 : Int32)), .val (.int (4 : Int32)), .val (.int (Int32.ofNat nk3))] [(.int (((own_pre 3 nk0 nk1 nk2 nk3) nk0) + ((fun _ => (0 : Int32)) nk0))), (.ref oc)])) _
  refine Goes.by (fun _ k => XS.aloadN X19.here hx rfl (hb hby d1_115) rfl rfl k) ?_
  show Goes p.tables e below (T19.setTop (mkF m 116 #[.val (.ref oa), .val (.ref ob), .val (.int (3 : Int32)), .val (.ref oc), .val (.ref b1), .val (.ref b16), .val (.int (0 : Int32)), .val (.int (4 : Int32)), .val (.int (Int32.ofNat nk3))] [(.ref oa), (.int (((own_pre 3 nk0 nk1 nk2 nk3) nk0) + ((fun _ => (0 : Int32)) nk0))), (.ref oc)])) _
  refine Goes.by (fun _ k => XS.iload X19.here hx rfl (hb hby d1_116) rfl k) ?_
  show Goes p.tables e below (T19.setTop (mkF m 118 #[.val (.ref oa), .val (.ref ob), .val (.int (3 : Int32)), .val (.ref oc), .val (.ref b1), .val (.ref b16), .val (.int (0 : Int32)), .val (.int (4 : Int32)), .val (.int (Int32.ofNat nk3))] [(.int (0 : Int32)), (.ref oa), (.int (((own_pre 3 nk0 nk1 nk2 nk3) nk0) + ((fun _ => (0 : Int32)) nk0))), (.ref oc)])) _
  refine Goes.by (fun _ k => ldI (v := (pa 0)) (fr := (mkF m 118 #[.val (.ref oa), .val (.ref ob), .val (.int (3 : Int32)), .val (.ref oc), .val (.ref b1), .val (.ref b16), .val (.int (0 : Int32)), .val (.int (4 : Int32)), .val (.int (Int32.ofNat nk3))] [(.int (0 : Int32)), (.ref oa), (.int (((own_pre 3 nk0 nk1 nk2 nk3) nk0) + ((fun _ => (0 : Int32)) nk0))), (.ref oc)])) X19 hx hZ e19 A_oa (i := 0) (by decide) (by decide) rfl rfl rfl (hb hby d1_118) k) ?_
  show Goes p.tables e below (T19.setTop (mkF m 119 #[.val (.ref oa), .val (.ref ob), .val (.int (3 : Int32)), .val (.ref oc), .val (.ref b1), .val (.ref b16), .val (.int (0 : Int32)), .val (.int (4 : Int32)), .val (.int (Int32.ofNat nk3))] [(.int (pa 0)), (.int (((own_pre 3 nk0 nk1 nk2 nk3) nk0) + ((fun _ => (0 : Int32)) nk0))), (.ref oc)])) _
  obtain ⟨T20, h20, X20, e20, W20, A20, st20⟩ := stAI (fr := (mkF m 119 #[.val (.ref oa), .val (.ref ob), .val (.int (3 : Int32)), .val (.ref oc), .val (.ref b1), .val (.ref b16), .val (.int (0 : Int32)), .val (.int (4 : Int32)), .val (.int (Int32.ofNat nk3))] [(.int (pa 0)), (.int (((own_pre 3 nk0 nk1 nk2 nk3) nk0) + ((fun _ => (0 : Int32)) nk0))), (.ref oc)])) X19 hx hZ e19 A_oc (i := (own_rank0 nk0 nk1 nk2 nk3)) (own_pl3_0 ⟨nk0, hnk0⟩ ⟨nk1, hnk1⟩ ⟨nk2, hnk2⟩ ⟨nk3, hnk3⟩).1 (own_pl3_0 ⟨nk0, hnk0⟩ ⟨nk1, hnk1⟩ ⟨nk2, hnk2⟩ ⟨nk3, hnk3⟩).2 rfl rfl (hb hby d1_119)
  refine Goes.by st20 ?_
  have A_oc : AI Z h20 oc .int 4 (up (fun _ => (0 : Int32)) (own_rank0 nk0 nk1 nk2 nk3) (pa 0)) := A20
  have N20 := Fr.snoc X20 N19 g_oc
  have Zs20 : n0 ≤ h20.size := Nat.le_trans Zs19 (Keep.of_wr W20).1
  have K20 : Keep h0 h20 [oc] := K19.wr W20 (Or.inl (List.mem_of_getElem? (i := 0) rfl))
  have A_oa : AI Z h20 oa .int 4 pa := A_oa.other W20 ne_oa_oc
  have A_ob : AI Z h20 ob .int 4 (own_keys nk0 nk1 nk2 nk3) := A_ob.other W20 ne_ob_oc
  have A_b1 : AI Z h20 b1 .int 4 (own_pre 3 nk0 nk1 nk2 nk3) := A_b1.other W20 (Ne.symm ne_oc_b1)
  have A_b16 : AI Z h20 b16 .int 3 (own_nx1 nk0 nk1 nk2 nk3) := A_b16.other W20 (Ne.symm ne_oc_b16)
  show Goes p.tables e below (T20.setTop (mkF m 120 #[.val (.ref oa), .val (.ref ob), .val (.int (3 : Int32)), .val (.ref oc), .val (.ref b1), .val (.ref b16), .val (.int (0 : Int32)), .val (.int (4 : Int32)), .val (.int (Int32.ofNat nk3))] [])) _
  refine Goes.by (fun _ k => XS.iinc X20.here hx rfl (hb hby d1_120) rfl (l' := #[.val (.ref oa), .val (.ref ob), .val (.int (3 : Int32)), .val (.ref oc), .val (.ref b1), .val (.ref b16), .val (.int (1 : Int32)), .val (.int (4 : Int32)), .val (.int (Int32.ofNat nk3))]) rfl k) ?_
  show Goes p.tables e below (T20.setTop (mkF m 123 #[.val (.ref oa), .val (.ref ob), .val (.int (3 : Int32)), .val (.ref oc), .val (.ref b1), .val (.ref b16), .val (.int (1 : Int32)), .val (.int (4 : Int32)), .val (.int (Int32.ofNat nk3))] [])) _
  refine Goes.by (fun _ k => XS.goto X20.here hx rfl (pc0 := 123) (pc' := 87) rfl (hb hby d1_123) (by decide) (by decide) k) ?_
  show Goes p.tables e below (T20.setTop (mkF m 87 #[.val (.ref oa), .val (.ref ob), .val (.int (3 : Int32)), .val (.ref oc), .val (.ref b1), .val (.ref b16), .val (.int (1 : Int32)), .val (.int (4 : Int32)), .val (.int (Int32.ofNat nk3))] [])) _
  refine Goes.by (fun _ k => XS.iload X20.here hx rfl (hb hby d1_87) rfl k) ?_
  show Goes p.tables e below (T20.setTop (mkF m 89 #[.val (.ref oa), .val (.ref ob), .val (.int (3 : Int32)), .val (.ref oc), .val (.ref b1), .val (.ref b16), .val (.int (1 : Int32)), .val (.int (4 : Int32)), .val (.int (Int32.ofNat nk3))] [(.int (1 : Int32))])) _
  refine Goes.by (fun _ k => XS.aloadN X20.here hx rfl (hb hby d1_89) rfl rfl k) ?_
  show Goes p.tables e below (T20.setTop (mkF m 90 #[.val (.ref oa), .val (.ref ob), .val (.int (3 : Int32)), .val (.ref oc), .val (.ref b1), .val (.ref b16), .val (.int (1 : Int32)), .val (.int (4 : Int32)), .val (.int (Int32.ofNat nk3))] [(.ref oa), (.int (1 : Int32))])) _
  refine Goes.by (fun _ k => alen (z := (4 : Int32)) (fr := (mkF m 90 #[.val (.ref oa), .val (.ref ob), .val (.int (3 : Int32)), .val (.ref oc), .val (.ref b1), .val (.ref b16), .val (.int (1 : Int32)), .val (.int (4 : Int32)), .val (.int (Int32.ofNat nk3))] [(.ref oa), (.int (1 : Int32))])) X20 hx hZ e20 A_oa (by decide) rfl rfl (hb hby d1_90) k) ?_
  show Goes p.tables e below (T20.setTop (mkF m 91 #[.val (.ref oa), .val (.ref ob), .val (.int (3 : Int32)), .val (.ref oc), .val (.ref b1), .val (.ref b16), .val (.int (1 : Int32)), .val (.int (4 : Int32)), .val (.int (Int32.ofNat nk3))] [(.int (4 : Int32)), (.int (1 : Int32))])) _
  refine Goes.by (fun _ k => XS.icmpNo X20.here hx rfl (hb hby d1_91) rfl (tlt (by decide : (1 : Int32) < (4 : Int32))).2.1 k) ?_
  show Goes p.tables e below (T20.setTop (mkF m 94 #[.val (.ref oa), .val (.ref ob), .val (.int (3 : Int32)), .val (.ref oc), .val (.ref b1), .val (.ref b16), .val (.int (1 : Int32)), .val (.int (4 : Int32)), .val (.int (Int32.ofNat nk3))] [])) _
  refine Goes.by (fun _ k => XS.aloadN X20.here hx rfl (hb hby d1_94) rfl rfl k) ?_
  show Goes p.tables e below (T20.setTop (mkF m 95 #[.val (.ref oa), .val (.ref ob), .val (.int (3 : Int32)), .val (.ref oc), .val (.ref b1), .val (.ref b16), .val (.int (1 : Int32)), .val (.int (4 : Int32)), .val (.int (Int32.ofNat nk3))] [(.ref oc)])) _
  refine Goes.by (fun _ k => XS.aload X20.here hx rfl (hb hby d1_95) rfl rfl k) ?_
  show Goes p.tables e below (T20.setTop (mkF m 97 #[.val (.ref oa), .val (.ref ob), .val (.int (3 : Int32)), .val (.ref oc), .val (.ref b1), .val (.ref b16), .val (.int (1 : Int32)), .val (.int (4 : Int32)), .val (.int (Int32.ofNat nk3))] [(.ref b1), (.ref oc)])) _
  refine Goes.by (fun _ k => XS.aloadN X20.here hx rfl (hb hby d1_97) rfl rfl k) ?_
  show Goes p.tables e below (T20.setTop (mkF m 98 #[.val (.ref oa), .val (.ref ob), .val (.int (3 : Int32)), .val (.ref oc), .val (.ref b1), .val (.ref b16), .val (.int (1 : Int32)), .val (.int (4 : Int32)), .val (.int (Int32.ofNat nk3))] [(.ref ob), (.ref b1), (.ref oc)])) _
  refine Goes.by (fun _ k => XS.iload X20.here hx rfl (hb hby d1_98) rfl k) ?_
  show Goes p.tables e below (T20.setTop (mkF m 100 #[.val (.ref oa), .val (.ref ob), .val (.int (3 : Int32)), .val (.ref oc), .val (.ref b1), .val (.ref b16), .val (.int (1 : Int32)), .val (.int (4 : Int32)), .val (.int (Int32.ofNat nk3))] [(.int (1 : Int32)), (.ref ob), (.ref b1), (.ref oc)])) _
  refine Goes.by (fun _ k => ldI (v := (Int32.ofNat nk1)) (fr := (mkF m 100 #[.val (.ref oa), .val (.ref ob), .val (.int (3 : Int32)), .val (.ref oc), .val (.ref b1), .val (.ref b16), .val (.int (1 : Int32)), .val (.int (4 : Int32)), .val (.int (Int32.ofNat nk3))] [(.int (1 : Int32)), (.ref ob), (.ref b1), (.ref oc)])) X20 hx hZ e20 A_ob (i := 1) (by decide) (by decide) rfl rfl rfl (hb hby d1_100) k) ?_
  show Goes p.tables e below (T20.setTop (mkF m 101 #[.val (.ref oa), .val (.ref ob), .val (.int (3 : Int32)), .val (.ref oc), .val (.ref b1), .val (.ref b16), .val (.int (1 : Int32)), .val (.int (4 : Int32)), .val (.int (Int32.ofNat nk3))] [(.int (Int32.ofNat nk1)), (.ref b1), (.ref oc)])) _
  refine Goes.by (fun _ k => ldI (v := ((own_pre 3 nk0 nk1 nk2 nk3) nk1)) (fr := (mkF m 101 #[.val (.ref oa), .val (.ref ob), .val (.int (3 : Int32)), .val (.ref oc), .val (.ref b1), .val (.ref b16), .val (.int (1 : Int32)), .val (.int (4 : Int32)), .val (.int (Int32.ofNat nk3))] [(.int (Int32.ofNat nk1)), (.ref b1), (.ref oc)])) X20 hx hZ e20 A_b1 (i := nk1) (own_i0 nk1 (Nat.lt_trans hnk1 (by decide))) (Nat.lt_succ_of_lt hnk1) rfl rfl rfl (hb hby d1_101) k) ?_
  show Goes p.tables e below (T20.setTop (mkF m 102 #[.val (.ref oa), .val (.ref ob), .val (.int (3 : Int32)), .val (.ref oc), .val (.ref b1), .val (.ref b16), .val (.int (1 : Int32)), .val (.int (4 : Int32)), .val (.int (Int32.ofNat nk3))] [(.int ((own_pre 3 nk0 nk1 nk2 nk3) nk1)), (.ref oc)])) _
  refine Goes.by (fun _ k => XS.aload X20.here hx rfl (hb hby d1_102) rfl rfl k) ?_
  show Goes p.tables e below (T20.setTop (mkF m 104 #[.val (.ref oa), .val (.ref ob), .val (.int (3 : Int32)), .val (.ref oc), .val (.ref b1), .val (.ref b16), .val (.int (1 : Int32)), .val (.int (4 : Int32)), .val (.int (Int32.ofNat nk3))] [(.ref b16), (.int ((own_pre 3 nk0 nk1 nk2 nk3) nk1)), (.ref oc)])) _
  refine Goes.by (fun _ k => XS.aloadN X20.here hx rfl (hb hby d1_104) rfl rfl k) ?_
  show Goes p.tables e below (T20.setTop (mkF m 105 #[.val (.ref oa), .val (.ref ob), .val (.int (3 : Int32)), .val (.ref oc), .val (.ref b1), .val (.ref b16), .val (.int (1 : Int32)), .val (.int (4 : Int32)), .val (.int (Int32.ofNat nk3))] [(.ref ob), (.ref b16), (.int ((own_pre 3 nk0 nk1 nk2 nk3) nk1)), (.ref oc)])) _
  refine Goes.by (fun _ k => XS.iload X20.here hx rfl (hb hby d1_105) rfl k) ?_
  show Goes p.tables e below (T20.setTop (mkF m 107 #[.val (.ref oa), .val (.ref ob), .val (.int (3 : Int32)), .val (.ref oc), .val (.ref b1), .val (.ref b16), .val (.int (1 : Int32)), .val (.int (4 : Int32)), .val (.int (Int32.ofNat nk3))] [(.int (1 : Int32)), (.ref ob), (.ref b16), (.int ((own_pre 3 nk0 nk1 nk2 nk3) nk1)), (.ref oc)])) _
  refine Goes.by (fun _ k => ldI (v := (Int32.ofNat nk1)) (fr := (mkF m 107 #[.val (.ref oa), .val (.ref ob), .val (.int (3 : Int32)), .val (.ref oc), .val (.ref b1), .val (.ref b16), .val (.int (1 : Int32)), .val (.int (4 : Int32)), .val (.int (Int32.ofNat nk3))] [(.int (1 : Int32)), (.ref ob), (.ref b16), (.int ((own_pre 3 nk0 nk1 nk2 nk3) nk1)), (.ref oc)])) X20 hx hZ e20 A_ob (i := 1) (by decide) (by decide) rfl rfl rfl (hb hby d1_107) k) ?_
  show Goes p.tables e below (T20.setTop (mkF m 108 #[.val (.ref oa), .val (.ref ob), .val (.int (3 : Int32)), .val (.ref oc), .val (.ref b1), .val (.ref b16), .val (.int (1 : Int32)), .val (.int (4 : Int32)), .val (.int (Int32.ofNat nk3))] [(.int (Int32.ofNat nk1)), (.ref b16), (.int ((own_pre 3 nk0 nk1 nk2 nk3) nk1)), (.ref oc)])) _
  have sd21 : ∀ u, Steps p.tables e below (T20.setTop (mkF m 109 #[.val (.ref oa), .val (.ref ob), .val (.int (3 : Int32)), .val (.ref oc), .val (.ref b1), .val (.ref b16), .val (.int (1 : Int32)), .val (.int (4 : Int32)), .val (.int (Int32.ofNat nk3))] [(.int (Int32.ofNat nk1)), (.ref b16), (.int (Int32.ofNat nk1)), (.ref b16), (.int ((own_pre 3 nk0 nk1 nk2 nk3) nk1)), (.ref oc)])) u → Steps p.tables e below (T20.setTop (mkF m 108 #[.val (.ref oa), .val (.ref ob), .val (.int (3 : Int32)), .val (.ref oc), .val (.ref b1), .val (.ref b16), .val (.int (1 : Int32)), .val (.int (4 : Int32)), .val (.int (Int32.ofNat nk3))] [(.int (Int32.ofNat nk1)), (.ref b16), (.int ((own_pre 3 nk0 nk1 nk2 nk3) nk1)), (.ref oc)])) u := by
    intro u k
    jvm_step X20.here [X20.here.top, hx, (hb hby d1_108), Value.category]
    exact k
  refine Goes.by (fun _ k => sd21 _ k) ?_
  show Goes p.tables e below (T20.setTop (mkF m 109 #[.val (.ref oa), .val (.ref ob), .val (.int (3 : Int32)), .val (.ref oc), .val (.ref b1), .val (.ref b16), .val (.int (1 : Int32)), .val (.int (4 : Int32)), .val (.int (Int32.ofNat nk3))] [(.int (Int32.ofNat nk1)), (.ref b16), (.int (Int32.ofNat nk1)), (.ref b16), (.int ((own_pre 3 nk0 nk1 nk2 nk3) nk1)), (.ref oc)])) _
  refine Goes.by (fun _ k => ldI (v := ((own_nx1 nk0 nk1 nk2 nk3) nk1)) (fr := (mkF m 109 #[.val (.ref oa), .val (.ref ob), .val (.int (3 : Int32)), .val (.ref oc), .val (.ref b1), .val (.ref b16), .val (.int (1 : Int32)), .val (.int (4 : Int32)), .val (.int (Int32.ofNat nk3))] [(.int (Int32.ofNat nk1)), (.ref b16), (.int (Int32.ofNat nk1)), (.ref b16), (.int ((own_pre 3 nk0 nk1 nk2 nk3) nk1)), (.ref oc)])) X20 hx hZ e20 A_b16 (i := nk1) (own_i0 nk1 (Nat.lt_trans hnk1 (by decide))) hnk1 rfl rfl rfl (hb hby d1_109) k) ?_
  show Goes p.tables e below (T20.setTop (mkF m 110 #[.val (.ref oa), .val (.ref ob), .val (.int (3 : Int32)), .val (.ref oc), .val (.ref b1), .val (.ref b16), .val (.int (1 : Int32)), .val (.int (4 : Int32)), .val (.int (Int32.ofNat nk3))] [(.int ((own_nx1 nk0 nk1 nk2 nk3) nk1)), (.int (Int32.ofNat nk1)), (.ref b16), (.int ((own_pre 3 nk0 nk1 nk2 nk3) nk1)), (.ref oc)])) _
  have sd22 : ∀ u, Steps p.tables e below (T20.setTop (mkF m 111 #[.val (.ref oa), .val (.ref ob), .val (.int (3 : Int32)), .val (.ref oc), .val (.ref b1), .val (.ref b16), .val (.int (1 : Int32)), .val (.int (4 : Int32)), .val (.int (Int32.ofNat nk3))] [(.int ((own_nx1 nk0 nk1 nk2 nk3) nk1)), (.int (Int32.ofNat nk1)), (.ref b16), (.int ((own_nx1 nk0 nk1 nk2 nk3) nk1)), (.int ((own_pre 3 nk0 nk1 nk2 nk3) nk1)), (.ref oc)])) u → Steps p.tables e below (T20.setTop (mkF m 110 #[.val (.ref oa), .val (.ref ob), .val (.int (3 : Int32)), .val (.ref oc), .val (.ref b1), .val (.ref b16), .val (.int (1 : Int32)), .val (.int (4 : Int32)), .val (.int (Int32.ofNat nk3))] [(.int ((own_nx1 nk0 nk1 nk2 nk3) nk1)), (.int (Int32.ofNat nk1)), (.ref b16), (.int ((own_pre 3 nk0 nk1 nk2 nk3) nk1)), (.ref oc)])) u := by
    intro u k
    jvm_step X20.here [X20.here.top, hx, (hb hby d1_110), Value.category]
    exact k
  refine Goes.by (fun _ k => sd22 _ k) ?_
  show Goes p.tables e below (T20.setTop (mkF m 111 #[.val (.ref oa), .val (.ref ob), .val (.int (3 : Int32)), .val (.ref oc), .val (.ref b1), .val (.ref b16), .val (.int (1 : Int32)), .val (.int (4 : Int32)), .val (.int (Int32.ofNat nk3))] [(.int ((own_nx1 nk0 nk1 nk2 nk3) nk1)), (.int (Int32.ofNat nk1)), (.ref b16), (.int ((own_nx1 nk0 nk1 nk2 nk3) nk1)), (.int ((own_pre 3 nk0 nk1 nk2 nk3) nk1)), (.ref oc)])) _
  refine Goes.by (fun _ k => XS.iconst X20.here hx rfl (hb hby d1_111) k) ?_
  show Goes p.tables e below (T20.setTop (mkF m 112 #[.val (.ref oa), .val (.ref ob), .val (.int (3 : Int32)), .val (.ref oc), .val (.ref b1), .val (.ref b16), .val (.int (1 : Int32)), .val (.int (4 : Int32)), .val (.int (Int32.ofNat nk3))] [(.int (1 : Int32)), (.int ((own_nx1 nk0 nk1 nk2 nk3) nk1)), (.int (Int32.ofNat nk1)), (.ref b16), (.int ((own_nx1 nk0 nk1 nk2 nk3) nk1)), (.int ((own_pre 3 nk0 nk1 nk2 nk3) nk1)), (.ref oc)])) _
  refine Goes.by (fun _ k => XS.iadd X20.here hx rfl (hb hby d1_112) rfl k) ?_
  show Goes p.tables e below (T20.setTop (mkF m 113 #[.val (.ref oa), .val (.ref ob), .val (.int (3 : Int32)), .val (.ref oc), .val (.ref b1), .val (.ref b16), .val (.int (1 : Int32)), .val (.int (4 : Int32)), .val (.int (Int32.ofNat nk3))] [(.int (((own_nx1 nk0 nk1 nk2 nk3) nk1) + (1 : Int32))), (.int (Int32.ofNat nk1)), (.ref b16), (.int ((own_nx1 nk0 nk1 nk2 nk3) nk1)), (.int ((own_pre 3 nk0 nk1 nk2 nk3) nk1)), (.ref oc)])) _
  obtain ⟨T23, h23, X23, e23, W23, A23, st23⟩ := stAI (fr := (mkF m 113 #[.val (.ref oa), .val (.ref ob), .val (.int (3 : Int32)), .val (.ref oc), .val (.ref b1), .val (.ref b16), .val (.int (1 : Int32)), .val (.int (4 : Int32)), .val (.int (Int32.ofNat nk3))] [(.int (((own_nx1 nk0 nk1 nk2 nk3) nk1) + (1 : Int32))), (.int (Int32.ofNat nk1)), (.ref b16), (.int ((own_nx1 nk0 nk1 nk2 nk3) nk1)), (.int ((own_pre 3 nk0 nk1 nk2 nk3) nk1)), (.ref oc)])) X20 hx hZ e20 A_b16 (i := nk1) (own_i0 nk1 (Nat.lt_trans hnk1 (by decide))) hnk1 rfl rfl (hb hby d1_113)
  refine Goes.by st23 ?_
  have A_b16 : AI Z h23 b16 .int 3 (own_nx2 nk0 nk1 nk2 nk3) := A23.congr (fun j hj => own_g3_2 ⟨nk0, hnk0⟩ ⟨nk1, hnk1⟩ ⟨nk2, hnk2⟩ ⟨nk3, hnk3⟩ ⟨j, hj⟩)
  have N23 := Fr.snoc X23 N20 g_b16
  have Zs23 : n0 ≤ h23.size := Nat.le_trans Zs20 (Keep.of_wr W23).1
  have K23 : Keep h0 h23 [oc] := K20.wr W23 (Or.inr sz_b16)
  have A_oa : AI Z h23 oa .int 4 pa := A_oa.other W23 ne_oa_b16
  have A_ob : AI Z h23 ob .int 4 (own_keys nk0 nk1 nk2 nk3) := A_ob.other W23 ne_ob_b16
  have A_oc : AI Z h23 oc .int 4 (up (fun _ => (0 : Int32)) (own_rank0 nk0 nk1 nk2 nk3) (pa 0)) := A_oc.other W23 ne_oc_b16
  have A_b1 : AI Z h23 b1 .int 4 (own_pre 3 nk0 nk1 nk2 nk3) := A_b1.other W23 ne_b1_b16
  show Goes p.tables e below (T23.setTop (mkF m 114 #[.val (.ref oa), .val (.ref ob), .val (.int (3 : Int32)), .val (.ref oc), .val (.ref b1), .val (.ref b16), .val (.int (1 : Int32)), .val (.int (4 : Int32)), .val (.int (Int32.ofNat nk3))] [(.int ((own_nx1 nk0 nk1 nk2 nk3) nk1)), (.int ((own_pre 3 nk0 nk1 nk2 nk3) nk1)), (.ref oc)])) _
  refine Goes.by (fun _ k => XS.iadd X23.here hx rfl (hb hby d1_114) rfl k) ?_
  show Goes p.tables e below (T23.setTop (mkF m 115 #[.val (.ref oa), .val (.ref ob), .val (.int (3 : Int32)), .val (.ref oc), .val (.ref b1), .val (.ref b16), .val (.int (1 : Int32)), .val (.int (4 : Int32)), .val (.int (Int32.ofNat nk3))] [(.int (((own_pre 3 nk0 nk1 nk2 nk3) nk1) + ((own_nx1 nk0 nk1 nk2 nk3) nk1))), (.ref oc)])) _
  refine Goes.by (fun _ k => XS.aloadN X23.here hx rfl (hb hby d1_115) rfl rfl k) ?_
  show Goes p.tables e below (T23.setTop (mkF m 116 #[.val (.ref oa), .val (.ref ob), .val (.int (3 : Int32)), .val (.ref oc), .val (.ref b1), .val (.ref b16), .val (.int (1 : Int32)), .val (.int (4 : Int32)), .val (.int (Int32.ofNat nk3))] [(.ref oa), (.int (((own_pre 3 nk0 nk1 nk2 nk3) nk1) + ((own_nx1 nk0 nk1 nk2 nk3) nk1))), (.ref oc)])) _
  refine Goes.by (fun _ k => XS.iload X23.here hx rfl (hb hby d1_116) rfl k) ?_
  show Goes p.tables e below (T23.setTop (mkF m 118 #[.val (.ref oa), .val (.ref ob), .val (.int (3 : Int32)), .val (.ref oc), .val (.ref b1), .val (.ref b16), .val (.int (1 : Int32)), .val (.int (4 : Int32)), .val (.int (Int32.ofNat nk3))] [(.int (1 : Int32)), (.ref oa), (.int (((own_pre 3 nk0 nk1 nk2 nk3) nk1) + ((own_nx1 nk0 nk1 nk2 nk3) nk1))), (.ref oc)])) _
  refine Goes.by (fun _ k => ldI (v := (pa 1)) (fr := (mkF m 118 #[.val (.ref oa), .val (.ref ob), .val (.int (3 : Int32)), .val (.ref oc), .val (.ref b1), .val (.ref b16), .val (.int (1 : Int32)), .val (.int (4 : Int32)), .val (.int (Int32.ofNat nk3))] [(.int (1 : Int32)), (.ref oa), (.int (((own_pre 3 nk0 nk1 nk2 nk3) nk1) + ((own_nx1 nk0 nk1 nk2 nk3) nk1))), (.ref oc)])) X23 hx hZ e23 A_oa (i := 1) (by decide) (by decide) rfl rfl rfl (hb hby d1_118) k) ?_
  show Goes p.tables e below (T23.setTop (mkF m 119 #[.val (.ref oa), .val (.ref ob), .val (.int (3 : Int32)), .val (.ref oc), .val (.ref b1), .val (.ref b16), .val (.int (1 : Int32)), .val (.int (4 : Int32)), .val (.int (Int32.ofNat nk3))] [(.int (pa 1)), (.int (((own_pre 3 nk0 nk1 nk2 nk3) nk1) + ((own_nx1 nk0 nk1 nk2 nk3) nk1))), (.ref oc)])) _
  obtain ⟨T24, h24, X24, e24, W24, A24, st24⟩ := stAI (fr := (mkF m 119 #[.val (.ref oa), .val (.ref ob), .val (.int (3 : Int32)), .val (.ref oc), .val (.ref b1), .val (.ref b16), .val (.int (1 : Int32)), .val (.int (4 : Int32)), .val (.int (Int32.ofNat nk3))] [(.int (pa 1)), (.int (((own_pre 3 nk0 nk1 nk2 nk3) nk1) + ((own_nx1 nk0 nk1 nk2 nk3) nk1))), (.ref oc)])) X23 hx hZ e23 A_oc (i := (own_rank1 nk0 nk1 nk2 nk3)) (own_pl3_1 ⟨nk0, hnk0⟩ ⟨nk1, hnk1⟩ ⟨nk2, hnk2⟩ ⟨nk3, hnk3⟩).1 (own_pl3_1 ⟨nk0, hnk0⟩ ⟨nk1, hnk1⟩ ⟨nk2, hnk2⟩ ⟨nk3, hnk3⟩).2 rfl rfl (hb hby d1_119)
  refine Goes.by st24 ?_
  have A_oc : AI Z h24 oc .int 4 (up (up (fun _ => (0 : Int32)) (own_rank0 nk0 nk1 nk2 nk3) (pa 0)) (own_rank1 nk0 nk1 nk2 nk3) (pa 1)) := A24
  have N24 := Fr.snoc X24 N23 g_oc
  have Zs24 : n0 ≤ h24.size := Nat.le_trans Zs23 (Keep.of_wr W24).1
  have K24 : Keep h0 h24 [oc] := K23.wr W24 (Or.inl (List.mem_of_getElem? (i := 0) rfl))
  have A_oa : AI Z h24 oa .int 4 pa := A_oa.other W24 ne_oa_oc
  have A_ob : AI Z h24 ob .int 4 (own_keys nk0 nk1 nk2 nk3) := A_ob.other W24 ne_ob_oc
  have A_b1 : AI Z h24 b1 .int 4 (own_pre 3 nk0 nk1 nk2 nk3) := A_b1.other W24 (Ne.symm ne_oc_b1)
  have A_b16 : AI Z h24 b16 .int 3 (own_nx2 nk0 nk1 nk2 nk3) := A_b16.other W24 (Ne.symm ne_oc_b16)
  show Goes p.tables e below (T24.setTop (mkF m 120 #[.val (.ref oa), .val (.ref ob), .val (.int (3 : Int32)), .val (.ref oc), .val (.ref b1), .val (.ref b16), .val (.int (1 : Int32)), .val (.int (4 : Int32)), .val (.int (Int32.ofNat nk3))] [])) _
  refine Goes.by (fun _ k => XS.iinc X24.here hx rfl (hb hby d1_120) rfl (l' := #[.val (.ref oa), .val (.ref ob), .val (.int (3 : Int32)), .val (.ref oc), .val (.ref b1), .val (.ref b16), .val (.int (2 : Int32)), .val (.int (4 : Int32)), .val (.int (Int32.ofNat nk3))]) rfl k) ?_
  show Goes p.tables e below (T24.setTop (mkF m 123 #[.val (.ref oa), .val (.ref ob), .val (.int (3 : Int32)), .val (.ref oc), .val (.ref b1), .val (.ref b16), .val (.int (2 : Int32)), .val (.int (4 : Int32)), .val (.int (Int32.ofNat nk3))] [])) _
  refine Goes.by (fun _ k => XS.goto X24.here hx rfl (pc0 := 123) (pc' := 87) rfl (hb hby d1_123) (by decide) (by decide) k) ?_
  show Goes p.tables e below (T24.setTop (mkF m 87 #[.val (.ref oa), .val (.ref ob), .val (.int (3 : Int32)), .val (.ref oc), .val (.ref b1), .val (.ref b16), .val (.int (2 : Int32)), .val (.int (4 : Int32)), .val (.int (Int32.ofNat nk3))] [])) _
  refine Goes.by (fun _ k => XS.iload X24.here hx rfl (hb hby d1_87) rfl k) ?_
  show Goes p.tables e below (T24.setTop (mkF m 89 #[.val (.ref oa), .val (.ref ob), .val (.int (3 : Int32)), .val (.ref oc), .val (.ref b1), .val (.ref b16), .val (.int (2 : Int32)), .val (.int (4 : Int32)), .val (.int (Int32.ofNat nk3))] [(.int (2 : Int32))])) _
  refine Goes.by (fun _ k => XS.aloadN X24.here hx rfl (hb hby d1_89) rfl rfl k) ?_
  show Goes p.tables e below (T24.setTop (mkF m 90 #[.val (.ref oa), .val (.ref ob), .val (.int (3 : Int32)), .val (.ref oc), .val (.ref b1), .val (.ref b16), .val (.int (2 : Int32)), .val (.int (4 : Int32)), .val (.int (Int32.ofNat nk3))] [(.ref oa), (.int (2 : Int32))])) _
  refine Goes.by (fun _ k => alen (z := (4 : Int32)) (fr := (mkF m 90 #[.val (.ref oa), .val (.ref ob), .val (.int (3 : Int32)), .val (.ref oc), .val (.ref b1), .val (.ref b16), .val (.int (2 : Int32)), .val (.int (4 : Int32)), .val (.int (Int32.ofNat nk3))] [(.ref oa), (.int (2 : Int32))])) X24 hx hZ e24 A_oa (by decide) rfl rfl (hb hby d1_90) k) ?_
  show Goes p.tables e below (T24.setTop (mkF m 91 #[.val (.ref oa), .val (.ref ob), .val (.int (3 : Int32)), .val (.ref oc), .val (.ref b1), .val (.ref b16), .val (.int (2 : Int32)), .val (.int (4 : Int32)), .val (.int (Int32.ofNat nk3))] [(.int (4 : Int32)), (.int (2 : Int32))])) _
  refine Goes.by (fun _ k => XS.icmpNo X24.here hx rfl (hb hby d1_91) rfl (tlt (by decide : (2 : Int32) < (4 : Int32))).2.1 k) ?_
  show Goes p.tables e below (T24.setTop (mkF m 94 #[.val (.ref oa), .val (.ref ob), .val (.int (3 : Int32)), .val (.ref oc), .val (.ref b1), .val (.ref b16), .val (.int (2 : Int32)), .val (.int (4 : Int32)), .val (.int (Int32.ofNat nk3))] [])) _
  refine Goes.by (fun _ k => XS.aloadN X24.here hx rfl (hb hby d1_94) rfl rfl k) ?_
  show Goes p.tables e below (T24.setTop (mkF m 95 #[.val (.ref oa), .val (.ref ob), .val (.int (3 : Int32)), .val (.ref oc), .val (.ref b1), .val (.ref b16), .val (.int (2 : Int32)), .val (.int (4 : Int32)), .val (.int (Int32.ofNat nk3))] [(.ref oc)])) _
  refine Goes.by (fun _ k => XS.aload X24.here hx rfl (hb hby d1_95) rfl rfl k) ?_
  show Goes p.tables e below (T24.setTop (mkF m 97 #[.val (.ref oa), .val (.ref ob), .val (.int (3 : Int32)), .val (.ref oc), .val (.ref b1), .val (.ref b16), .val (.int (2 : Int32)), .val (.int (4 : Int32)), .val (.int (Int32.ofNat nk3))] [(.ref b1), (.ref oc)])) _
  refine Goes.by (fun _ k => XS.aloadN X24.here hx rfl (hb hby d1_97) rfl rfl k) ?_
  show Goes p.tables e below (T24.setTop (mkF m 98 #[.val (.ref oa), .val (.ref ob), .val (.int (3 : Int32)), .val (.ref oc), .val (.ref b1), .val (.ref b16), .val (.int (2 : Int32)), .val (.int (4 : Int32)), .val (.int (Int32.ofNat nk3))] [(.ref ob), (.ref b1), (.ref oc)])) _
  refine Goes.by (fun _ k => XS.iload X24.here hx rfl (hb hby d1_98) rfl k) ?_
  show Goes p.tables e below (T24.setTop (mkF m 100 #[.val (.ref oa), .val (.ref ob), .val (.int (3 : Int32)), .val (.ref oc), .val (.ref b1), .val (.ref b16), .val (.int (2 : Int32)), .val (.int (4 : Int32)), .val (.int (Int32.ofNat nk3))] [(.int (2 : Int32)), (.ref ob), (.ref b1), (.ref oc)])) _
  refine Goes.by (fun _ k => ldI (v := (Int32.ofNat nk2)) (fr := (mkF m 100 #[.val (.ref oa), .val (.ref ob), .val (.int (3 : Int32)), .val (.ref oc), .val (.ref b1), .val (.ref b16), .val (.int (2 : Int32)), .val (.int (4 : Int32)), .val (.int (Int32.ofNat nk3))] [(.int (2 : Int32)), (.ref ob), (.ref b1), (.ref oc)])) X24 hx hZ e24 A_ob (i := 2) (by decide) (by decide) rfl rfl rfl (hb hby d1_100) k) ?_
  show Goes p.tables e below (T24.setTop (mkF m 101 #[.val (.ref oa), .val (.ref ob), .val (.int (3 : Int32)), .val (.ref oc), .val (.ref b1), .val (.ref b16), .val (.int (2 : Int32)), .val (.int (4 : Int32)), .val (.int (Int32.ofNat nk3))] [(.int (Int32.ofNat nk2)), (.ref b1), (.ref oc)])) _
  refine Goes.by (fun _ k => ldI (v := ((own_pre 3 nk0 nk1 nk2 nk3) nk2)) (fr := (mkF m 101 #[.val (.ref oa), .val (.ref ob), .val (.int (3 : Int32)), .val (.ref oc), .val (.ref b1), .val (.ref b16), .val (.int (2 : Int32)), .val (.int (4 : Int32)), .val (.int (Int32.ofNat nk3))] [(.int (Int32.ofNat nk2)), (.ref b1), (.ref oc)])) X24 hx hZ e24 A_b1 (i := nk2) (own_i0 nk2 (Nat.lt_trans hnk2 (by decide))) (Nat.lt_succ_of_lt hnk2) rfl rfl rfl (hb hby d1_101) k) ?_
  show Goes p.tables e below (T24.setTop (mkF m 102 #[.val (.ref oa), .val (.ref ob), .val (.int (3 : Int32)), .val (.ref oc), .val (.ref b1), .val (.ref b16), .val (.int (2 : Int32)), .val (.int (4 : Int32)), .val (.int (Int32.ofNat nk3))] [(.int ((own_pre 3 nk0 nk1 nk2 nk3) nk2)), (.ref oc)])) _
  refine Goes.by (fun _ k => XS.aload X24.here hx rfl (hb hby d1_102) rfl rfl k) ?_
  show Goes p.tables e below (T24.setTop (mkF m 104 #[.val (.ref oa), .val (.ref ob), .val (.int (3 : Int32)), .val (.ref oc), .val (.ref b1), .val (.ref b16), .val (.int (2 : Int32)), .val (.int (4 : Int32)), .val (.int (Int32.ofNat nk3))] [(.ref b16), (.int ((own_pre 3 nk0 nk1 nk2 nk3) nk2)), (.ref oc)])) _
  refine Goes.by (fun _ k => XS.aloadN X24.here hx rfl (hb hby d1_104) rfl rfl k) ?_
  show Goes p.tables e below (T24.setTop (mkF m 105 #[.val (.ref oa), .val (.ref ob), .val (.int (3 : Int32)), .val (.ref oc), .val (.ref b1), .val (.ref b16), .val (.int (2 : Int32)), .val (.int (4 : Int32)), .val (.int (Int32.ofNat nk3))] [(.ref ob), (.ref b16), (.int ((own_pre 3 nk0 nk1 nk2 nk3) nk2)), (.ref oc)])) _
  refine Goes.by (fun _ k => XS.iload X24.here hx rfl (hb hby d1_105) rfl k) ?_
  show Goes p.tables e below (T24.setTop (mkF m 107 #[.val (.ref oa), .val (.ref ob), .val (.int (3 : Int32)), .val (.ref oc), .val (.ref b1), .val (.ref b16), .val (.int (2 : Int32)), .val (.int (4 : Int32)), .val (.int (Int32.ofNat nk3))] [(.int (2 : Int32)), (.ref ob), (.ref b16), (.int ((own_pre 3 nk0 nk1 nk2 nk3) nk2)), (.ref oc)])) _
  refine Goes.by (fun _ k => ldI (v := (Int32.ofNat nk2)) (fr := (mkF m 107 #[.val (.ref oa), .val (.ref ob), .val (.int (3 : Int32)), .val (.ref oc), .val (.ref b1), .val (.ref b16), .val (.int (2 : Int32)), .val (.int (4 : Int32)), .val (.int (Int32.ofNat nk3))] [(.int (2 : Int32)), (.ref ob), (.ref b16), (.int ((own_pre 3 nk0 nk1 nk2 nk3) nk2)), (.ref oc)])) X24 hx hZ e24 A_ob (i := 2) (by decide) (by decide) rfl rfl rfl (hb hby d1_107) k) ?_
  show Goes p.tables e below (T24.setTop (mkF m 108 #[.val (.ref oa), .val (.ref ob), .val (.int (3 : Int32)), .val (.ref oc), .val (.ref b1), .val (.ref b16), .val (.int (2 : Int32)), .val (.int (4 : Int32)), .val (.int (Int32.ofNat nk3))] [(.int (Int32.ofNat nk2)), (.ref b16), (.int ((own_pre 3 nk0 nk1 nk2 nk3) nk2)), (.ref oc)])) _
  have sd25 : ∀ u, Steps p.tables e below (T24.setTop (mkF m 109 #[.val (.ref oa), .val (.ref ob), .val (.int (3 : Int32)), .val (.ref oc), .val (.ref b1), .val (.ref b16), .val (.int (2 : Int32)), .val (.int (4 : Int32)), .val (.int (Int32.ofNat nk3))] [(.int (Int32.ofNat nk2)), (.ref b16), (.int (Int32.ofNat nk2)), (.ref b16), (.int ((own_pre 3 nk0 nk1 nk2 nk3) nk2)), (.ref oc)])) u → Steps p.tables e below (T24.setTop (mkF m 108 #[.val (.ref oa), .val (.ref ob), .val (.int (3 : Int32)), .val (.ref oc), .val (.ref b1), .val (.ref b16), .val (.int (2 : Int32)), .val (.int (4 : Int32)), .val (.int (Int32.ofNat nk3))] [(.int (Int32.ofNat nk2)), (.ref b16), (.int ((own_pre 3 nk0 nk1 nk2 nk3) nk2)), (.ref oc)])) u := by
    intro u k
    jvm_step X24.here [X24.here.top, hx, (hb hby d1_108), Value.category]
    exact k
  refine Goes.by (fun _ k => sd25 _ k) ?_
  show Goes p.tables e below (T24.setTop (mkF m 109 #[.val (.ref oa), .val (.ref ob), .val (.int (3 : Int32)), .val (.ref oc), .val (.ref b1), .val (.ref b16), .val (.int (2 : Int32)), .val (.int (4 : Int32)), .val (.int (Int32.ofNat nk3))] [(.int (Int32.ofNat nk2)), (.ref b16), (.int (Int32.ofNat nk2)), (.ref b16), (.int ((own_pre 3 nk0 nk1 nk2 nk3) nk2)), (.ref oc)])) _
  refine Goes.by (fun _ k => ldI (v := ((own_nx2 nk0 nk1 nk2 nk3) nk2)) (fr := (mkF m 109 #[.val (.ref oa), .val (.ref ob), .val (.int (3 : Int32)), .val (.ref oc), .val (.ref b1), .val (.ref b16), .val (.int (2 : Int32)), .val (.int (4 : Int32)), .val (.int (Int32.ofNat nk3))] [(.int (Int32.ofNat nk2)), (.ref b16), (.int (Int32.ofNat nk2)), (.ref b16), (.int ((own_pre 3 nk0 nk1 nk2 nk3) nk2)), (.ref oc)])) X24 hx hZ e24 A_b16 (i := nk2) (own_i0 nk2 (Nat.lt_trans hnk2 (by decide))) hnk2 rfl rfl rfl (hb hby d1_109) k) ?_
  show Goes p.tables e below (T24.setTop (mkF m 110 #[.val (.ref oa), .val (.ref ob), .val (.int (3 : Int32)), .val (.ref oc), .val (.ref b1), .val (.ref b16), .val (.int (2 : Int32)), .val (.int (4 : Int32)), .val (.int (Int32.ofNat nk3))] [(.int ((own_nx2 nk0 nk1 nk2 nk3) nk2)), (.int (Int32.ofNat nk2)), (.ref b16), (.int ((own_pre 3 nk0 nk1 nk2 nk3) nk2)), (.ref oc)])) _
  have sd26 : ∀ u, Steps p.tables e below (T24.setTop (mkF m 111 #[.val (.ref oa), .val (.ref ob), .val (.int (3 : Int32)), .val (.ref oc), .val (.ref b1), .val (.ref b16), .val (.int (2 : Int32)), .val (.int (4 : Int32)), .val (.int (Int32.ofNat nk3))] [(.int ((own_nx2 nk0 nk1 nk2 nk3) nk2)), (.int (Int32.ofNat nk2)), (.ref b16), (.int ((own_nx2 nk0 nk1 nk2 nk3) nk2)), (.int ((own_pre 3 nk0 nk1 nk2 nk3) nk2)), (.ref oc)])) u → Steps p.tables e below (T24.setTop (mkF m 110 #[.val (.ref oa), .val (.ref ob), .val (.int (3 : Int32)), .val (.ref oc), .val (.ref b1), .val (.ref b16), .val (.int (2 : Int32)), .val (.int (4 : Int32)), .val (.int (Int32.ofNat nk3))] [(.int ((own_nx2 nk0 nk1 nk2 nk3) nk2)), (.int (Int32.ofNat nk2)), (.ref b16), (.int ((own_pre 3 nk0 nk1 nk2 nk3) nk2)), (.ref oc)])) u := by
    intro u k
    jvm_step X24.here [X24.here.top, hx, (hb hby d1_110), Value.category]
    exact k
  refine Goes.by (fun _ k => sd26 _ k) ?_
  show Goes p.tables e below (T24.setTop (mkF m 111 #[.val (.ref oa), .val (.ref ob), .val (.int (3 : Int32)), .val (.ref oc), .val (.ref b1), .val (.ref b16), .val (.int (2 : Int32)), .val (.int (4 : Int32)), .val (.int (Int32.ofNat nk3))] [(.int ((own_nx2 nk0 nk1 nk2 nk3) nk2)), (.int (Int32.ofNat nk2)), (.ref b16), (.int ((own_nx2 nk0 nk1 nk2 nk3) nk2)), (.int ((own_pre 3 nk0 nk1 nk2 nk3) nk2)), (.ref oc)])) _
  refine Goes.by (fun _ k => XS.iconst X24.here hx rfl (hb hby d1_111) k) ?_
  show Goes p.tables e below (T24.setTop (mkF m 112 #[.val (.ref oa), .val (.ref ob), .val (.int (3 : Int32)), .val (.ref oc), .val (.ref b1), .val (.ref b16), .val (.int (2 : Int32)), .val (.int (4 : Int32)), .val (.int (Int32.ofNat nk3))] [(.int (1 : Int32)), (.int ((own_nx2 nk0 nk1 nk2 nk3) nk2)), (.int (Int32.ofNat nk2)), (.ref b16), (.int ((own_nx2 nk0 nk1 nk2 nk3) nk2)), (.int ((own_pre 3 nk0 nk1 nk2 nk3) nk2)), (.ref oc)])) _
  refine Goes.by (fun _ k => XS.iadd X24.here hx rfl (hb hby d1_112) rfl k) ?_
  show Goes p.tables e below (T24.setTop (mkF m 113 #[.val (.ref oa), .val (.ref ob), .val (.int (3 : Int32)), .val (.ref oc), .val (.ref b1), .val (.ref b16), .val (.int (2 : Int32)), .val (.int (4 : Int32)), .val (.int (Int32.ofNat nk3))] [(.int (((own_nx2 nk0 nk1 nk2 nk3) nk2) + (1 : Int32))), (.int (Int32.ofNat nk2)), (.ref b16), (.int ((own_nx2 nk0 nk1 nk2 nk3) nk2)), (.int ((own_pre 3 nk0 nk1 nk2 nk3) nk2)), (.ref oc)])) _
  obtain ⟨T27, h27, X27, e27, W27, A27, st27⟩ := stAI (fr := (mkF m 113 #[.val (.ref oa), .val (.ref ob), .val (.int (3 : Int32)), .val (.ref oc), .val (.ref b1), .val (.ref b16), .val (.int (2 : Int32)), .val (.int (4 : Int32)), .val (.int (Int32.ofNat nk3))] [(.int (((own_nx2 nk0 nk1 nk2 nk3) nk2) + (1 : Int32))), (.int (Int32.ofNat nk2)), (.ref b16), (.int ((own_nx2 nk0 nk1 nk2 nk3) nk2)), (.int ((own_pre 3 nk0 nk1 nk2 nk3) nk2)), (.ref oc)])) X24 hx hZ e24 A_b16 (i := nk2) (own_i0 nk2 (Nat.lt_trans hnk2 (by decide))) hnk2 rfl rfl (hb hby d1_113)
  refine Goes.by st27 ?_
  have A_b16 : AI Z h27 b16 .int 3 (own_nx3 nk0 nk1 nk2 nk3) := A27.congr (fun j hj => own_g3_3 ⟨nk0, hnk0⟩ ⟨nk1, hnk1⟩ ⟨nk2, hnk2⟩ ⟨nk3, hnk3⟩ ⟨j, hj⟩)
  have N27 := Fr.snoc X27 N24 g_b16
  have Zs27 : n0 ≤ h27.size := Nat.le_trans Zs24 (Keep.of_wr W27).1
  have K27 : Keep h0 h27 [oc] := K24.wr W27 (Or.inr sz_b16)
  have A_oa : AI Z h27 oa .int 4 pa := A_oa.other W27 ne_oa_b16
  have A_ob : AI Z h27 ob .int 4 (own_keys nk0 nk1 nk2 nk3) := A_ob.other W27 ne_ob_b16
  have A_oc : AI Z h27 oc .int 4 (up (up (fun _ => (0 : Int32)) (own_rank0 nk0 nk1 nk2 nk3) (pa 0)) (own_rank1 nk0 nk1 nk2 nk3) (pa 1)) := A_oc.other W27 ne_oc_b16
  have A_b1 : AI Z h27 b1 .int 4 (own_pre 3 nk0 nk1 nk2 nk3) := A_b1.other W27 ne_b1_b16
  show Goes p.tables e below (T27.setTop (mkF m 114 #[.val (.ref oa), .val (.ref ob), .val (.int (3 : Int32)), .val (.ref oc), .val (.ref b1), .val (.ref b16), .val (.int (2 : Int32)), .val (.int (4 : Int32)), .val (.int (Int32.ofNat nk3))] [(.int ((own_nx2 nk0 nk1 nk2 nk3) nk2)), (.int ((own_pre 3 nk0 nk1 nk2 nk3) nk2)), (.ref oc)])) _
  refine Goes.by (fun _ k => XS.iadd X27.here hx rfl (hb hby d1_114) rfl k) ?_
  show Goes p.tables e below (T27.setTop (mkF m 115 #[.val (.ref oa), .val (.ref ob), .val (.int (3 : Int32)), .val (.ref oc), .val (.ref b1), .val (.ref b16), .val (.int (2 : Int32)), .val (.int (4 : Int32)), .val (.int (Int32.ofNat nk3))] [(.int (((own_pre 3 nk0 nk1 nk2 nk3) nk2) + ((own_nx2 nk0 nk1 nk2 nk3) nk2))), (.ref oc)])) _
  refine Goes.by (fun _ k => XS.aloadN X27.here hx rfl (hb hby d1_115) rfl rfl k) ?_
  show Goes p.tables e below (T27.setTop (mkF m 116 #[.val (.ref oa), .val (.ref ob), .val (.int (3 : Int32)), .val (.ref oc), .val (.ref b1), .val (.ref b16), .val (.int (2 : Int32)), .val (.int (4 : Int32)), .val (.int (Int32.ofNat nk3))] [(.ref oa), (.int (((own_pre 3 nk0 nk1 nk2 nk3) nk2) + ((own_nx2 nk0 nk1 nk2 nk3) nk2))), (.ref oc)])) _
  refine Goes.by (fun _ k => XS.iload X27.here hx rfl (hb hby d1_116) rfl k) ?_
  show Goes p.tables e below (T27.setTop (mkF m 118 #[.val (.ref oa), .val (.ref ob), .val (.int (3 : Int32)), .val (.ref oc), .val (.ref b1), .val (.ref b16), .val (.int (2 : Int32)), .val (.int (4 : Int32)), .val (.int (Int32.ofNat nk3))] [(.int (2 : Int32)), (.ref oa), (.int (((own_pre 3 nk0 nk1 nk2 nk3) nk2) + ((own_nx2 nk0 nk1 nk2 nk3) nk2))), (.ref oc)])) _
  refine Goes.by (fun _ k => ldI (v := (pa 2)) (fr := (mkF m 118 #[.val (.ref oa), .val (.ref ob), .val (.int (3 : Int32)), .val (.ref oc), .val (.ref b1), .val (.ref b16), .val (.int (2 : Int32)), .val (.int (4 : Int32)), .val (.int (Int32.ofNat nk3))] [(.int (2 : Int32)), (.ref oa), (.int (((own_pre 3 nk0 nk1 nk2 nk3) nk2) + ((own_nx2 nk0 nk1 nk2 nk3) nk2))), (.ref oc)])) X27 hx hZ e27 A_oa (i := 2) (by decide) (by decide) rfl rfl rfl (hb hby d1_118) k) ?_
  show Goes p.tables e below (T27.setTop (mkF m 119 #[.val (.ref oa), .val (.ref ob), .val (.int (3 : Int32)), .val (.ref oc), .val (.ref b1), .val (.ref b16), .val (.int (2 : Int32)), .val (.int (4 : Int32)), .val (.int (Int32.ofNat nk3))] [(.int (pa 2)), (.int (((own_pre 3 nk0 nk1 nk2 nk3) nk2) + ((own_nx2 nk0 nk1 nk2 nk3) nk2))), (.ref oc)])) _
  obtain ⟨T28, h28, X28, e28, W28, A28, st28⟩ := stAI (fr := (mkF m 119 #[.val (.ref oa), .val (.ref ob), .val (.int (3 : Int32)), .val (.ref oc), .val (.ref b1), .val (.ref b16), .val (.int (2 : Int32)), .val (.int (4 : Int32)), .val (.int (Int32.ofNat nk3))] [(.int (pa 2)), (.int (((own_pre 3 nk0 nk1 nk2 nk3) nk2) + ((own_nx2 nk0 nk1 nk2 nk3) nk2))), (.ref oc)])) X27 hx hZ e27 A_oc (i := (own_rank2 nk0 nk1 nk2 nk3)) (own_pl3_2 ⟨nk0, hnk0⟩ ⟨nk1, hnk1⟩ ⟨nk2, hnk2⟩ ⟨nk3, hnk3⟩).1 (own_pl3_2 ⟨nk0, hnk0⟩ ⟨nk1, hnk1⟩ ⟨nk2, hnk2⟩ ⟨nk3, hnk3⟩).2 rfl rfl (hb hby d1_119)
  refine Goes.by st28 ?_
  have A_oc : AI Z h28 oc .int 4 (up (up (up (fun _ => (0 : Int32)) (own_rank0 nk0 nk1 nk2 nk3) (pa 0)) (own_rank1 nk0 nk1 nk2 nk3) (pa 1)) (own_rank2 nk0 nk1 nk2 nk3) (pa 2)) := A28
  have N28 := Fr.snoc X28 N27 g_oc
  have Zs28 : n0 ≤ h28.size := Nat.le_trans Zs27 (Keep.of_wr W28).1
  have K28 : Keep h0 h28 [oc] := K27.wr W28 (Or.inl (List.mem_of_getElem? (i := 0) rfl))
  have A_oa : AI Z h28 oa .int 4 pa := A_oa.other W28 ne_oa_oc
  have A_ob : AI Z h28 ob .int 4 (own_keys nk0 nk1 nk2 nk3) := A_ob.other W28 ne_ob_oc
  have A_b1 : AI Z h28 b1 .int 4 (own_pre 3 nk0 nk1 nk2 nk3) := A_b1.other W28 (Ne.symm ne_oc_b1)
  have A_b16 : AI Z h28 b16 .int 3 (own_nx3 nk0 nk1 nk2 nk3) := A_b16.other W28 (Ne.symm ne_oc_b16)
  show Goes p.tables e below (T28.setTop (mkF m 120 #[.val (.ref oa), .val (.ref ob), .val (.int (3 : Int32)), .val (.ref oc), .val (.ref b1), .val (.ref b16), .val (.int (2 : Int32)), .val (.int (4 : Int32)), .val (.int (Int32.ofNat nk3))] [])) _
  refine Goes.by (fun _ k => XS.iinc X28.here hx rfl (hb hby d1_120) rfl (l' := #[.val (.ref oa), .val (.ref ob), .val (.int (3 : Int32)), .val (.ref oc), .val (.ref b1), .val (.ref b16), .val (.int (3 : Int32)), .val (.int (4 : Int32)), .val (.int (Int32.ofNat nk3))]) rfl k) ?_
  show Goes p.tables e below (T28.setTop (mkF m 123 #[.val (.ref oa), .val (.ref ob), .val (.int (3 : Int32)), .val (.ref oc), .val (.ref b1), .val (.ref b16), .val (.int (3 : Int32)), .val (.int (4 : Int32)), .val (.int (Int32.ofNat nk3))] [])) _
  refine Goes.by (fun _ k => XS.goto X28.here hx rfl (pc0 := 123) (pc' := 87) rfl (hb hby d1_123) (by decide) (by decide) k) ?_
  show Goes p.tables e below (T28.setTop (mkF m 87 #[.val (.ref oa), .val (.ref ob), .val (.int (3 : Int32)), .val (.ref oc), .val (.ref b1), .val (.ref b16), .val (.int (3 : Int32)), .val (.int (4 : Int32)), .val (.int (Int32.ofNat nk3))] [])) _
  refine Goes.by (fun _ k => XS.iload X28.here hx rfl (hb hby d1_87) rfl k) ?_
  show Goes p.tables e below (T28.setTop (mkF m 89 #[.val (.ref oa), .val (.ref ob), .val (.int (3 : Int32)), .val (.ref oc), .val (.ref b1), .val (.ref b16), .val (.int (3 : Int32)), .val (.int (4 : Int32)), .val (.int (Int32.ofNat nk3))] [(.int (3 : Int32))])) _
  refine Goes.by (fun _ k => XS.aloadN X28.here hx rfl (hb hby d1_89) rfl rfl k) ?_
  show Goes p.tables e below (T28.setTop (mkF m 90 #[.val (.ref oa), .val (.ref ob), .val (.int (3 : Int32)), .val (.ref oc), .val (.ref b1), .val (.ref b16), .val (.int (3 : Int32)), .val (.int (4 : Int32)), .val (.int (Int32.ofNat nk3))] [(.ref oa), (.int (3 : Int32))])) _
  refine Goes.by (fun _ k => alen (z := (4 : Int32)) (fr := (mkF m 90 #[.val (.ref oa), .val (.ref ob), .val (.int (3 : Int32)), .val (.ref oc), .val (.ref b1), .val (.ref b16), .val (.int (3 : Int32)), .val (.int (4 : Int32)), .val (.int (Int32.ofNat nk3))] [(.ref oa), (.int (3 : Int32))])) X28 hx hZ e28 A_oa (by decide) rfl rfl (hb hby d1_90) k) ?_
  show Goes p.tables e below (T28.setTop (mkF m 91 #[.val (.ref oa), .val (.ref ob), .val (.int (3 : Int32)), .val (.ref oc), .val (.ref b1), .val (.ref b16), .val (.int (3 : Int32)), .val (.int (4 : Int32)), .val (.int (Int32.ofNat nk3))] [(.int (4 : Int32)), (.int (3 : Int32))])) _
  refine Goes.by (fun _ k => XS.icmpNo X28.here hx rfl (hb hby d1_91) rfl (tlt (by decide : (3 : Int32) < (4 : Int32))).2.1 k) ?_
  show Goes p.tables e below (T28.setTop (mkF m 94 #[.val (.ref oa), .val (.ref ob), .val (.int (3 : Int32)), .val (.ref oc), .val (.ref b1), .val (.ref b16), .val (.int (3 : Int32)), .val (.int (4 : Int32)), .val (.int (Int32.ofNat nk3))] [])) _
  refine Goes.by (fun _ k => XS.aloadN X28.here hx rfl (hb hby d1_94) rfl rfl k) ?_
  show Goes p.tables e below (T28.setTop (mkF m 95 #[.val (.ref oa), .val (.ref ob), .val (.int (3 : Int32)), .val (.ref oc), .val (.ref b1), .val (.ref b16), .val (.int (3 : Int32)), .val (.int (4 : Int32)), .val (.int (Int32.ofNat nk3))] [(.ref oc)])) _
  refine Goes.by (fun _ k => XS.aload X28.here hx rfl (hb hby d1_95) rfl rfl k) ?_
  show Goes p.tables e below (T28.setTop (mkF m 97 #[.val (.ref oa), .val (.ref ob), .val (.int (3 : Int32)), .val (.ref oc), .val (.ref b1), .val (.ref b16), .val (.int (3 : Int32)), .val (.int (4 : Int32)), .val (.int (Int32.ofNat nk3))] [(.ref b1), (.ref oc)])) _
  refine Goes.by (fun _ k => XS.aloadN X28.here hx rfl (hb hby d1_97) rfl rfl k) ?_
  show Goes p.tables e below (T28.setTop (mkF m 98 #[.val (.ref oa), .val (.ref ob), .val (.int (3 : Int32)), .val (.ref oc), .val (.ref b1), .val (.ref b16), .val (.int (3 : Int32)), .val (.int (4 : Int32)), .val (.int (Int32.ofNat nk3))] [(.ref ob), (.ref b1), (.ref oc)])) _
  refine Goes.by (fun _ k => XS.iload X28.here hx rfl (hb hby d1_98) rfl k) ?_
  show Goes p.tables e below (T28.setTop (mkF m 100 #[.val (.ref oa), .val (.ref ob), .val (.int (3 : Int32)), .val (.ref oc), .val (.ref b1), .val (.ref b16), .val (.int (3 : Int32)), .val (.int (4 : Int32)), .val (.int (Int32.ofNat nk3))] [(.int (3 : Int32)), (.ref ob), (.ref b1), (.ref oc)])) _
  refine Goes.by (fun _ k => ldI (v := (Int32.ofNat nk3)) (fr := (mkF m 100 #[.val (.ref oa), .val (.ref ob), .val (.int (3 : Int32)), .val (.ref oc), .val (.ref b1), .val (.ref b16), .val (.int (3 : Int32)), .val (.int (4 : Int32)), .val (.int (Int32.ofNat nk3))] [(.int (3 : Int32)), (.ref ob), (.ref b1), (.ref oc)])) X28 hx hZ e28 A_ob (i := 3) (by decide) (by decide) rfl rfl rfl (hb hby d1_100) k) ?_
  show Goes p.tables e below (T28.setTop (mkF m 101 #[.val (.ref oa), .val (.ref ob), .val (.int (3 : Int32)), .val (.ref oc), .val (.ref b1), .val (.ref b16), .val (.int (3 : Int32)), .val (.int (4 : Int32)), .val (.int (Int32.ofNat nk3))] [(.int (Int32.ofNat nk3)), (.ref b1), (.ref oc)])) _
  refine Goes.by (fun _ k => ldI (v := ((own_pre 3 nk0 nk1 nk2 nk3) nk3)) (fr := (mkF m 101 #[.val (.ref oa), .val (.ref ob), .val (.int (3 : Int32)), .val (.ref oc), .val (.ref b1), .val (.ref b16), .val (.int (3 : Int32)), .val (.int (4 : Int32)), .val (.int (Int32.ofNat nk3))] [(.int (Int32.ofNat nk3)), (.ref b1), (.ref oc)])) X28 hx hZ e28 A_b1 (i := nk3) (own_i0 nk3 (Nat.lt_trans hnk3 (by decide))) (Nat.lt_succ_of_lt hnk3) rfl rfl rfl (hb hby d1_101) k) ?_
  show Goes p.tables e below (T28.setTop (mkF m 102 #[.val (.ref oa), .val (.ref ob), .val (.int (3 : Int32)), .val (.ref oc), .val (.ref b1), .val (.ref b16), .val (.int (3 : Int32)), .val (.int (4 : Int32)), .val (.int (Int32.ofNat nk3))] [(.int ((own_pre 3 nk0 nk1 nk2 nk3) nk3)), (.ref oc)])) _
  refine Goes.by (fun _ k => XS.aload X28.here hx rfl (hb hby d1_102) rfl rfl k) ?_
  show Goes p.tables e below (T28.setTop (mkF m 104 #[.val (.ref oa), .val (.ref ob), .val (.int (3 : Int32)), .val (.ref oc), .val (.ref b1), .val (.ref b16), .val (.int (3 : Int32)), .val (.int (4 : Int32)), .val (.int (Int32.ofNat nk3))] [(.ref b16), (.int ((own_pre 3 nk0 nk1 nk2 nk3) nk3)), (.ref oc)])) _
  refine Goes.by (fun _ k => XS.aloadN X28.here hx rfl (hb hby d1_104) rfl rfl k) ?_
  show Goes p.tables e below (T28.setTop (mkF m 105 #[.val (.ref oa), .val (.ref ob), .val (.int (3 : Int32)), .val (.ref oc), .val (.ref b1), .val (.ref b16), .val (.int (3 : Int32)), .val (.int (4 : Int32)), .val (.int (Int32.ofNat nk3))] [(.ref ob), (.ref b16), (.int ((own_pre 3 nk0 nk1 nk2 nk3) nk3)), (.ref oc)])) _
  refine Goes.by (fun _ k => XS.iload X28.here hx rfl (hb hby d1_105) rfl k) ?_
  show Goes p.tables e below (T28.setTop (mkF m 107 #[.val (.ref oa), .val (.ref ob), .val (.int (3 : Int32)), .val (.ref oc), .val (.ref b1), .val (.ref b16), .val (.int (3 : Int32)), .val (.int (4 : Int32)), .val (.int (Int32.ofNat nk3))] [(.int (3 : Int32)), (.ref ob), (.ref b16), (.int ((own_pre 3 nk0 nk1 nk2 nk3) nk3)), (.ref oc)])) _
  refine Goes.by (fun _ k => ldI (v := (Int32.ofNat nk3)) (fr := (mkF m 107 #[.val (.ref oa), .val (.ref ob), .val (.int (3 : Int32)), .val (.ref oc), .val (.ref b1), .val (.ref b16), .val (.int (3 : Int32)), .val (.int (4 : Int32)), .val (.int (Int32.ofNat nk3))] [(.int (3 : Int32)), (.ref ob), (.ref b16), (.int ((own_pre 3 nk0 nk1 nk2 nk3) nk3)), (.ref oc)])) X28 hx hZ e28 A_ob (i := 3) (by decide) (by decide) rfl rfl rfl (hb hby d1_107) k) ?_
  show Goes p.tables e below (T28.setTop (mkF m 108 #[.val (.ref oa), .val (.ref ob), .val (.int (3 : Int32)), .val (.ref oc), .val (.ref b1), .val (.ref b16), .val (.int (3 : Int32)), .val (.int (4 : Int32)), .val (.int (Int32.ofNat nk3))] [(.int (Int32.ofNat nk3)), (.ref b16), (.int ((own_pre 3 nk0 nk1 nk2 nk3) nk3)), (.ref oc)])) _
  have sd29 : ∀ u, Steps p.tables e below (T28.setTop (mkF m 109 #[.val (.ref oa), .val (.ref ob), .val (.int (3 : Int32)), .val (.ref oc), .val (.ref b1), .val (.ref b16), .val (.int (3 : Int32)), .val (.int (4 : Int32)), .val (.int (Int32.ofNat nk3))] [(.int (Int32.ofNat nk3)), (.ref b16), (.int (Int32.ofNat nk3)), (.ref b16), (.int ((own_pre 3 nk0 nk1 nk2 nk3) nk3)), (.ref oc)])) u → Steps p.tables e below (T28.setTop (mkF m 108 #[.val (.ref oa), .val (.ref ob), .val (.int (3 : Int32)), .val (.ref oc), .val (.ref b1), .val (.ref b16), .val (.int (3 : Int32)), .val (.int (4 : Int32)), .val (.int (Int32.ofNat nk3))] [(.int (Int32.ofNat nk3)), (.ref b16), (.int ((own_pre 3 nk0 nk1 nk2 nk3) nk3)), (.ref oc)])) u := by
    intro u k
    jvm_step X28.here [X28.here.top, hx, (hb hby d1_108), Value.category]
    exact k
  refine Goes.by (fun _ k => sd29 _ k) ?_
  show Goes p.tables e below (T28.setTop (mkF m 109 #[.val (.ref oa), .val (.ref ob), .val (.int (3 : Int32)), .val (.ref oc), .val (.ref b1), .val (.ref b16), .val (.int (3 : Int32)), .val (.int (4 : Int32)), .val (.int (Int32.ofNat nk3))] [(.int (Int32.ofNat nk3)), (.ref b16), (.int (Int32.ofNat nk3)), (.ref b16), (.int ((own_pre 3 nk0 nk1 nk2 nk3) nk3)), (.ref oc)])) _
  refine Goes.by (fun _ k => ldI (v := ((own_nx3 nk0 nk1 nk2 nk3) nk3)) (fr := (mkF m 109 #[.val (.ref oa), .val (.ref ob), .val (.int (3 : Int32)), .val (.ref oc), .val (.ref b1), .val (.ref b16), .val (.int (3 : Int32)), .val (.int (4 : Int32)), .val (.int (Int32.ofNat nk3))] [(.int (Int32.ofNat nk3)), (.ref b16), (.int (Int32.ofNat nk3)), (.ref b16), (.int ((own_pre 3 nk0 nk1 nk2 nk3) nk3)), (.ref oc)])) X28 hx hZ e28 A_b16 (i := nk3) (own_i0 nk3 (Nat.lt_trans hnk3 (by decide))) hnk3 rfl rfl rfl (hb hby d1_109) k) ?_
  show Goes p.tables e below (T28.setTop (mkF m 110 #[.val (.ref oa), .val (.ref ob), .val (.int (3 : Int32)), .val (.ref oc), .val (.ref b1), .val (.ref b16), .val (.int (3 : Int32)), .val (.int (4 : Int32)), .val (.int (Int32.ofNat nk3))] [(.int ((own_nx3 nk0 nk1 nk2 nk3) nk3)), (.int (Int32.ofNat nk3)), (.ref b16), (.int ((own_pre 3 nk0 nk1 nk2 nk3) nk3)), (.ref oc)])) _
  have sd30 : ∀ u, Steps p.tables e below (T28.setTop (mkF m 111 #[.val (.ref oa), .val (.ref ob), .val (.int (3 : Int32)), .val (.ref oc), .val (.ref b1), .val (.ref b16), .val (.int (3 : Int32)), .val (.int (4 : Int32)), .val (.int (Int32.ofNat nk3))] [(.int ((own_nx3 nk0 nk1 nk2 nk3) nk3)), (.int (Int32.ofNat nk3)), (.ref b16), (.int ((own_nx3 nk0 nk1 nk2 nk3) nk3)), (.int ((own_pre 3 nk0 nk1 nk2 nk3) nk3)), (.ref oc)])) u → Steps p.tables e below (T28.setTop (mkF m 110 #[.val (.ref oa), .val (.ref ob), .val (.int (3 : Int32)), .val (.ref oc), .val (.ref b1), .val (.ref b16), .val (.int (3 : Int32)), .val (.int (4 : Int32)), .val (.int (Int32.ofNat nk3))] [(.int ((own_nx3 nk0 nk1 nk2 nk3) nk3)), (.int (Int32.ofNat nk3)), (.ref b16), (.int ((own_pre 3 nk0 nk1 nk2 nk3) nk3)), (.ref oc)])) u := by
    intro u k
    jvm_step X28.here [X28.here.top, hx, (hb hby d1_110), Value.category]
    exact k
  refine Goes.by (fun _ k => sd30 _ k) ?_
  show Goes p.tables e below (T28.setTop (mkF m 111 #[.val (.ref oa), .val (.ref ob), .val (.int (3 : Int32)), .val (.ref oc), .val (.ref b1), .val (.ref b16), .val (.int (3 : Int32)), .val (.int (4 : Int32)), .val (.int (Int32.ofNat nk3))] [(.int ((own_nx3 nk0 nk1 nk2 nk3) nk3)), (.int (Int32.ofNat nk3)), (.ref b16), (.int ((own_nx3 nk0 nk1 nk2 nk3) nk3)), (.int ((own_pre 3 nk0 nk1 nk2 nk3) nk3)), (.ref oc)])) _
  refine Goes.by (fun _ k => XS.iconst X28.here hx rfl (hb hby d1_111) k) ?_
  show Goes p.tables e below (T28.setTop (mkF m 112 #[.val (.ref oa), .val (.ref ob), .val (.int (3 : Int32)), .val (.ref oc), .val (.ref b1), .val (.ref b16), .val (.int (3 : Int32)), .val (.int (4 : Int32)), .val (.int (Int32.ofNat nk3))] [(.int (1 : Int32)), (.int ((own_nx3 nk0 nk1 nk2 nk3) nk3)), (.int (Int32.ofNat nk3)), (.ref b16), (.int ((own_nx3 nk0 nk1 nk2 nk3) nk3)), (.int ((own_pre 3 nk0 nk1 nk2 nk3) nk3)), (.ref oc)])) _
  refine Goes.by (fun _ k => XS.iadd X28.here hx rfl (hb hby d1_112) rfl k) ?_
  show Goes p.tables e below (T28.setTop (mkF m 113 #[.val (.ref oa), .val (.ref ob), .val (.int (3 : Int32)), .val (.ref oc), .val (.ref b1), .val (.ref b16), .val (.int (3 : Int32)), .val (.int (4 : Int32)), .val (.int (Int32.ofNat nk3))] [(.int (((own_nx3 nk0 nk1 nk2 nk3) nk3) + (1 : Int32))), (.int (Int32.ofNat nk3)), (.ref b16), (.int ((own_nx3 nk0 nk1 nk2 nk3) nk3)), (.int ((own_pre 3 nk0 nk1 nk2 nk3) nk3)), (.ref oc)])) _
  obtain ⟨T31, h31, X31, e31, W31, A31, st31⟩ := stAI (fr := (mkF m 113 #[.val (.ref oa), .val (.ref ob), .val (.int (3 : Int32)), .val (.ref oc), .val (.ref b1), .val (.ref b16), .val (.int (3 : Int32)), .val (.int (4 : Int32)), .val (.int (Int32.ofNat nk3))] [(.int (((own_nx3 nk0 nk1 nk2 nk3) nk3) + (1 : Int32))), (.int (Int32.ofNat nk3)), (.ref b16), (.int ((own_nx3 nk0 nk1 nk2 nk3) nk3)), (.int ((own_pre 3 nk0 nk1 nk2 nk3) nk3)), (.ref oc)])) X28 hx hZ e28 A_b16 (i := nk3) (own_i0 nk3 (Nat.lt_trans hnk3 (by decide))) hnk3 rfl rfl (hb hby d1_113)
  refine Goes.by st31 ?_
  have A_b16 : AI Z h31 b16 .int 3 (own_nx4 nk0 nk1 nk2 nk3) := A31.congr (fun j hj => own_g3_4 ⟨nk0, hnk0⟩ ⟨nk1, hnk1⟩ ⟨nk2, hnk2⟩ ⟨nk3, hnk3⟩ ⟨j, hj⟩)
  have N31 := Fr.snoc X31 N28 g_b16
  have Zs31 : n0 ≤ h31.size := Nat.le_trans Zs28 (Keep.of_wr W31).1
  have K31 : Keep h0 h31 [oc] := K28.wr W31 (Or.inr sz_b16)
  have A_oa : AI Z h31 oa .int 4 pa := A_oa.other W31 ne_oa_b16
  have A_ob : AI Z h31 ob .int 4 (own_keys nk0 nk1 nk2 nk3) := A_ob.other W31 ne_ob_b16
  have A_oc : AI Z h31 oc .int 4 (up (up (up (fun _ => (0 : Int32)) (own_rank0 nk0 nk1 nk2 nk3) (pa 0)) (own_rank1 nk0 nk1 nk2 nk3) (pa 1)) (own_rank2 nk0 nk1 nk2 nk3) (pa 2)) := A_oc.other W31 ne_oc_b16
  have A_b1 : AI Z h31 b1 .int 4 (own_pre 3 nk0 nk1 nk2 nk3) := A_b1.other W31 ne_b1_b16
  show Goes p.tables e below (T31.setTop (mkF m 114 #[.val (.ref oa), .val (.ref ob), .val (.int (3 : Int32)), .val (.ref oc), .val (.ref b1), .val (.ref b16), .val (.int (3 : Int32)), .val (.int (4 : Int32)), .val (.int (Int32.ofNat nk3))] [(.int ((own_nx3 nk0 nk1 nk2 nk3) nk3)), (.int ((own_pre 3 nk0 nk1 nk2 nk3) nk3)), (.ref oc)])) _
  refine Goes.by (fun _ k => XS.iadd X31.here hx rfl (hb hby d1_114) rfl k) ?_
  show Goes p.tables e below (T31.setTop (mkF m 115 #[.val (.ref oa), .val (.ref ob), .val (.int (3 : Int32)), .val (.ref oc), .val (.ref b1), .val (.ref b16), .val (.int (3 : Int32)), .val (.int (4 : Int32)), .val (.int (Int32.ofNat nk3))] [(.int (((own_pre 3 nk0 nk1 nk2 nk3) nk3) + ((own_nx3 nk0 nk1 nk2 nk3) nk3))), (.ref oc)])) _
  refine Goes.by (fun _ k => XS.aloadN X31.here hx rfl (hb hby d1_115) rfl rfl k) ?_
  show Goes p.tables e below (T31.setTop (mkF m 116 #[.val (.ref oa), .val (.ref ob), .val (.int (3 : Int32)), .val (.ref oc), .val (.ref b1), .val (.ref b16), .val (.int (3 : Int32)), .val (.int (4 : Int32)), .val (.int (Int32.ofNat nk3))] [(.ref oa), (.int (((own_pre 3 nk0 nk1 nk2 nk3) nk3) + ((own_nx3 nk0 nk1 nk2 nk3) nk3))), (.ref oc)])) _
  refine Goes.by (fun _ k => XS.iload X31.here hx rfl (hb hby d1_116) rfl k) ?_
  show Goes p.tables e below (T31.setTop (mkF m 118 #[.val (.ref oa), .val (.ref ob), .val (.int (3 : Int32)), .val (.ref oc), .val (.ref b1), .val (.ref b16), .val (.int (3 : Int32)), .val (.int (4 : Int32)), .val (.int (Int32.ofNat nk3))] [(.int (3 : Int32)), (.ref oa), (.int (((own_pre 3 nk0 nk1 nk2 nk3) nk3) + ((own_nx3 nk0 nk1 nk2 nk3) nk3))), (.ref oc)])) _
  refine Goes.by (fun _ k => ldI (v := (pa 3)) (fr := (mkF m 118 #[.val (.ref oa), .val (.ref ob), .val (.int (3 : Int32)), .val (.ref oc), .val (.ref b1), .val (.ref b16), .val (.int (3 : Int32)), .val (.int (4 : Int32)), .val (.int (Int32.ofNat nk3))] [(.int (3 : Int32)), (.ref oa), (.int (((own_pre 3 nk0 nk1 nk2 nk3) nk3) + ((own_nx3 nk0 nk1 nk2 nk3) nk3))), (.ref oc)])) X31 hx hZ e31 A_oa (i := 3) (by decide) (by decide) rfl rfl rfl (hb hby d1_118) k) ?_
  show Goes p.tables e below (T31.setTop (mkF m 119 #[.val (.ref oa), .val (.ref ob), .val (.int (3 : Int32)), .val (.ref oc), .val (.ref b1), .val (.ref b16), .val (.int (3 : Int32)), .val (.int (4 : Int32)), .val (.int (Int32.ofNat nk3))] [(.int (pa 3)), (.int (((own_pre 3 nk0 nk1 nk2 nk3) nk3) + ((own_nx3 nk0 nk1 nk2 nk3) nk3))), (.ref oc)])) _
  obtain ⟨T32, h32, X32, e32, W32, A32, st32⟩ := stAI (fr := (mkF m 119 #[.val (.ref oa), .val (.ref ob), .val (.int (3 : Int32)), .val (.ref oc), .val (.ref b1), .val (.ref b16), .val (.int (3 : Int32)), .val (.int (4 : Int32)), .val (.int (Int32.ofNat nk3))] [(.int (pa 3)), (.int (((own_pre 3 nk0 nk1 nk2 nk3) nk3) + ((own_nx3 nk0 nk1 nk2 nk3) nk3))), (.ref oc)])) X31 hx hZ e31 A_oc (i := (own_rank3 nk0 nk1 nk2 nk3)) (own_pl3_3 ⟨nk0, hnk0⟩ ⟨nk1, hnk1⟩ ⟨nk2, hnk2⟩ ⟨nk3, hnk3⟩).1 (own_pl3_3 ⟨nk0, hnk0⟩ ⟨nk1, hnk1⟩ ⟨nk2, hnk2⟩ ⟨nk3, hnk3⟩).2 rfl rfl (hb hby d1_119)
  refine Goes.by st32 ?_
  have A_oc : AI Z h32 oc .int 4 (up (up (up (up (fun _ => (0 : Int32)) (own_rank0 nk0 nk1 nk2 nk3) (pa 0)) (own_rank1 nk0 nk1 nk2 nk3) (pa 1)) (own_rank2 nk0 nk1 nk2 nk3) (pa 2)) (own_rank3 nk0 nk1 nk2 nk3) (pa 3)) := A32
  have N32 := Fr.snoc X32 N31 g_oc
  have Zs32 : n0 ≤ h32.size := Nat.le_trans Zs31 (Keep.of_wr W32).1
  have K32 : Keep h0 h32 [oc] := K31.wr W32 (Or.inl (List.mem_of_getElem? (i := 0) rfl))
  have A_oa : AI Z h32 oa .int 4 pa := A_oa.other W32 ne_oa_oc
  have A_ob : AI Z h32 ob .int 4 (own_keys nk0 nk1 nk2 nk3) := A_ob.other W32 ne_ob_oc
  have A_b1 : AI Z h32 b1 .int 4 (own_pre 3 nk0 nk1 nk2 nk3) := A_b1.other W32 (Ne.symm ne_oc_b1)
  have A_b16 : AI Z h32 b16 .int 3 (own_nx4 nk0 nk1 nk2 nk3) := A_b16.other W32 (Ne.symm ne_oc_b16)
  show Goes p.tables e below (T32.setTop (mkF m 120 #[.val (.ref oa), .val (.ref ob), .val (.int (3 : Int32)), .val (.ref oc), .val (.ref b1), .val (.ref b16), .val (.int (3 : Int32)), .val (.int (4 : Int32)), .val (.int (Int32.ofNat nk3))] [])) _
  refine Goes.by (fun _ k => XS.iinc X32.here hx rfl (hb hby d1_120) rfl (l' := #[.val (.ref oa), .val (.ref ob), .val (.int (3 : Int32)), .val (.ref oc), .val (.ref b1), .val (.ref b16), .val (.int (4 : Int32)), .val (.int (4 : Int32)), .val (.int (Int32.ofNat nk3))]) rfl k) ?_
  show Goes p.tables e below (T32.setTop (mkF m 123 #[.val (.ref oa), .val (.ref ob), .val (.int (3 : Int32)), .val (.ref oc), .val (.ref b1), .val (.ref b16), .val (.int (4 : Int32)), .val (.int (4 : Int32)), .val (.int (Int32.ofNat nk3))] [])) _
  refine Goes.by (fun _ k => XS.goto X32.here hx rfl (pc0 := 123) (pc' := 87) rfl (hb hby d1_123) (by decide) (by decide) k) ?_
  show Goes p.tables e below (T32.setTop (mkF m 87 #[.val (.ref oa), .val (.ref ob), .val (.int (3 : Int32)), .val (.ref oc), .val (.ref b1), .val (.ref b16), .val (.int (4 : Int32)), .val (.int (4 : Int32)), .val (.int (Int32.ofNat nk3))] [])) _
  refine Goes.by (fun _ k => XS.iload X32.here hx rfl (hb hby d1_87) rfl k) ?_
  show Goes p.tables e below (T32.setTop (mkF m 89 #[.val (.ref oa), .val (.ref ob), .val (.int (3 : Int32)), .val (.ref oc), .val (.ref b1), .val (.ref b16), .val (.int (4 : Int32)), .val (.int (4 : Int32)), .val (.int (Int32.ofNat nk3))] [(.int (4 : Int32))])) _
  refine Goes.by (fun _ k => XS.aloadN X32.here hx rfl (hb hby d1_89) rfl rfl k) ?_
  show Goes p.tables e below (T32.setTop (mkF m 90 #[.val (.ref oa), .val (.ref ob), .val (.int (3 : Int32)), .val (.ref oc), .val (.ref b1), .val (.ref b16), .val (.int (4 : Int32)), .val (.int (4 : Int32)), .val (.int (Int32.ofNat nk3))] [(.ref oa), (.int (4 : Int32))])) _
  refine Goes.by (fun _ k => alen (z := (4 : Int32)) (fr := (mkF m 90 #[.val (.ref oa), .val (.ref ob), .val (.int (3 : Int32)), .val (.ref oc), .val (.ref b1), .val (.ref b16), .val (.int (4 : Int32)), .val (.int (4 : Int32)), .val (.int (Int32.ofNat nk3))] [(.ref oa), (.int (4 : Int32))])) X32 hx hZ e32 A_oa (by decide) rfl rfl (hb hby d1_90) k) ?_
  show Goes p.tables e below (T32.setTop (mkF m 91 #[.val (.ref oa), .val (.ref ob), .val (.int (3 : Int32)), .val (.ref oc), .val (.ref b1), .val (.ref b16), .val (.int (4 : Int32)), .val (.int (4 : Int32)), .val (.int (Int32.ofNat nk3))] [(.int (4 : Int32)), (.int (4 : Int32))])) _
  refine Goes.by (fun _ k => XS.icmpYes X32.here hx rfl (pc0 := 91) (pc' := 126) rfl (hb hby d1_91) rfl (flt (by decide : ¬ ((4 : Int32) < (4 : Int32)))).2.1 (by decide) (by decide) k) ?_
  show Goes p.tables e below (T32.setTop (mkF m 126 #[.val (.ref oa), .val (.ref ob), .val (.int (3 : Int32)), .val (.ref oc), .val (.ref b1), .val (.ref b16), .val (.int (4 : Int32)), .val (.int (4 : Int32)), .val (.int (Int32.ofNat nk3))] [])) _
  refine Goes.by (fun _ k => XS.aload X32.here hx rfl (hb hby d1_126) rfl rfl k) ?_
  show Goes p.tables e below (T32.setTop (mkF m 128 #[.val (.ref oa), .val (.ref ob), .val (.int (3 : Int32)), .val (.ref oc), .val (.ref b1), .val (.ref b16), .val (.int (4 : Int32)), .val (.int (4 : Int32)), .val (.int (Int32.ofNat nk3))] [(.ref b1)])) _
  obtain ⟨fs, hr, hrun, hended, hW, hsame⟩ := X32.leave (v := some (.ref b1)) (fun h => by rw [Bd.returns] at h; cases h)
  refine ⟨_, _, retOut X32 hx Bd.returns (i := .areturn) (narR rfl) (Or.inr (Or.inr (Or.inr (Or.inr ⟨rfl, rfl, rfl⟩)))) (hb hby d1_128) hr, hrun, hended, _, _, rfl, ?_, ⟨_, rfl⟩, hW, hsame.mono (by decide) (by decide)⟩
  show Q1k3 Z oa ob oc pa nk0 nk1 nk2 nk3 h0 n0 _ T32.heap _
  rw [e32]
  exact ⟨b1, rfl, N32, K32, A_b1, A_oc, sz_b1⟩
theorem own_f4_1 : ∀ nk0 nk1 nk2 nk3 : Fin 4, ∀ j : Fin 5, (up (fun _ => (0 : Int32)) (nk0.val + 1) (((fun _ => (0 : Int32)) (nk0.val + 1)) + (1 : Int32))) j.val = (own_cnt1 nk0.val nk1.val nk2.val nk3.val) j.val := by decide +kernel
theorem own_f4_2 : ∀ nk0 nk1 nk2 nk3 : Fin 4, ∀ j : Fin 5, (up (own_cnt1 nk0.val nk1.val nk2.val nk3.val) (nk1.val + 1) (((own_cnt1 nk0.val nk1.val nk2.val nk3.val) (nk1.val + 1)) + (1 : Int32))) j.val = (own_cnt2 nk0.val nk1.val nk2.val nk3.val) j.val := by decide +kernel
theorem own_f4_3 : ∀ nk0 nk1 nk2 nk3 : Fin 4, ∀ j : Fin 5, (up (own_cnt2 nk0.val nk1.val nk2.val nk3.val) (nk2.val + 1) (((own_cnt2 nk0.val nk1.val nk2.val nk3.val) (nk2.val + 1)) + (1 : Int32))) j.val = (own_cnt3 nk0.val nk1.val nk2.val nk3.val) j.val := by decide +kernel
theorem own_f4_4 : ∀ nk0 nk1 nk2 nk3 : Fin 4, ∀ j : Fin 5, (up (own_cnt3 nk0.val nk1.val nk2.val nk3.val) (nk3.val + 1) (((own_cnt3 nk0.val nk1.val nk2.val nk3.val) (nk3.val + 1)) + (1 : Int32))) j.val = (own_cnt4 nk0.val nk1.val nk2.val nk3.val) j.val := by decide +kernel
theorem own_f4_5 : ∀ nk0 nk1 nk2 nk3 : Fin 4, ∀ j : Fin 5, (up (own_cnt4 nk0.val nk1.val nk2.val nk3.val) 1 (((own_cnt4 nk0.val nk1.val nk2.val nk3.val) 1) + ((own_cnt4 nk0.val nk1.val nk2.val nk3.val) 0))) j.val = (own_pre 1 nk0.val nk1.val nk2.val nk3.val) j.val := by decide +kernel
theorem own_f4_6 : ∀ nk0 nk1 nk2 nk3 : Fin 4, ∀ j : Fin 5, (up (own_pre 1 nk0.val nk1.val nk2.val nk3.val) 2 (((own_pre 1 nk0.val nk1.val nk2.val nk3.val) 2) + ((own_pre 1 nk0.val nk1.val nk2.val nk3.val) 1))) j.val = (own_pre 2 nk0.val nk1.val nk2.val nk3.val) j.val := by decide +kernel
theorem own_f4_7 : ∀ nk0 nk1 nk2 nk3 : Fin 4, ∀ j : Fin 5, (up (own_pre 2 nk0.val nk1.val nk2.val nk3.val) 3 (((own_pre 2 nk0.val nk1.val nk2.val nk3.val) 3) + ((own_pre 2 nk0.val nk1.val nk2.val nk3.val) 2))) j.val = (own_pre 3 nk0.val nk1.val nk2.val nk3.val) j.val := by decide +kernel
theorem own_f4_8 : ∀ nk0 nk1 nk2 nk3 : Fin 4, ∀ j : Fin 5, (up (own_pre 3 nk0.val nk1.val nk2.val nk3.val) 4 (((own_pre 3 nk0.val nk1.val nk2.val nk3.val) 4) + ((own_pre 3 nk0.val nk1.val nk2.val nk3.val) 3))) j.val = (own_pre 4 nk0.val nk1.val nk2.val nk3.val) j.val := by decide +kernel
theorem own_g4_1 : ∀ nk0 nk1 nk2 nk3 : Fin 4, ∀ j : Fin 4, (up (fun _ => (0 : Int32)) nk0.val (((fun _ => (0 : Int32)) nk0.val) + (1 : Int32))) j.val = (own_nx1 nk0.val nk1.val nk2.val nk3.val) j.val := by decide +kernel
theorem own_pl4_0 : ∀ nk0 nk1 nk2 nk3 : Fin 4, (((own_pre 4 nk0.val nk1.val nk2.val nk3.val) nk0.val) + ((fun _ => (0 : Int32)) nk0.val)).toInt = ((own_rank0 nk0.val nk1.val nk2.val nk3.val : Nat) : Int) ∧ own_rank0 nk0.val nk1.val nk2.val nk3.val < 4 := by decide +kernel
theorem own_g4_2 : ∀ nk0 nk1 nk2 nk3 : Fin 4, ∀ j : Fin 4, (up (own_nx1 nk0.val nk1.val nk2.val nk3.val) nk1.val (((own_nx1 nk0.val nk1.val nk2.val nk3.val) nk1.val) + (1 : Int32))) j.val = (own_nx2 nk0.val nk1.val nk2.val nk3.val) j.val := by decide +kernel
theorem own_pl4_1 : ∀ nk0 nk1 nk2 nk3 : Fin 4, (((own_pre 4 nk0.val nk1.val nk2.val nk3.val) nk1.val) + ((own_nx1 nk0.val nk1.val nk2.val nk3.val) nk1.val)).toInt = ((own_rank1 nk0.val nk1.val nk2.val nk3.val : Nat) : Int) ∧ own_rank1 nk0.val nk1.val nk2.val nk3.val < 4 := by decide +kernel
theorem own_g4_3 : ∀ nk0 nk1 nk2 nk3 : Fin 4, ∀ j : Fin 4, (up (own_nx2 nk0.val nk1.val nk2.val nk3.val) nk2.val (((own_nx2 nk0.val nk1.val nk2.val nk3.val) nk2.val) + (1 : Int32))) j.val = (own_nx3 nk0.val nk1.val nk2.val nk3.val) j.val := by decide +kernel
theorem own_pl4_2 : ∀ nk0 nk1 nk2 nk3 : Fin 4, (((own_pre 4 nk0.val nk1.val nk2.val nk3.val) nk2.val) + ((own_nx2 nk0.val nk1.val nk2.val nk3.val) nk2.val)).toInt = ((own_rank2 nk0.val nk1.val nk2.val nk3.val : Nat) : Int) ∧ own_rank2 nk0.val nk1.val nk2.val nk3.val < 4 := by decide +kernel
theorem own_g4_4 : ∀ nk0 nk1 nk2 nk3 : Fin 4, ∀ j : Fin 4, (up (own_nx3 nk0.val nk1.val nk2.val nk3.val) nk3.val (((own_nx3 nk0.val nk1.val nk2.val nk3.val) nk3.val) + (1 : Int32))) j.val = (own_nx4 nk0.val nk1.val nk2.val nk3.val) j.val := by decide +kernel
theorem own_pl4_3 : ∀ nk0 nk1 nk2 nk3 : Fin 4, (((own_pre 4 nk0.val nk1.val nk2.val nk3.val) nk3.val) + ((own_nx3 nk0.val nk1.val nk2.val nk3.val) nk3.val)).toInt = ((own_rank3 nk0.val nk1.val nk2.val nk3.val : Nat) : Int) ∧ own_rank3 nk0.val nk1.val nk2.val nk3.val < 4 := by decide +kernel
theorem ef1k4 (m : MethodId) (oa : Addr) (ob : Addr) (oc : Addr) : entryFrame m #[(.ref oa), (.ref ob), (.int (4 : Int32)), (.ref oc)] 9 = mkF m 0 #[.val (.ref oa), .val (.ref ob), .val (.int (4 : Int32)), .val (.ref oc), .unset, .unset, .unset, .unset, .unset] [] := by first | (simp [entryFrame, mkF, argsToLocals, Value.category]; done) | rfl
def Q1k4 (Z : State) (oa : Addr) (ob : Addr) (oc : Addr) (pa : Nat → Int32) (nk0 : Nat) (nk1 : Nat) (nk2 : Nat) (nk3 : Nat) (h0 : Heap) (n0 : Nat) (v : Option Value) (h : Heap) (L : List Loc) : Prop := ∃ oz : Addr, v = some (.ref oz) ∧ Fr n0 L ∧ Keep h0 h [oc] ∧ AI Z h oz .int 5 (own_pre 4 nk0 nk1 nk2 nk3) ∧ AI Z h oc .int 4 (up (up (up (up (fun _ => (0 : Int32)) (own_rank0 nk0 nk1 nk2 nk3) (pa 0)) (own_rank1 nk0 nk1 nk2 nk3) (pa 1)) (own_rank2 nk0 nk1 nk2 nk3) (pa 2)) (own_rank3 nk0 nk1 nk2 nk3) (pa 3)) ∧ (h0.size ≤ oz)
set_option maxRecDepth 65536 in
set_option maxHeartbeats 40000000 in
theorem rm1k4 (l : Launch) (Z : State) (a0 : Array Value) (hw : ∀ d ∈ tables_1, d.before a0 Z = true) (ws : List Jvm.Cond) (oa : Addr) (ob : Addr) (oc : Addr) (pa : Nat → Int32) (nk0 : Nat) (nk1 : Nat) (nk2 : Nat) (nk3 : Nat) (h0 : Heap) (n0 : Nat) (Z0 : n0 ≤ h0.size) (A_oa : AI Z h0 oa .int 4 pa) (A_ob : AI Z h0 ob .int 4 (own_keys nk0 nk1 nk2 nk3)) (A_oc : AI Z h0 oc .int 4 (fun _ => (0 : Int32))) (ne_oa_oc : oa ≠ oc) (ne_ob_oc : ob ≠ oc) (g_oc : n0 ≤ oc) (hnk0 : nk0 < 4) (hnk1 : nk1 < 4) (hnk2 : nk2 < 4) (hnk3 : nk3 < 4) :
    MetFree l (⟨"com/example/xml_graph_join/xmlgraphjoin/graph/CountingSort", "sort", "([I[II[I)[I"⟩ : MethodName) (head1 (Jvm.Cond.code (⟨"com/example/xml_graph_join/xmlgraphjoin/graph/CountingSort", "sort", "([I[II[I)[I"⟩ : MethodName) prog_49_method_2_code 9 (some (.array .int)) :: ws) ({ frames := 0, cells := 2, slots := 9, locals := 0 } : Room)) (fun a U => a = #[(.ref oa), (.ref ob), (.int (4 : Int32)), (.ref oc)] ∧ Z.Warmed39 U.vm ∧ U.heap = h0) (fun _ _ _ _ _ => True) (fun _ U o U' => ∃ v L, o = .returned v ∧ Q1k4 Z oa ob oc pa nk0 nk1 nk2 nk3 h0 n0 v U'.heap L ∧ FrameEnd U o U' L ({ frames := 0, cells := 2, slots := 9, locals := 0 } : Room).cells ({ frames := 0, cells := 2, slots := 9, locals := 0 } : Room).slots) := by
  refine MetFree.of_bodySF (plainFor_of_name pn_0) hisR ?_
  intro p e s m args below meth c s₁ Bd hml0 hP hK
  obtain ⟨rfl, hZ, hh⟩ := hP
  have hx := Bd.exec
  have hby := Bd.bytes
  have hml : c.maxLocals = 9 := hml0
  have hown : s.vm.findClass "com/example/xml_graph_join/xmlgraphjoin/graph/CountingSort" = some m.cls := findClass_of_methodNamed Bd.named
  have hnm := (name_of_methodNamed Bd.named Bd.method).1
  have X0 : Stand p l e ({ frames := 0, cells := 2, slots := 9, locals := 0 } : Room) s m #[(.ref oa), (.ref ob), (.int (4 : Int32)), (.ref oc)] below meth c s₁ [] 0 0 := Stand.of_body Bd
  have e0 : s₁.heap = h0 := by rw [← hh, Bd.state]; rfl
  have N0 := Fr.nil n0
  refine Goes.by (fun _ k => castTop (ef1k4 m oa ob oc) k) ?_
  show Goes p.tables e below (s₁.setTop (mkF m 0 #[.val (.ref oa), .val (.ref ob), .val (.int (4 : Int32)), .val (.ref oc), .unset, .unset, .unset, .unset, .unset] [])) _
  refine Goes.by (fun _ k => XS.iloadN X0.here hx rfl (hb hby d1_0) rfl k) ?_
  show Goes p.tables e below (s₁.setTop (mkF m 1 #[.val (.ref oa), .val (.ref ob), .val (.int (4 : Int32)), .val (.ref oc), .unset, .unset, .unset, .unset, .unset] [(.int (4 : Int32))])) _
  refine Goes.by (fun _ k => XS.iconst X0.here hx rfl (hb hby d1_1) k) ?_
  show Goes p.tables e below (s₁.setTop (mkF m 2 #[.val (.ref oa), .val (.ref ob), .val (.int (4 : Int32)), .val (.ref oc), .unset, .unset, .unset, .unset, .unset] [(.int (1 : Int32)), (.int (4 : Int32))])) _
  refine Goes.by (fun _ k => XS.iadd X0.here hx rfl (hb hby d1_2) rfl k) ?_
  show Goes p.tables e below (s₁.setTop (mkF m 3 #[.val (.ref oa), .val (.ref ob), .val (.int (4 : Int32)), .val (.ref oc), .unset, .unset, .unset, .unset, .unset] [(.int (5 : Int32))])) _
  obtain ⟨T1, h1, X1, e1, E1, A1, st1⟩ := nwA (n := 5) (cap := 5) (fr := (mkF m 3 #[.val (.ref oa), .val (.ref ob), .val (.int (4 : Int32)), .val (.ref oc), .unset, .unset, .unset, .unset, .unset] [(.int (5 : Int32))])) X0 hx hZ (hw _ (List.mem_of_getElem? (i := 0) rfl)) e0 (by decide) (by decide) (by decide) (by decide) (by decide) rfl rfl (hb hby d1_3)
  obtain ⟨b1, g1⟩ : ∃ z, z = h0.size := ⟨_, rfl⟩
  rw [← g1] at A1 st1
  have g_b1 : n0 ≤ b1 := Nat.le_trans Z0 (Nat.le_of_eq g1.symm)
  have sz_b1 : h0.size ≤ b1 := Nat.le_trans (Keep.refl h0 [oc]).1 (Nat.le_of_eq g1.symm)
  have ne_oa_b1 : oa ≠ b1 := Nat.ne_of_lt (Nat.lt_of_lt_of_le A_oa.lt (Nat.le_of_eq g1.symm))
  have ne_ob_b1 : ob ≠ b1 := Nat.ne_of_lt (Nat.lt_of_lt_of_le A_ob.lt (Nat.le_of_eq g1.symm))
  have ne_oc_b1 : oc ≠ b1 := Nat.ne_of_lt (Nat.lt_of_lt_of_le A_oc.lt (Nat.le_of_eq g1.symm))
  have Zs1 : n0 ≤ h1.size := Nat.le_trans Z0 E1.1
  have K1 : Keep h0 h1 [oc] := (Keep.refl h0 [oc]).ext E1
  refine Goes.by st1 ?_
  have A_oa : AI Z h1 oa .int 4 pa := A_oa.ext E1
  have A_ob : AI Z h1 ob .int 4 (own_keys nk0 nk1 nk2 nk3) := A_ob.ext E1
  have A_oc : AI Z h1 oc .int 4 (fun _ => (0 : Int32)) := A_oc.ext E1
  have A_b1 : AI Z h1 b1 .int 5 (fun _ => (0 : Int32)) := A1
  show Goes p.tables e below (T1.setTop (mkF m 5 #[.val (.ref oa), .val (.ref ob), .val (.int (4 : Int32)), .val (.ref oc), .unset, .unset, .unset, .unset, .unset] [(.ref b1)])) _
  refine Goes.by (fun _ k => XS.astore X1.here hx rfl (hb hby d1_5) rfl rfl (l' := #[.val (.ref oa), .val (.ref ob), .val (.int (4 : Int32)), .val (.ref oc), .val (.ref b1), .unset, .unset, .unset, .unset]) rfl k) ?_
  show Goes p.tables e below (T1.setTop (mkF m 7 #[.val (.ref oa), .val (.ref ob), .val (.int (4 : Int32)), .val (.ref oc), .val (.ref b1), .unset, .unset, .unset, .unset] [])) _
  refine Goes.by (fun _ k => XS.aloadN X1.here hx rfl (hb hby d1_7) rfl rfl k) ?_
  show Goes p.tables e below (T1.setTop (mkF m 8 #[.val (.ref oa), .val (.ref ob), .val (.int (4 : Int32)), .val (.ref oc), .val (.ref b1), .unset, .unset, .unset, .unset] [(.ref ob)])) _
  refine Goes.by (fun _ k => XS.astore X1.here hx rfl (hb hby d1_8) rfl rfl (l' := #[.val (.ref oa), .val (.ref ob), .val (.int (4 : Int32)), .val (.ref oc), .val (.ref b1), .val (.ref ob), .unset, .unset, .unset]) rfl k) ?_
  show Goes p.tables e below (T1.setTop (mkF m 10 #[.val (.ref oa), .val (.ref ob), .val (.int (4 : Int32)), .val (.ref oc), .val (.ref b1), .val (.ref ob), .unset, .unset, .unset] [])) _
  refine Goes.by (fun _ k => XS.aload X1.here hx rfl (hb hby d1_10) rfl rfl k) ?_
  show Goes p.tables e below (T1.setTop (mkF m 12 #[.val (.ref oa), .val (.ref ob), .val (.int (4 : Int32)), .val (.ref oc), .val (.ref b1), .val (.ref ob), .unset, .unset, .unset] [(.ref ob)])) _
  refine Goes.by (fun _ k => alen (z := (4 : Int32)) (fr := (mkF m 12 #[.val (.ref oa), .val (.ref ob), .val (.int (4 : Int32)), .val (.ref oc), .val (.ref b1), .val (.ref ob), .unset, .unset, .unset] [(.ref ob)])) X1 hx hZ e1 A_ob (by decide) rfl rfl (hb hby d1_12) k) ?_
  show Goes p.tables e below (T1.setTop (mkF m 13 #[.val (.ref oa), .val (.ref ob), .val (.int (4 : Int32)), .val (.ref oc), .val (.ref b1), .val (.ref ob), .unset, .unset, .unset] [(.int (4 : Int32))])) _
  refine Goes.by (fun _ k => XS.istore X1.here hx rfl (hb hby d1_13) rfl (l' := #[.val (.ref oa), .val (.ref ob), .val (.int (4 : Int32)), .val (.ref oc), .val (.ref b1), .val (.ref ob), .val (.int (4 : Int32)), .unset, .unset]) rfl k) ?_
  show Goes p.tables e below (T1.setTop (mkF m 15 #[.val (.ref oa), .val (.ref ob), .val (.int (4 : Int32)), .val (.ref oc), .val (.ref b1), .val (.ref ob), .val (.int (4 : Int32)), .unset, .unset] [])) _
  refine Goes.by (fun _ k => XS.iconst X1.here hx rfl (hb hby d1_15) k) ?_
  show Goes p.tables e below (T1.setTop (mkF m 16 #[.val (.ref oa), .val (.ref ob), .val (.int (4 : Int32)), .val (.ref oc), .val (.ref b1), .val (.ref ob), .val (.int (4 : Int32)), .unset, .unset] [(.int (0 : Int32))])) _
  refine Goes.by (fun _ k => XS.istore X1.here hx rfl (hb hby d1_16) rfl (l' := #[.val (.ref oa), .val (.ref ob), .val (.int (4 : Int32)), .val (.ref oc), .val (.ref b1), .val (.ref ob), .val (.int (4 : Int32)), .val (.int (0 : Int32)), .unset]) rfl k) ?_
  show Goes p.tables e below (T1.setTop (mkF m 18 #[.val (.ref oa), .val (.ref ob), .val (.int (4 : Int32)), .val (.ref oc), .val (.ref b1), .val (.ref ob), .val (.int (4 : Int32)), .val (.int (0 : Int32)), .unset] [])) _
  refine Goes.by (fun _ k => XS.iload X1.here hx rfl (hb hby d1_18) rfl k) ?_
  show Goes p.tables e below (T1.setTop (mkF m 20 #[.val (.ref oa), .val (.ref ob), .val (.int (4 : Int32)), .val (.ref oc), .val (.ref b1), .val (.ref ob), .val (.int (4 : Int32)), .val (.int (0 : Int32)), .unset] [(.int (0 : Int32))])) _
  refine Goes.by (fun _ k => XS.iload X1.here hx rfl (hb hby d1_20) rfl k) ?_
  show Goes p.tables e below (T1.setTop (mkF m 22 #[.val (.ref oa), .val (.ref ob), .val (.int (4 : Int32)), .val (.ref oc), .val (.ref b1), .val (.ref ob), .val (.int (4 : Int32)), .val (.int (0 : Int32)), .unset] [(.int (4 : Int32)), (.int (0 : Int32))])) _
  refine Goes.by (fun _ k => XS.icmpNo X1.here hx rfl (hb hby d1_22) rfl (tlt (by decide : (0 : Int32) < (4 : Int32))).2.1 k) ?_
  show Goes p.tables e below (T1.setTop (mkF m 25 #[.val (.ref oa), .val (.ref ob), .val (.int (4 : Int32)), .val (.ref oc), .val (.ref b1), .val (.ref ob), .val (.int (4 : Int32)), .val (.int (0 : Int32)), .unset] [])) _
  refine Goes.by (fun _ k => XS.aload X1.here hx rfl (hb hby d1_25) rfl rfl k) ?_
  show Goes p.tables e below (T1.setTop (mkF m 27 #[.val (.ref oa), .val (.ref ob), .val (.int (4 : Int32)), .val (.ref oc), .val (.ref b1), .val (.ref ob), .val (.int (4 : Int32)), .val (.int (0 : Int32)), .unset] [(.ref ob)])) _
  refine Goes.by (fun _ k => XS.iload X1.here hx rfl (hb hby d1_27) rfl k) ?_
  show Goes p.tables e below (T1.setTop (mkF m 29 #[.val (.ref oa), .val (.ref ob), .val (.int (4 : Int32)), .val (.ref oc), .val (.ref b1), .val (.ref ob), .val (.int (4 : Int32)), .val (.int (0 : Int32)), .unset] [(.int (0 : Int32)), (.ref ob)])) _
  refine Goes.by (fun _ k => ldI (v := (Int32.ofNat nk0)) (fr := (mkF m 29 #[.val (.ref oa), .val (.ref ob), .val (.int (4 : Int32)), .val (.ref oc), .val (.ref b1), .val (.ref ob), .val (.int (4 : Int32)), .val (.int (0 : Int32)), .unset] [(.int (0 : Int32)), (.ref ob)])) X1 hx hZ e1 A_ob (i := 0) (by decide) (by decide) rfl rfl rfl (hb hby d1_29) k) ?_
  show Goes p.tables e below (T1.setTop (mkF m 30 #[.val (.ref oa), .val (.ref ob), .val (.int (4 : Int32)), .val (.ref oc), .val (.ref b1), .val (.ref ob), .val (.int (4 : Int32)), .val (.int (0 : Int32)), .unset] [(.int (Int32.ofNat nk0))])) _
  refine Goes.by (fun _ k => XS.istore X1.here hx rfl (hb hby d1_30) rfl (l' := #[.val (.ref oa), .val (.ref ob), .val (.int (4 : Int32)), .val (.ref oc), .val (.ref b1), .val (.ref ob), .val (.int (4 : Int32)), .val (.int (0 : Int32)), .val (.int (Int32.ofNat nk0))]) rfl k) ?_
  show Goes p.tables e below (T1.setTop (mkF m 32 #[.val (.ref oa), .val (.ref ob), .val (.int (4 : Int32)), .val (.ref oc), .val (.ref b1), .val (.ref ob), .val (.int (4 : Int32)), .val (.int (0 : Int32)), .val (.int (Int32.ofNat nk0))] [])) _
  refine Goes.by (fun _ k => XS.aload X1.here hx rfl (hb hby d1_32) rfl rfl k) ?_
  show Goes p.tables e below (T1.setTop (mkF m 34 #[.val (.ref oa), .val (.ref ob), .val (.int (4 : Int32)), .val (.ref oc), .val (.ref b1), .val (.ref ob), .val (.int (4 : Int32)), .val (.int (0 : Int32)), .val (.int (Int32.ofNat nk0))] [(.ref b1)])) _
  refine Goes.by (fun _ k => XS.iload X1.here hx rfl (hb hby d1_34) rfl k) ?_
  show Goes p.tables e below (T1.setTop (mkF m 36 #[.val (.ref oa), .val (.ref ob), .val (.int (4 : Int32)), .val (.ref oc), .val (.ref b1), .val (.ref ob), .val (.int (4 : Int32)), .val (.int (0 : Int32)), .val (.int (Int32.ofNat nk0))] [(.int (Int32.ofNat nk0)), (.ref b1)])) _
  refine Goes.by (fun _ k => XS.iconst X1.here hx rfl (hb hby d1_36) k) ?_
  show Goes p.tables e below (T1.setTop (mkF m 37 #[.val (.ref oa), .val (.ref ob), .val (.int (4 : Int32)), .val (.ref oc), .val (.ref b1), .val (.ref ob), .val (.int (4 : Int32)), .val (.int (0 : Int32)), .val (.int (Int32.ofNat nk0))] [(.int (1 : Int32)), (.int (Int32.ofNat nk0)), (.ref b1)])) _
  refine Goes.by (fun _ k => XS.iadd X1.here hx rfl (hb hby d1_37) rfl k) ?_
  show Goes p.tables e below (T1.setTop (mkF m 38 #[.val (.ref oa), .val (.ref ob), .val (.int (4 : Int32)), .val (.ref oc), .val (.ref b1), .val (.ref ob), .val (.int (4 : Int32)), .val (.int (0 : Int32)), .val (.int (Int32.ofNat nk0))] [(.int ((Int32.ofNat nk0) + (1 : Int32))), (.ref b1)])) _
  have sd2 : ∀ u, Steps p.tables e below (T1.setTop (mkF m 39 #[.val (.ref oa), .val (.ref ob), .val (.int (4 : Int32)), .val (.ref oc), .val (.ref b1), .val (.ref ob), .val (.int (4 : Int32)), .val (.int (0 : Int32)), .val (.int (Int32.ofNat nk0))] [(.int ((Int32.ofNat nk0) + (1 : Int32))), (.ref b1), (.int ((Int32.ofNat nk0) + (1 : Int32))), (.ref b1)])) u → Steps p.tables e below (T1.setTop (mkF m 38 #[.val (.ref oa), .val (.ref ob), .val (.int (4 : Int32)), .val (.ref oc), .val (.ref b1), .val (.ref ob), .val (.int (4 : Int32)), .val (.int (0 : Int32)), .val (.int (Int32.ofNat nk0))] [(.int ((Int32.ofNat nk0) + (1 : Int32))), (.ref b1)])) u := by
    intro u k
    jvm_step X1.here [X1.here.top, hx, (hb hby d1_38), Value.category]
    exact k
  refine Goes.by (fun _ k => sd2 _ k) ?_
  show Goes p.tables e below (T1.setTop (mkF m 39 #[.val (.ref oa), .val (.ref ob), .val (.int (4 : Int32)), .val (.ref oc), .val (.ref b1), .val (.ref ob), .val (.int (4 : Int32)), .val (.int (0 : Int32)), .val (.int (Int32.ofNat nk0))] [(.int ((Int32.ofNat nk0) + (1 : Int32))), (.ref b1), (.int ((Int32.ofNat nk0) + (1 : Int32))), (.ref b1)])) _
  refine Goes.by (fun _ k => ldI (v := ((fun _ => (0 : Int32)) (nk0 + 1))) (fr := (mkF m 39 #[.val (.ref oa), .val (.ref ob), .val (.int (4 : Int32)), .val (.ref oc), .val (.ref b1), .val (.ref ob), .val (.int (4 : Int32)), .val (.int (0 : Int32)), .val (.int (Int32.ofNat nk0))] [(.int ((Int32.ofNat nk0) + (1 : Int32))), (.ref b1), (.int ((Int32.ofNat nk0) + (1 : Int32))), (.ref b1)])) X1 hx hZ e1 A_b1 (i := (nk0 + 1)) (own_i1 nk0 (Nat.lt_trans hnk0 (by decide))) (Nat.succ_lt_succ hnk0) rfl rfl rfl (hb hby d1_39) k) ?_
  show Goes p.tables e below (T1.setTop (mkF m 40 #[.val (.ref oa), .val (.ref ob), .val (.int (4 : Int32)), .val (.ref oc), .val (.ref b1), .val (.ref ob), .val (.int (4 : Int32)), .val (.int (0 : Int32)), .val (.int (Int32.ofNat nk0))] [(.int ((fun _ => (0 : Int32)) (nk0 + 1))), (.int ((Int32.ofNat nk0) + (1 : Int32))), (.ref b1)])) _
  refine Goes.by (fun _ k => XS.iconst X1.here hx rfl (hb hby d1_40) k) ?_
  show Goes p.tables e below (T1.setTop (mkF m 41 #[.val (.ref oa), .val (.ref ob), .val (.int (4 : Int32)), .val (.ref oc), .val (.ref b1), .val (.ref ob), .val (.int (4 : Int32)), .val (.int (0 : Int32)), .val (.int (Int32.ofNat nk0))] [(.int (1 : Int32)), (.int ((fun _ => (0 : Int32)) (nk0 + 1))), (.int ((Int32.ofNat nk0) + (1 : Int32))), (.ref b1)])) _
  refine Goes.by (fun _ k => XS.iadd X1.here hx rfl (hb hby d1_41) rfl k) ?_
  show Goes p.tables e below (T1.setTop (mkF m 42 #[.val (.ref oa), .val (.ref ob), .val (.int (4 : Int32)), .val (.ref oc), .val (.ref b1), .val (.ref ob), .val (.int (4 : Int32)), .val (.int (0 : Int32)), .val (.int (Int32.ofNat nk0))] [(.int (((fun _ => (0 : Int32)) (nk0 + 1)) + (1 : Int32))), (.int ((Int32.ofNat nk0) + (1 : Int32))), (.ref b1)])) _
  obtain ⟨T3, h3, X3, e3, W3, A3, st3⟩ := stAI (fr := (mkF m 42 #[.val (.ref oa), .val (.ref ob), .val (.int (4 : Int32)), .val (.ref oc), .val (.ref b1), .val (.ref ob), .val (.int (4 : Int32)), .val (.int (0 : Int32)), .val (.int (Int32.ofNat nk0))] [(.int (((fun _ => (0 : Int32)) (nk0 + 1)) + (1 : Int32))), (.int ((Int32.ofNat nk0) + (1 : Int32))), (.ref b1)])) X1 hx hZ e1 A_b1 (i := (nk0 + 1)) (own_i1 nk0 (Nat.lt_trans hnk0 (by decide))) (Nat.succ_lt_succ hnk0) rfl rfl (hb hby d1_42)
  refine Goes.by st3 ?_
  have A_b1 : AI Z h3 b1 .int 5 (own_cnt1 nk0 nk1 nk2 nk3) := A3.congr (fun j hj => own_f4_1 ⟨nk0, hnk0⟩ ⟨nk1, hnk1⟩ ⟨nk2, hnk2⟩ ⟨nk3, hnk3⟩ ⟨j, hj⟩)
  have N3 := Fr.snoc X3 N0 g_b1
  have Zs3 : n0 ≤ h3.size := Nat.le_trans Zs1 (Keep.of_wr W3).1
  have K3 : Keep h0 h3 [oc] := K1.wr W3 (Or.inr sz_b1)
  have A_oa : AI Z h3 oa .int 4 pa := A_oa.other W3 ne_oa_b1
  have A_ob : AI Z h3 ob .int 4 (own_keys nk0 nk1 nk2 nk3) := A_ob.other W3 ne_ob_b1
  have A_oc : AI Z h3 oc .int 4 (fun _ => (0 : Int32)) := A_oc.other W3 ne_oc_b1
  show Goes p.tables e below (T3.setTop (mkF m 43 #[.val (.ref oa), .val (.ref ob), .val (.int (4 : Int32)), .val (.ref oc), .val (.ref b1), .val (.ref ob), .val (.int (4 : Int32)), .val (.int (0 : Int32)), .val (.int (Int32.ofNat nk0))] [])) _
  refine Goes.by (fun _ k => XS.iinc X3.here hx rfl (hb hby d1_43) rfl (l' := #[.val (.ref oa), .val (.ref ob), .val (.int (4 : Int32)), .val (.ref oc), .val (.ref b1), .val (.ref ob), .val (.int (4 : Int32)), .val (.int (1 : Int32)), .val (.int (Int32.ofNat nk0))]) rfl k) ?_
  show Goes p.tables e below (T3.setTop (mkF m 46 #[.val (.ref oa), .val (.ref ob), .val (.int (4 : Int32)), .val (.ref oc), .val (.ref b1), .val (.ref ob), .val (.int (4 : Int32)), .val (.int (1 : Int32)), .val (.int (Int32.ofNat nk0))] [])) _
  refine Goes.by (fun _ k => XS.goto X3.here hx rfl (pc0 := 46) (pc' := 18) rfl (hb hby d1_46) (by decide) (by decide) k) ?_
  show Goes p.tables e below (T3.setTop (mkF m 18 #[.val (.ref oa), .val (.ref ob), .val (.int (4 : Int32)), .val (.ref oc), .val (.ref b1), .val (.ref ob), .val (.int (4 : Int32)), .val (.int (1 : Int32)), .val (.int (Int32.ofNat nk0))] [])) _
  refine Goes.by (fun _ k => XS.iload X3.here hx rfl (hb hby d1_18) rfl k) ?_
  show Goes p.tables e below (T3.setTop (mkF m 20 #[.val (.ref oa), .val (.ref ob), .val (.int (4 : Int32)), .val (.ref oc), .val (.ref b1), .val (.ref ob), .val (.int (4 : Int32)), .val (.int (1 : Int32)), .val (.int (Int32.ofNat nk0))] [(.int (1 : Int32))])) _
  refine Goes.by (fun _ k => XS.iload X3.here hx rfl (hb hby d1_20) rfl k) ?_
  show Goes p.tables e below (T3.setTop (mkF m 22 #[.val (.ref oa), .val (.ref ob), .val (.int (4 : Int32)), .val (.ref oc), .val (.ref b1), .val (.ref ob), .val (.int (4 : Int32)), .val (.int (1 : Int32)), .val (.int (Int32.ofNat nk0))] [(.int (4 : Int32)), (.int (1 : Int32))])) _
  refine Goes.by (fun _ k => XS.icmpNo X3.here hx rfl (hb hby d1_22) rfl (tlt (by decide : (1 : Int32) < (4 : Int32))).2.1 k) ?_
  show Goes p.tables e below (T3.setTop (mkF m 25 #[.val (.ref oa), .val (.ref ob), .val (.int (4 : Int32)), .val (.ref oc), .val (.ref b1), .val (.ref ob), .val (.int (4 : Int32)), .val (.int (1 : Int32)), .val (.int (Int32.ofNat nk0))] [])) _
  refine Goes.by (fun _ k => XS.aload X3.here hx rfl (hb hby d1_25) rfl rfl k) ?_
  show Goes p.tables e below (T3.setTop (mkF m 27 #[.val (.ref oa), .val (.ref ob), .val (.int (4 : Int32)), .val (.ref oc), .val (.ref b1), .val (.ref ob), .val (.int (4 : Int32)), .val (.int (1 : Int32)), .val (.int (Int32.ofNat nk0))] [(.ref ob)])) _
  refine Goes.by (fun _ k => XS.iload X3.here hx rfl (hb hby d1_27) rfl k) ?_
  show Goes p.tables e below (T3.setTop (mkF m 29 #[.val (.ref oa), .val (.ref ob), .val (.int (4 : Int32)), .val (.ref oc), .val (.ref b1), .val (.ref ob), .val (.int (4 : Int32)), .val (.int (1 : Int32)), .val (.int (Int32.ofNat nk0))] [(.int (1 : Int32)), (.ref ob)])) _
  refine Goes.by (fun _ k => ldI (v := (Int32.ofNat nk1)) (fr := (mkF m 29 #[.val (.ref oa), .val (.ref ob), .val (.int (4 : Int32)), .val (.ref oc), .val (.ref b1), .val (.ref ob), .val (.int (4 : Int32)), .val (.int (1 : Int32)), .val (.int (Int32.ofNat nk0))] [(.int (1 : Int32)), (.ref ob)])) X3 hx hZ e3 A_ob (i := 1) (by decide) (by decide) rfl rfl rfl (hb hby d1_29) k) ?_
  show Goes p.tables e below (T3.setTop (mkF m 30 #[.val (.ref oa), .val (.ref ob), .val (.int (4 : Int32)), .val (.ref oc), .val (.ref b1), .val (.ref ob), .val (.int (4 : Int32)), .val (.int (1 : Int32)), .val (.int (Int32.ofNat nk0))] [(.int (Int32.ofNat nk1))])) _
  refine Goes.by (fun _ k => XS.istore X3.here hx rfl (hb hby d1_30) rfl (l' := #[.val (.ref oa), .val (.ref ob), .val (.int (4 : Int32)), .val (.ref oc), .val (.ref b1), .val (.ref ob), .val (.int (4 : Int32)), .val (.int (1 : Int32)), .val (.int (Int32.ofNat nk1))]) rfl k) ?_
  show Goes p.tables e below (T3.setTop (mkF m 32 #[.val (.ref oa), .val (.ref ob), .val (.int (4 : Int32)), .val (.ref oc), .val (.ref b1), .val (.ref ob), .val (.int (4 : Int32)), .val (.int (1 : Int32)), .val (.int (Int32.ofNat nk1))] [])) _
  refine Goes.by (fun _ k => XS.aload X3.here hx rfl (hb hby d1_32) rfl rfl k) ?_
  show Goes p.tables e below (T3.setTop (mkF m 34 #[.val (.ref oa), .val (.ref ob), .val (.int (4 : Int32)), .val (.ref oc), .val (.ref b1), .val (.ref ob), .val (.int (4 : Int32)), .val (.int (1 : Int32)), .val (.int (Int32.ofNat nk1))] [(.ref b1)])) _
  refine Goes.by (fun _ k => XS.iload X3.here hx rfl (hb hby d1_34) rfl k) ?_
  show Goes p.tables e below (T3.setTop (mkF m 36 #[.val (.ref oa), .val (.ref ob), .val (.int (4 : Int32)), .val (.ref oc), .val (.ref b1), .val (.ref ob), .val (.int (4 : Int32)), .val (.int (1 : Int32)), .val (.int (Int32.ofNat nk1))] [(.int (Int32.ofNat nk1)), (.ref b1)])) _
  refine Goes.by (fun _ k => XS.iconst X3.here hx rfl (hb hby d1_36) k) ?_
  show Goes p.tables e below (T3.setTop (mkF m 37 #[.val (.ref oa), .val (.ref ob), .val (.int (4 : Int32)), .val (.ref oc), .val (.ref b1), .val (.ref ob), .val (.int (4 : Int32)), .val (.int (1 : Int32)), .val (.int (Int32.ofNat nk1))] [(.int (1 : Int32)), (.int (Int32.ofNat nk1)), (.ref b1)])) _
  refine Goes.by (fun _ k => XS.iadd X3.here hx rfl (hb hby d1_37) rfl k) ?_
  show Goes p.tables e below (T3.setTop (mkF m 38 #[.val (.ref oa), .val (.ref ob), .val (.int (4 : Int32)), .val (.ref oc), .val (.ref b1), .val (.ref ob), .val (.int (4 : Int32)), .val (.int (1 : Int32)), .val (.int (Int32.ofNat nk1))] [(.int ((Int32.ofNat nk1) + (1 : Int32))), (.ref b1)])) _
  have sd4 : ∀ u, Steps p.tables e below (T3.setTop (mkF m 39 #[.val (.ref oa), .val (.ref ob), .val (.int (4 : Int32)), .val (.ref oc), .val (.ref b1), .val (.ref ob), .val (.int (4 : Int32)), .val (.int (1 : Int32)), .val (.int (Int32.ofNat nk1))] [(.int ((Int32.ofNat nk1) + (1 : Int32))), (.ref b1), (.int ((Int32.ofNat nk1) + (1 : Int32))), (.ref b1)])) u → Steps p.tables e below (T3.setTop (mkF m 38 #[.val (.ref oa), .val (.ref ob), .val (.int (4 : Int32)), .val (.ref oc), .val (.ref b1), .val (.ref ob), .val (.int (4 : Int32)), .val (.int (1 : Int32)), .val (.int (Int32.ofNat nk1))] [(.int ((Int32.ofNat nk1) + (1 : Int32))), (.ref b1)])) u := by
    intro u k
    jvm_step X3.here [X3.here.top, hx, (hb hby d1_38), Value.category]
    exact k
  refine Goes.by (fun _ k => sd4 _ k) ?_
  show Goes p.tables e below (T3.setTop (mkF m 39 #[.val (.ref oa), .val (.ref ob), .val (.int (4 : Int32)), .val (.ref oc), .val (.ref b1), .val (.ref ob), .val (.int (4 : Int32)), .val (.int (1 : Int32)), .val (.int (Int32.ofNat nk1))] [(.int ((Int32.ofNat nk1) + (1 : Int32))), (.ref b1), (.int ((Int32.ofNat nk1) + (1 : Int32))), (.ref b1)])) _
  refine Goes.by (fun _ k => ldI (v := ((own_cnt1 nk0 nk1 nk2 nk3) (nk1 + 1))) (fr := (mkF m 39 #[.val (.ref oa), .val (.ref ob), .val (.int (4 : Int32)), .val (.ref oc), .val (.ref b1), .val (.ref ob), .val (.int (4 : Int32)), .val (.int (1 : Int32)), .val (.int (Int32.ofNat nk1))] [(.int ((Int32.ofNat nk1) + (1 : Int32))), (.ref b1), (.int ((Int32.ofNat nk1) + (1 : Int32))), (.ref b1)])) X3 hx hZ e3 A_b1 (i := (nk1 + 1)) (own_i1 nk1 (Nat.lt_trans hnk1 (by decide))) (Nat.succ_lt_succ hnk1) rfl rfl rfl (hb hby d1_39) k) ?_
  show Goes p.tables e below (T3.setTop (mkF m 40 #[.val (.ref oa), .val (.ref ob), .val (.int (4 : Int32)), .val (.ref oc), .val (.ref b1), .val (.ref ob), .val (.int (4 : Int32)), .val (.int (1 : Int32)), .val (.int (Int32.ofNat nk1))] [(.int ((own_cnt1 nk0 nk1 nk2 nk3) (nk1 + 1))), (.int ((Int32.ofNat nk1) + (1 : Int32))), (.ref b1)])) _
  refine Goes.by (fun _ k => XS.iconst X3.here hx rfl (hb hby d1_40) k) ?_
  show Goes p.tables e below (T3.setTop (mkF m 41 #[.val (.ref oa), .val (.ref ob), .val (.int (4 : Int32)), .val (.ref oc), .val (.ref b1), .val (.ref ob), .val (.int (4 : Int32)), .val (.int (1 : Int32)), .val (.int (Int32.ofNat nk1))] [(.int (1 : Int32)), (.int ((own_cnt1 nk0 nk1 nk2 nk3) (nk1 + 1))), (.int ((Int32.ofNat nk1) + (1 : Int32))), (.ref b1)])) _
  refine Goes.by (fun _ k => XS.iadd X3.here hx rfl (hb hby d1_41) rfl k) ?_
  show Goes p.tables e below (T3.setTop (mkF m 42 #[.val (.ref oa), .val (.ref ob), .val (.int (4 : Int32)), .val (.ref oc), .val (.ref b1), .val (.ref ob), .val (.int (4 : Int32)), .val (.int (1 : Int32)), .val (.int (Int32.ofNat nk1))] [(.int (((own_cnt1 nk0 nk1 nk2 nk3) (nk1 + 1)) + (1 : Int32))), (.int ((Int32.ofNat nk1) + (1 : Int32))), (.ref b1)])) _
  obtain ⟨T5, h5, X5, e5, W5, A5, st5⟩ := stAI (fr := (mkF m 42 #[.val (.ref oa), .val (.ref ob), .val (.int (4 : Int32)), .val (.ref oc), .val (.ref b1), .val (.ref ob), .val (.int (4 : Int32)), .val (.int (1 : Int32)), .val (.int (Int32.ofNat nk1))] [(.int (((own_cnt1 nk0 nk1 nk2 nk3) (nk1 + 1)) + (1 : Int32))), (.int ((Int32.ofNat nk1) + (1 : Int32))), (.ref b1)])) X3 hx hZ e3 A_b1 (i := (nk1 + 1)) (own_i1 nk1 (Nat.lt_trans hnk1 (by decide))) (Nat.succ_lt_succ hnk1) rfl rfl (hb hby d1_42)
  refine Goes.by st5 ?_
  have A_b1 : AI Z h5 b1 .int 5 (own_cnt2 nk0 nk1 nk2 nk3) := A5.congr (fun j hj => own_f4_2 ⟨nk0, hnk0⟩ ⟨nk1, hnk1⟩ ⟨nk2, hnk2⟩ ⟨nk3, hnk3⟩ ⟨j, hj⟩)
  have N5 := Fr.snoc X5 N3 g_b1
  have Zs5 : n0 ≤ h5.size := Nat.le_trans Zs3 (Keep.of_wr W5).1
  have K5 : Keep h0 h5 [oc] := K3.wr W5 (Or.inr sz_b1)
  have A_oa : AI Z h5 oa .int 4 pa := A_oa.other W5 ne_oa_b1
  have A_ob : AI Z h5 ob .int 4 (own_keys nk0 nk1 nk2 nk3) := A_ob.other W5 ne_ob_b1
  have A_oc : AI Z h5 oc .int 4 (fun _ => (0 : Int32)) := A_oc.other W5 ne_oc_b1
  show Goes p.tables e below (T5.setTop (mkF m 43 #[.val (.ref oa), .val (.ref ob), .val (.int (4 : Int32)), .val (.ref oc), .val (.ref b1), .val (.ref ob), .val (.int (4 : Int32)), .val (.int (1 : Int32)), .val (.int (Int32.ofNat nk1))] [])) _
  refine Goes.by (fun _ k => XS.iinc X5.here hx rfl (hb hby d1_43) rfl (l' := #[.val (.ref oa), .val (.ref ob), .val (.int (4 : Int32)), .val (.ref oc), .val (.ref b1), .val (.ref ob), .val (.int (4 : Int32)), .val (.int (2 : Int32)), .val (.int (Int32.ofNat nk1))]) rfl k) ?_
  show Goes p.tables e below (T5.setTop (mkF m 46 #[.val (.ref oa), .val (.ref ob), .val (.int (4 : Int32)), .val (.ref oc), .val (.ref b1), .val (.ref ob), .val (.int (4 : Int32)), .val (.int (2 : Int32)), .val (.int (Int32.ofNat nk1))] [])) _
  refine Goes.by (fun _ k => XS.goto X5.here hx rfl (pc0 := 46) (pc' := 18) rfl (hb hby d1_46) (by decide) (by decide) k) ?_
  show Goes p.tables e below (T5.setTop (mkF m 18 #[.val (.ref oa), .val (.ref ob), .val (.int (4 : Int32)), .val (.ref oc), .val (.ref b1), .val (.ref ob), .val (.int (4 : Int32)), .val (.int (2 : Int32)), .val (.int (Int32.ofNat nk1))] [])) _
  refine Goes.by (fun _ k => XS.iload X5.here hx rfl (hb hby d1_18) rfl k) ?_
  show Goes p.tables e below (T5.setTop (mkF m 20 #[.val (.ref oa), .val (.ref ob), .val (.int (4 : Int32)), .val (.ref oc), .val (.ref b1), .val (.ref ob), .val (.int (4 : Int32)), .val (.int (2 : Int32)), .val (.int (Int32.ofNat nk1))] [(.int (2 : Int32))])) _
  refine Goes.by (fun _ k => XS.iload X5.here hx rfl (hb hby d1_20) rfl k) ?_
  show Goes p.tables e below (T5.setTop (mkF m 22 #[.val (.ref oa), .val (.ref ob), .val (.int (4 : Int32)), .val (.ref oc), .val (.ref b1), .val (.ref ob), .val (.int (4 : Int32)), .val (.int (2 : Int32)), .val (.int (Int32.ofNat nk1))] [(.int (4 : Int32)), (.int (2 : Int32))])) _
  refine Goes.by (fun _ k => XS.icmpNo X5.here hx rfl (hb hby d1_22) rfl (tlt (by decide : (2 : Int32) < (4 : Int32))).2.1 k) ?_
  show Goes p.tables e below (T5.setTop (mkF m 25 #[.val (.ref oa), .val (.ref ob), .val (.int (4 : Int32)), .val (.ref oc), .val (.ref b1), .val (.ref ob), .val (.int (4 : Int32)), .val (.int (2 : Int32)), .val (.int (Int32.ofNat nk1))] [])) _
  refine Goes.by (fun _ k => XS.aload X5.here hx rfl (hb hby d1_25) rfl rfl k) ?_
  show Goes p.tables e below (T5.setTop (mkF m 27 #[.val (.ref oa), .val (.ref ob), .val (.int (4 : Int32)), .val (.ref oc), .val (.ref b1), .val (.ref ob), .val (.int (4 : Int32)), .val (.int (2 : Int32)), .val (.int (Int32.ofNat nk1))] [(.ref ob)])) _
  refine Goes.by (fun _ k => XS.iload X5.here hx rfl (hb hby d1_27) rfl k) ?_
  show Goes p.tables e below (T5.setTop (mkF m 29 #[.val (.ref oa), .val (.ref ob), .val (.int (4 : Int32)), .val (.ref oc), .val (.ref b1), .val (.ref ob), .val (.int (4 : Int32)), .val (.int (2 : Int32)), .val (.int (Int32.ofNat nk1))] [(.int (2 : Int32)), (.ref ob)])) _
  refine Goes.by (fun _ k => ldI (v := (Int32.ofNat nk2)) (fr := (mkF m 29 #[.val (.ref oa), .val (.ref ob), .val (.int (4 : Int32)), .val (.ref oc), .val (.ref b1), .val (.ref ob), .val (.int (4 : Int32)), .val (.int (2 : Int32)), .val (.int (Int32.ofNat nk1))] [(.int (2 : Int32)), (.ref ob)])) X5 hx hZ e5 A_ob (i := 2) (by decide) (by decide) rfl rfl rfl (hb hby d1_29) k) ?_
  show Goes p.tables e below (T5.setTop (mkF m 30 #[.val (.ref oa), .val (.ref ob), .val (.int (4 : Int32)), .val (.ref oc), .val (.ref b1), .val (.ref ob), .val (.int (4 : Int32)), .val (.int (2 : Int32)), .val (.int (Int32.ofNat nk1))] [(.int (Int32.ofNat nk2))])) _
  refine Goes.by (fun _ k => XS.istore X5.here hx rfl (hb hby d1_30) rfl (l' := #[.val (.ref oa), .val (.ref ob), .val (.int (4 : Int32)), .val (.ref oc), .val (.ref b1), .val (.ref ob), .val (.int (4 : Int32)), .val (.int (2 : Int32)), .val (.int (Int32.ofNat nk2))]) rfl k) ?_
  show Goes p.tables e below (T5.setTop (mkF m 32 #[.val (.ref oa), .val (.ref ob), .val (.int (4 : Int32)), .val (.ref oc), .val (.ref b1), .val (.ref ob), .val (.int (4 : Int32)), .val (.int (2 : Int32)), .val (.int (Int32.ofNat nk2))] [])) _
  refine Goes.by (fun _ k => XS.aload X5.here hx rfl (hb hby d1_32) rfl rfl k) ?_
  show Goes p.tables e below (T5.setTop (mkF m 34 #[.val (.ref oa), .val (.ref ob), .val (.int (4 : Int32)), .val (.ref oc), .val (.ref b1), .val (.ref ob), .val (.int (4 : Int32)), .val (.int (2 : Int32)), .val (.int (Int32.ofNat nk2))] [(.ref b1)])) _
  refine Goes.by (fun _ k => XS.iload X5.here hx rfl (hb hby d1_34) rfl k) ?_
  show Goes p.tables e below (T5.setTop (mkF m 36 #[.val (.ref oa), .val (.ref ob), .val (.int (4 : Int32)), .val (.ref oc), .val (.ref b1), .val (.ref ob), .val (.int (4 : Int32)), .val (.int (2 : Int32)), .val (.int (Int32.ofNat nk2))] [(.int (Int32.ofNat nk2)), (.ref b1)])) _
  refine Goes.by (fun _ k => XS.iconst X5.here hx rfl (hb hby d1_36) k) ?_
  show Goes p.tables e below (T5.setTop (mkF m 37 #[.val (.ref oa), .val (.ref ob), .val (.int (4 : Int32)), .val (.ref oc), .val (.ref b1), .val (.ref ob), .val (.int (4 : Int32)), .val (.int (2 : Int32)), .val (.int (Int32.ofNat nk2))] [(.int (1 : Int32)), (.int (Int32.ofNat nk2)), (.ref b1)])) _
  refine Goes.by (fun _ k => XS.iadd X5.here hx rfl (hb hby d1_37) rfl k) ?_
  show Goes p.tables e below (T5.setTop (mkF m 38 #[.val (.ref oa), .val (.ref ob), .val (.int (4 : Int32)), .val (.ref oc), .val (.ref b1), .val (.ref ob), .val (.int (4 : Int32)), .val (.int (2 : Int32)), .val (.int (Int32.ofNat nk2))] [(.int ((Int32.ofNat nk2) + (1 : Int32))), (.ref b1)])) _
  have sd6 : ∀ u, Steps p.tables e below (T5.setTop (mkF m 39 #[.val (.ref oa), .val (.ref ob), .val (.int (4 : Int32)), .val (.ref oc), .val (.ref b1), .val (.ref ob), .val (.int (4 : Int32)), .val (.int (2 : Int32)), .val (.int (Int32.ofNat nk2))] [(.int ((Int32.ofNat nk2) + (1 : Int32))), (.ref b1), (.int ((Int32.ofNat nk2) + (1 : Int32))), (.ref b1)])) u → Steps p.tables e below (T5.setTop (mkF m 38 #[.val (.ref oa), .val (.ref ob), .val (.int (4 : Int32)), .val (.ref oc), .val (.ref b1), .val (.ref ob), .val (.int (4 : Int32)), .val (.int (2 : Int32)), .val (.int (Int32.ofNat nk2))] [(.int ((Int32.ofNat nk2) + (1 : Int32))), (.ref b1)])) u := by
    intro u k
    jvm_step X5.here [X5.here.top, hx, (hb hby d1_38), Value.category]
    exact k
  refine Goes.by (fun _ k => sd6 _ k) ?_
  show Goes p.tables e below (T5.setTop (mkF m 39 #[.val (.ref oa), .val (.ref ob), .val (.int (4 : Int32)), .val (.ref oc), .val (.ref b1), .val (.ref ob), .val (.int (4 : Int32)), .val (.int (2 : Int32)), .val (.int (Int32.ofNat nk2))] [(.int ((Int32.ofNat nk2) + (1 : Int32))), (.ref b1), (.int ((Int32.ofNat nk2) + (1 : Int32))), (.ref b1)])) _
  refine Goes.by (fun _ k => ldI (v := ((own_cnt2 nk0 nk1 nk2 nk3) (nk2 + 1))) (fr := (mkF m 39 #[.val (.ref oa), .val (.ref ob), .val (.int (4 : Int32)), .val (.ref oc), .val (.ref b1), .val (.ref ob), .val (.int (4 : Int32)), .val (.int (2 : Int32)), .val (.int (Int32.ofNat nk2))] [(.int ((Int32.ofNat nk2) + (1 : Int32))), (.ref b1), (.int ((Int32.ofNat nk2) + (1 : Int32))), (.ref b1)])) X5 hx hZ e5 A_b1 (i := (nk2 + 1)) (own_i1 nk2 (Nat.lt_trans hnk2 (by decide))) (Nat.succ_lt_succ hnk2) rfl rfl rfl (hb hby d1_39) k) ?_
  show Goes p.tables e below (T5.setTop (mkF m 40 #[.val (.ref oa), .val (.ref ob), .val (.int (4 : Int32)), .val (.ref oc), .val (.ref b1), .val (.ref ob), .val (.int (4 : Int32)), .val (.int (2 : Int32)), .val (.int (Int32.ofNat nk2))] [(.int ((own_cnt2 nk0 nk1 nk2 nk3) (nk2 + 1))), (.int ((Int32.ofNat nk2) + (1 : Int32))), (.ref b1)])) _
  refine Goes.by (fun _ k => XS.iconst X5.here hx rfl (hb hby d1_40) k) ?_
  show Goes p.tables e below (T5.setTop (mkF m 41 #[.val (.ref oa), .val (.ref ob), .val (.int (4 : Int32)), .val (.ref oc), .val (.ref b1), .val (.ref ob), .val (.int (4 : Int32)), .val (.int (2 : Int32)), .val (.int (Int32.ofNat nk2))] [(.int (1 : Int32)), (.int ((own_cnt2 nk0 nk1 nk2 nk3) (nk2 + 1))), (.int ((Int32.ofNat nk2) + (1 : Int32))), (.ref b1)])) _
  refine Goes.by (fun _ k => XS.iadd X5.here hx rfl (hb hby d1_41) rfl k) ?_
  show Goes p.tables e below (T5.setTop (mkF m 42 #[.val (.ref oa), .val (.ref ob), .val (.int (4 : Int32)), .val (.ref oc), .val (.ref b1), .val (.ref ob), .val (.int (4 : Int32)), .val (.int (2 : Int32)), .val (.int (Int32.ofNat nk2))] [(.int (((own_cnt2 nk0 nk1 nk2 nk3) (nk2 + 1)) + (1 : Int32))), (.int ((Int32.ofNat nk2) + (1 : Int32))), (.ref b1)])) _
  obtain ⟨T7, h7, X7, e7, W7, A7, st7⟩ := stAI (fr := (mkF m 42 #[.val (.ref oa), .val (.ref ob), .val (.int (4 : Int32)), .val (.ref oc), .val (.ref b1), .val (.ref ob), .val (.int (4 : Int32)), .val (.int (2 : Int32)), .val (.int (Int32.ofNat nk2))] [(.int (((own_cnt2 nk0 nk1 nk2 nk3) (nk2 + 1)) + (1 : Int32))), (.int ((Int32.ofNat nk2) + (1 : Int32))), (.ref b1)])) X5 hx hZ e5 A_b1 (i := (nk2 + 1)) (own_i1 nk2 (Nat.lt_trans hnk2 (by decide))) (Nat.succ_lt_succ hnk2) rfl rfl (hb hby d1_42)
  refine Goes.by st7 ?_
  have A_b1 : AI Z h7 b1 .int 5 (own_cnt3 nk0 nk1 nk2 nk3) := A7.congr (fun j hj => own_f4_3 ⟨nk0, hnk0⟩ ⟨nk1, hnk1⟩ ⟨nk2, hnk2⟩ ⟨nk3, hnk3⟩ ⟨j, hj⟩)
  have N7 := Fr.snoc X7 N5 g_b1
  have Zs7 : n0 ≤ h7.size := Nat.le_trans Zs5 (Keep.of_wr W7).1
  have K7 : Keep h0 h7 [oc] := K5.wr W7 (Or.inr sz_b1)
  have A_oa : AI Z h7 oa .int 4 pa := A_oa.other W7 ne_oa_b1
  have A_ob : AI Z h7 ob .int 4 (own_keys nk0 nk1 nk2 nk3) := A_ob.other W7 ne_ob_b1
  have A_oc : AI Z h7 oc .int 4 (fun _ => (0 : Int32)) := A_oc.other W7 ne_oc_b1
  show Goes p.tables e below (T7.setTop (mkF m 43 #[.val (.ref oa), .val (.ref ob), .val (.int (4 : Int32)), .val (.ref oc), .val (.ref b1), .val (.ref ob), .val (.int (4 : Int32)), .val (.int (2 : Int32)), .val (.int (Int32.ofNat nk2))] [])) _
  refine Goes.by (fun _ k => XS.iinc X7.here hx rfl (hb hby d1_43) rfl (l' := #[.val (.ref oa), .val (.ref ob), .val (.int (4 : Int32)), .val (.ref oc), .val (.ref b1), .val (.ref ob), .val (.int (4 : Int32)), .val (.int (3 : Int32)), .val (.int (Int32.ofNat nk2))]) rfl k) ?_
  show Goes p.tables e below (T7.setTop (mkF m 46 #[.val (.ref oa), .val (.ref ob), .val (.int (4 : Int32)), .val (.ref oc), .val (.ref b1), .val (.ref ob), .val (.int (4 : Int32)), .val (.int (3 : Int32)), .val (.int (Int32.ofNat nk2))] [])) _
  refine Goes.by (fun _ k => XS.goto X7.here hx rfl (pc0 := 46) (pc' := 18) rfl (hb hby d1_46) (by decide) (by decide) k) ?_
  show Goes p.tables e below (T7.setTop (mkF m 18 #[.val (.ref oa), .val (.ref ob), .val (.int (4 : Int32)), .val (.ref oc), .val (.ref b1), .val (.ref ob), .val (.int (4 : Int32)), .val (.int (3 : Int32)), .val (.int (Int32.ofNat nk2))] [])) _
  refine Goes.by (fun _ k => XS.iload X7.here hx rfl (hb hby d1_18) rfl k) ?_
  show Goes p.tables e below (T7.setTop (mkF m 20 #[.val (.ref oa), .val (.ref ob), .val (.int (4 : Int32)), .val (.ref oc), .val (.ref b1), .val (.ref ob), .val (.int (4 : Int32)), .val (.int (3 : Int32)), .val (.int (Int32.ofNat nk2))] [(.int (3 : Int32))])) _
  refine Goes.by (fun _ k => XS.iload X7.here hx rfl (hb hby d1_20) rfl k) ?_
  show Goes p.tables e below (T7.setTop (mkF m 22 #[.val (.ref oa), .val (.ref ob), .val (.int (4 : Int32)), .val (.ref oc), .val (.ref b1), .val (.ref ob), .val (.int (4 : Int32)), .val (.int (3 : Int32)), .val (.int (Int32.ofNat nk2))] [(.int (4 : Int32)), (.int (3 : Int32))])) _
  refine Goes.by (fun _ k => XS.icmpNo X7.here hx rfl (hb hby d1_22) rfl (tlt (by decide : (3 : Int32) < (4 : Int32))).2.1 k) ?_
  show Goes p.tables e below (T7.setTop (mkF m 25 #[.val (.ref oa), .val (.ref ob), .val (.int (4 : Int32)), .val (.ref oc), .val (.ref b1), .val (.ref ob), .val (.int (4 : Int32)), .val (.int (3 : Int32)), .val (.int (Int32.ofNat nk2))] [])) _
  refine Goes.by (fun _ k => XS.aload X7.here hx rfl (hb hby d1_25) rfl rfl k) ?_
  show Goes p.tables e below (T7.setTop (mkF m 27 #[.val (.ref oa), .val (.ref ob), .val (.int (4 : Int32)), .val (.ref oc), .val (.ref b1), .val (.ref ob), .val (.int (4 : Int32)), .val (.int (3 : Int32)), .val (.int (Int32.ofNat nk2))] [(.ref ob)])) _
  refine Goes.by (fun _ k => XS.iload X7.here hx rfl (hb hby d1_27) rfl k) ?_
  show Goes p.tables e below (T7.setTop (mkF m 29 #[.val (.ref oa), .val (.ref ob), .val (.int (4 : Int32)), .val (.ref oc), .val (.ref b1), .val (.ref ob), .val (.int (4 : Int32)), .val (.int (3 : Int32)), .val (.int (Int32.ofNat nk2))] [(.int (3 : Int32)), (.ref ob)])) _
  refine Goes.by (fun _ k => ldI (v := (Int32.ofNat nk3)) (fr := (mkF m 29 #[.val (.ref oa), .val (.ref ob), .val (.int (4 : Int32)), .val (.ref oc), .val (.ref b1), .val (.ref ob), .val (.int (4 : Int32)), .val (.int (3 : Int32)), .val (.int (Int32.ofNat nk2))] [(.int (3 : Int32)), (.ref ob)])) X7 hx hZ e7 A_ob (i := 3) (by decide) (by decide) rfl rfl rfl (hb hby d1_29) k) ?_
  show Goes p.tables e below (T7.setTop (mkF m 30 #[.val (.ref oa), .val (.ref ob), .val (.int (4 : Int32)), .val (.ref oc), .val (.ref b1), .val (.ref ob), .val (.int (4 : Int32)), .val (.int (3 : Int32)), .val (.int (Int32.ofNat nk2))] [(.int (Int32.ofNat nk3))])) _
  refine Goes.by (fun _ k => XS.istore X7.here hx rfl (hb hby d1_30) rfl (l' := #[.val (.ref oa), .val (.ref ob), .val (.int (4 : Int32)), .val (.ref oc), .val (.ref b1), .val (.ref ob), .val (.int (4 : Int32)), .val (.int (3 : Int32)), .val (.int (Int32.ofNat nk3))]) rfl k) ?_
  show Goes p.tables e below (T7.setTop (mkF m 32 #[.val (.ref oa), .val (.ref ob), .val (.int (4 : Int32)), .val (.ref oc), .val (.ref b1), .val (.ref ob), .val (.int (4 : Int32)), .val (.int (3 : Int32)), .val (.int (Int32.ofNat nk3))] [])) _
  refine Goes.by (fun _ k => XS.aload X7.here hx rfl (hb hby d1_32) rfl rfl k) ?_
  show Goes p.tables e below (T7.setTop (mkF m 34 #[.val (.ref oa), .val (.ref ob), .val (.int (4 : Int32)), .val (.ref oc), .val (.ref b1), .val (.ref ob), .val (.int (4 : Int32)), .val (.int (3 : Int32)), .val (.int (Int32.ofNat nk3))] [(.ref b1)])) _
  refine Goes.by (fun _ k => XS.iload X7.here hx rfl (hb hby d1_34) rfl k) ?_
  show Goes p.tables e below (T7.setTop (mkF m 36 #[.val (.ref oa), .val (.ref ob), .val (.int (4 : Int32)), .val (.ref oc), .val (.ref b1), .val (.ref ob), .val (.int (4 : Int32)), .val (.int (3 : Int32)), .val (.int (Int32.ofNat nk3))] [(.int (Int32.ofNat nk3)), (.ref b1)])) _
  refine Goes.by (fun _ k => XS.iconst X7.here hx rfl (hb hby d1_36) k) ?_
  show Goes p.tables e below (T7.setTop (mkF m 37 #[.val (.ref oa), .val (.ref ob), .val (.int (4 : Int32)), .val (.ref oc), .val (.ref b1), .val (.ref ob), .val (.int (4 : Int32)), .val (.int (3 : Int32)), .val (.int (Int32.ofNat nk3))] [(.int (1 : Int32)), (.int (Int32.ofNat nk3)), (.ref b1)])) _
  refine Goes.by (fun _ k => XS.iadd X7.here hx rfl (hb hby d1_37) rfl k) ?_
  show Goes p.tables e below (T7.setTop (mkF m 38 #[.val (.ref oa), .val (.ref ob), .val (.int (4 : Int32)), .val (.ref oc), .val (.ref b1), .val (.ref ob), .val (.int (4 : Int32)), .val (.int (3 : Int32)), .val (.int (Int32.ofNat nk3))] [(.int ((Int32.ofNat nk3) + (1 : Int32))), (.ref b1)])) _
  have sd8 : ∀ u, Steps p.tables e below (T7.setTop (mkF m 39 #[.val (.ref oa), .val (.ref ob), .val (.int (4 : Int32)), .val (.ref oc), .val (.ref b1), .val (.ref ob), .val (.int (4 : Int32)), .val (.int (3 : Int32)), .val (.int (Int32.ofNat nk3))] [(.int ((Int32.ofNat nk3) + (1 : Int32))), (.ref b1), (.int ((Int32.ofNat nk3) + (1 : Int32))), (.ref b1)])) u → Steps p.tables e below (T7.setTop (mkF m 38 #[.val (.ref oa), .val (.ref ob), .val (.int (4 : Int32)), .val (.ref oc), .val (.ref b1), .val (.ref ob), .val (.int (4 : Int32)), .val (.int (3 : Int32)), .val (.int (Int32.ofNat nk3))] [(.int ((Int32.ofNat nk3) + (1 : Int32))), (.ref b1)])) u := by
    intro u k
    jvm_step X7.here [X7.here.top, hx, (hb hby d1_38), Value.category]
    exact k
  refine Goes.by (fun _ k => sd8 _ k) ?_
  show Goes p.tables e below (T7.setTop (mkF m 39 #[.val (.ref oa), .val (.ref ob), .val (.int (4 : Int32)), .val (.ref oc), .val (.ref b1), .val (.ref ob), .val (.int (4 : Int32)), .val (.int (3 : Int32)), .val (.int (Int32.ofNat nk3))] [(.int ((Int32.ofNat nk3) + (1 : Int32))), (.ref b1), (.int ((Int32.ofNat nk3) + (1 : Int32))), (.ref b1)])) _
  refine Goes.by (fun _ k => ldI (v := ((own_cnt3 nk0 nk1 nk2 nk3) (nk3 + 1))) (fr := (mkF m 39 #[.val (.ref oa), .val (.ref ob), .val (.int (4 : Int32)), .val (.ref oc), .val (.ref b1), .val (.ref ob), .val (.int (4 : Int32)), .val (.int (3 : Int32)), .val (.int (Int32.ofNat nk3))] [(.int ((Int32.ofNat nk3) + (1 : Int32))), (.ref b1), (.int ((Int32.ofNat nk3) + (1 : Int32))), (.ref b1)])) X7 hx hZ e7 A_b1 (i := (nk3 + 1)) (own_i1 nk3 (Nat.lt_trans hnk3 (by decide))) (Nat.succ_lt_succ hnk3) rfl rfl rfl (hb hby d1_39) k) ?_
  show Goes p.tables e below (T7.setTop (mkF m 40 #[.val (.ref oa), .val (.ref ob), .val (.int (4 : Int32)), .val (.ref oc), .val (.ref b1), .val (.ref ob), .val (.int (4 : Int32)), .val (.int (3 : Int32)), .val (.int (Int32.ofNat nk3))] [(.int ((own_cnt3 nk0 nk1 nk2 nk3) (nk3 + 1))), (.int ((Int32.ofNat nk3) + (1 : Int32))), (.ref b1)])) _
  refine Goes.by (fun _ k => XS.iconst X7.here hx rfl (hb hby d1_40) k) ?_
  show Goes p.tables e below (T7.setTop (mkF m 41 #[.val (.ref oa), .val (.ref ob), .val (.int (4 : Int32)), .val (.ref oc), .val (.ref b1), .val (.ref ob), .val (.int (4 : Int32)), .val (.int (3 : Int32)), .val (.int (Int32.ofNat nk3))] [(.int (1 : Int32)), (.int ((own_cnt3 nk0 nk1 nk2 nk3) (nk3 + 1))), (.int ((Int32.ofNat nk3) + (1 : Int32))), (.ref b1)])) _
  refine Goes.by (fun _ k => XS.iadd X7.here hx rfl (hb hby d1_41) rfl k) ?_
  show Goes p.tables e below (T7.setTop (mkF m 42 #[.val (.ref oa), .val (.ref ob), .val (.int (4 : Int32)), .val (.ref oc), .val (.ref b1), .val (.ref ob), .val (.int (4 : Int32)), .val (.int (3 : Int32)), .val (.int (Int32.ofNat nk3))] [(.int (((own_cnt3 nk0 nk1 nk2 nk3) (nk3 + 1)) + (1 : Int32))), (.int ((Int32.ofNat nk3) + (1 : Int32))), (.ref b1)])) _
  obtain ⟨T9, h9, X9, e9, W9, A9, st9⟩ := stAI (fr := (mkF m 42 #[.val (.ref oa), .val (.ref ob), .val (.int (4 : Int32)), .val (.ref oc), .val (.ref b1), .val (.ref ob), .val (.int (4 : Int32)), .val (.int (3 : Int32)), .val (.int (Int32.ofNat nk3))] [(.int (((own_cnt3 nk0 nk1 nk2 nk3) (nk3 + 1)) + (1 : Int32))), (.int ((Int32.ofNat nk3) + (1 : Int32))), (.ref b1)])) X7 hx hZ e7 A_b1 (i := (nk3 + 1)) (own_i1 nk3 (Nat.lt_trans hnk3 (by decide))) (Nat.succ_lt_succ hnk3) rfl rfl (hb hby d1_42)
  refine Goes.by st9 ?_
  have A_b1 : AI Z h9 b1 .int 5 (own_cnt4 nk0 nk1 nk2 nk3) := A9.congr (fun j hj => own_f4_4 ⟨nk0, hnk0⟩ ⟨nk1, hnk1⟩ ⟨nk2, hnk2⟩ ⟨nk3, hnk3⟩ ⟨j, hj⟩)
  have N9 := Fr.snoc X9 N7 g_b1
  have Zs9 : n0 ≤ h9.size := Nat.le_trans Zs7 (Keep.of_wr W9).1
  have K9 : Keep h0 h9 [oc] := K7.wr W9 (Or.inr sz_b1)
  have A_oa : AI Z h9 oa .int 4 pa := A_oa.other W9 ne_oa_b1
  have A_ob : AI Z h9 ob .int 4 (own_keys nk0 nk1 nk2 nk3) := A_ob.other W9 ne_ob_b1
  have A_oc : AI Z h9 oc .int 4 (fun _ => (0 : Int32)) := A_oc.other W9 ne_oc_b1
  show Goes p.tables e below (T9.setTop (mkF m 43 #[.val (.ref oa), .val (.ref ob), .val (.int (4 : Int32)), .val (.ref oc), .val (.ref b1), .val (.ref ob), .val (.int (4 : Int32)), .val (.int (3 : Int32)), .val (.int (Int32.ofNat nk3))] [])) _
  refine Goes.by (fun _ k => XS.iinc X9.here hx rfl (hb hby d1_43) rfl (l' := #[.val (.ref oa), .val (.ref ob), .val (.int (4 : Int32)), .val (.ref oc), .val (.ref b1), .val (.ref ob), .val (.int (4 : Int32)), .val (.int (4 : Int32)), .val (.int (Int32.ofNat nk3))]) rfl k) ?_
  show Goes p.tables e below (T9.setTop (mkF m 46 #[.val (.ref oa), .val (.ref ob), .val (.int (4 : Int32)), .val (.ref oc), .val (.ref b1), .val (.ref ob), .val (.int (4 : Int32)), .val (.int (4 : Int32)), .val (.int (Int32.ofNat nk3))] [])) _
  refine Goes.by (fun _ k => XS.goto X9.here hx rfl (pc0 := 46) (pc' := 18) rfl (hb hby d1_46) (by decide) (by decide) k) ?_
  show Goes p.tables e below (T9.setTop (mkF m 18 #[.val (.ref oa), .val (.ref ob), .val (.int (4 : Int32)), .val (.ref oc), .val (.ref b1), .val (.ref ob), .val (.int (4 : Int32)), .val (.int (4 : Int32)), .val (.int (Int32.ofNat nk3))] [])) _
  refine Goes.by (fun _ k => XS.iload X9.here hx rfl (hb hby d1_18) rfl k) ?_
  show Goes p.tables e below (T9.setTop (mkF m 20 #[.val (.ref oa), .val (.ref ob), .val (.int (4 : Int32)), .val (.ref oc), .val (.ref b1), .val (.ref ob), .val (.int (4 : Int32)), .val (.int (4 : Int32)), .val (.int (Int32.ofNat nk3))] [(.int (4 : Int32))])) _
  refine Goes.by (fun _ k => XS.iload X9.here hx rfl (hb hby d1_20) rfl k) ?_
  show Goes p.tables e below (T9.setTop (mkF m 22 #[.val (.ref oa), .val (.ref ob), .val (.int (4 : Int32)), .val (.ref oc), .val (.ref b1), .val (.ref ob), .val (.int (4 : Int32)), .val (.int (4 : Int32)), .val (.int (Int32.ofNat nk3))] [(.int (4 : Int32)), (.int (4 : Int32))])) _
  refine Goes.by (fun _ k => XS.icmpYes X9.here hx rfl (pc0 := 22) (pc' := 49) rfl (hb hby d1_22) rfl (flt (by decide : ¬ ((4 : Int32) < (4 : Int32)))).2.1 (by decide) (by decide) k) ?_
  show Goes p.tables e below (T9.setTop (mkF m 49 #[.val (.ref oa), .val (.ref ob), .val (.int (4 : Int32)), .val (.ref oc), .val (.ref b1), .val (.ref ob), .val (.int (4 : Int32)), .val (.int (4 : Int32)), .val (.int (Int32.ofNat nk3))] [])) _
  refine Goes.by (fun _ k => XS.iconst X9.here hx rfl (hb hby d1_49) k) ?_
  show Goes p.tables e below (T9.setTop (mkF m 50 #[.val (.ref oa), .val (.ref ob), .val (.int (4 : Int32)), .val (.ref oc), .val (.ref b1), .val (.ref ob), .val (.int (4 : Int32)), .val (.int (4 : Int32)), .val (.int (Int32.ofNat nk3))] [(.int (0 : Int32))])) _
  refine Goes.by (fun _ k => XS.istore X9.here hx rfl (hb hby d1_50) rfl (l' := #[.val (.ref oa), .val (.ref ob), .val (.int (4 : Int32)), .val (.ref oc), .val (.ref b1), .val (.int (0 : Int32)), .val (.int (4 : Int32)), .val (.int (4 : Int32)), .val (.int (Int32.ofNat nk3))]) rfl k) ?_
  show Goes p.tables e below (T9.setTop (mkF m 52 #[.val (.ref oa), .val (.ref ob), .val (.int (4 : Int32)), .val (.ref oc), .val (.ref b1), .val (.int (0 : Int32)), .val (.int (4 : Int32)), .val (.int (4 : Int32)), .val (.int (Int32.ofNat nk3))] [])) _
  refine Goes.by (fun _ k => XS.iload X9.here hx rfl (hb hby d1_52) rfl k) ?_
  show Goes p.tables e below (T9.setTop (mkF m 54 #[.val (.ref oa), .val (.ref ob), .val (.int (4 : Int32)), .val (.ref oc), .val (.ref b1), .val (.int (0 : Int32)), .val (.int (4 : Int32)), .val (.int (4 : Int32)), .val (.int (Int32.ofNat nk3))] [(.int (0 : Int32))])) _
  refine Goes.by (fun _ k => XS.iloadN X9.here hx rfl (hb hby d1_54) rfl k) ?_
  show Goes p.tables e below (T9.setTop (mkF m 55 #[.val (.ref oa), .val (.ref ob), .val (.int (4 : Int32)), .val (.ref oc), .val (.ref b1), .val (.int (0 : Int32)), .val (.int (4 : Int32)), .val (.int (4 : Int32)), .val (.int (Int32.ofNat nk3))] [(.int (4 : Int32)), (.int (0 : Int32))])) _
  refine Goes.by (fun _ k => XS.icmpNo X9.here hx rfl (hb hby d1_55) rfl (tlt (by decide : (0 : Int32) < (4 : Int32))).2.1 k) ?_
  show Goes p.tables e below (T9.setTop (mkF m 58 #[.val (.ref oa), .val (.ref ob), .val (.int (4 : Int32)), .val (.ref oc), .val (.ref b1), .val (.int (0 : Int32)), .val (.int (4 : Int32)), .val (.int (4 : Int32)), .val (.int (Int32.ofNat nk3))] [])) _
  refine Goes.by (fun _ k => XS.aload X9.here hx rfl (hb hby d1_58) rfl rfl k) ?_
  show Goes p.tables e below (T9.setTop (mkF m 60 #[.val (.ref oa), .val (.ref ob), .val (.int (4 : Int32)), .val (.ref oc), .val (.ref b1), .val (.int (0 : Int32)), .val (.int (4 : Int32)), .val (.int (4 : Int32)), .val (.int (Int32.ofNat nk3))] [(.ref b1)])) _
  refine Goes.by (fun _ k => XS.iload X9.here hx rfl (hb hby d1_60) rfl k) ?_
  show Goes p.tables e below (T9.setTop (mkF m 62 #[.val (.ref oa), .val (.ref ob), .val (.int (4 : Int32)), .val (.ref oc), .val (.ref b1), .val (.int (0 : Int32)), .val (.int (4 : Int32)), .val (.int (4 : Int32)), .val (.int (Int32.ofNat nk3))] [(.int (0 : Int32)), (.ref b1)])) _
  refine Goes.by (fun _ k => XS.iconst X9.here hx rfl (hb hby d1_62) k) ?_
  show Goes p.tables e below (T9.setTop (mkF m 63 #[.val (.ref oa), .val (.ref ob), .val (.int (4 : Int32)), .val (.ref oc), .val (.ref b1), .val (.int (0 : Int32)), .val (.int (4 : Int32)), .val (.int (4 : Int32)), .val (.int (Int32.ofNat nk3))] [(.int (1 : Int32)), (.int (0 : Int32)), (.ref b1)])) _
  refine Goes.by (fun _ k => XS.iadd X9.here hx rfl (hb hby d1_63) rfl k) ?_
  show Goes p.tables e below (T9.setTop (mkF m 64 #[.val (.ref oa), .val (.ref ob), .val (.int (4 : Int32)), .val (.ref oc), .val (.ref b1), .val (.int (0 : Int32)), .val (.int (4 : Int32)), .val (.int (4 : Int32)), .val (.int (Int32.ofNat nk3))] [(.int (1 : Int32)), (.ref b1)])) _
  have sd10 : ∀ u, Steps p.tables e below (T9.setTop (mkF m 65 #[.val (.ref oa), .val (.ref ob), .val (.int (4 : Int32)), .val (.ref oc), .val (.ref b1), .val (.int (0 : Int32)), .val (.int (4 : Int32)), .val (.int (4 : Int32)), .val (.int (Int32.ofNat nk3))] [(.int (1 : Int32)), (.ref b1), (.int (1 : Int32)), (.ref b1)])) u → Steps p.tables e below (T9.setTop (mkF m 64 #[.val (.ref oa), .val (.ref ob), .val (.int (4 : Int32)), .val (.ref oc), .val (.ref b1), .val (.int (0 : Int32)), .val (.int (4 : Int32)), .val (.int (4 : Int32)), .val (.int (Int32.ofNat nk3))] [(.int (1 : Int32)), (.ref b1)])) u := by
    intro u k
    jvm_step X9.here [X9.here.top, hx, (hb hby d1_64), Value.category]
    exact k
  refine Goes.by (fun _ k => sd10 _ k) ?_
  show Goes p.tables e below (T9.setTop (mkF m 65 #[.val (.ref oa), .val (.ref ob), .val (.int (4 : Int32)), .val (.ref oc), .val (.ref b1), .val (.int (0 : Int32)), .val (.int (4 : Int32)), .val (.int (4 : Int32)), .val (.int (Int32.ofNat nk3))] [(.int (1 : Int32)), (.ref b1), (.int (1 : Int32)), (.ref b1)])) _
  refine Goes.by (fun _ k => ldI (v := ((own_cnt4 nk0 nk1 nk2 nk3) 1)) (fr := (mkF m 65 #[.val (.ref oa), .val (.ref ob), .val (.int (4 : Int32)), .val (.ref oc), .val (.ref b1), .val (.int (0 : Int32)), .val (.int (4 : Int32)), .val (.int (4 : Int32)), .val (.int (Int32.ofNat nk3))] [(.int (1 : Int32)), (.ref b1), (.int (1 : Int32)), (.ref b1)])) X9 hx hZ e9 A_b1 (i := 1) (by decide) (by decide) rfl rfl rfl (hb hby d1_65) k) ?_
  show Goes p.tables e below (T9.setTop (mkF m 66 #[.val (.ref oa), .val (.ref ob), .val (.int (4 : Int32)), .val (.ref oc), .val (.ref b1), .val (.int (0 : Int32)), .val (.int (4 : Int32)), .val (.int (4 : Int32)), .val (.int (Int32.ofNat nk3))] [(.int ((own_cnt4 nk0 nk1 nk2 nk3) 1)), (.int (1 : Int32)), (.ref b1)])) _
  refine Goes.by (fun _ k => XS.aload X9.here hx rfl (hb hby d1_66) rfl rfl k) ?_
  show Goes p.tables e below (T9.setTop (mkF m 68 #[.val (.ref oa), .val (.ref ob), .val (.int (4 : Int32)), .val (.ref oc), .val (.ref b1), .val (.int (0 : Int32)), .val (.int (4 : Int32)), .val (.int (4 : Int32)), .val (.int (Int32.ofNat nk3))] [(.ref b1), (.int ((own_cnt4 nk0 nk1 nk2 nk3) 1)), (.int (1 : Int32)), (.ref b1)])) _
  refine Goes.by (fun _ k => XS.iload X9.here hx rfl (hb hby d1_68) rfl k) ?_
  show Goes p.tables e below (T9.setTop (mkF m 70 #[.val (.ref oa), .val (.ref ob), .val (.int (4 : Int32)), .val (.ref oc), .val (.ref b1), .val (.int (0 : Int32)), .val (.int (4 : Int32)), .val (.int (4 : Int32)), .val (.int (Int32.ofNat nk3))] [(.int (0 : Int32)), (.ref b1), (.int ((own_cnt4 nk0 nk1 nk2 nk3) 1)), (.int (1 : Int32)), (.ref b1)])) _
  refine Goes.by (fun _ k => ldI (v := ((own_cnt4 nk0 nk1 nk2 nk3) 0)) (fr := (mkF m 70 #[.val (.ref oa), .val (.ref ob), .val (.int (4 : Int32)), .val (.ref oc), .val (.ref b1), .val (.int (0 : Int32)), .val (.int (4 : Int32)), .val (.int (4 : Int32)), .val (.int (Int32.ofNat nk3))] [(.int (0 : Int32)), (.ref b1), (.int ((own_cnt4 nk0 nk1 nk2 nk3) 1)), (.int (1 : Int32)), (.ref b1)])) X9 hx hZ e9 A_b1 (i := 0) (by decide) (by decide) rfl rfl rfl (hb hby d1_70) k) ?_
  show Goes p.tables e below (T9.setTop (mkF m 71 #[.val (.ref oa), .val (.ref ob), .val (.int (4 : Int32)), .val (.ref oc), .val (.ref b1), .val (.int (0 : Int32)), .val (.int (4 : Int32)), .val (.int (4 : Int32)), .val (.int (Int32.ofNat nk3))] [(.int ((own_cnt4 nk0 nk1 nk2 nk3) 0)), (.int ((own_cnt4 nk0 nk1 nk2 nk3) 1)), (.int (1 : Int32)), (.ref b1)])) _
  refine Goes.by (fun _ k => XS.iadd X9.here hx rfl (hb hby d1_71) rfl k) ?_
  show Goes p.tables e below (T9.setTop (mkF m 72 #[.val (.ref oa), .val (.ref ob), .val (.int (4 : Int32)), .val (.ref oc), .val (.ref b1), .val (.int (0 : Int32)), .val (.int (4 : Int32)), .val (.int (4 : Int32)), .val (.int (Int32.ofNat nk3))] [(.int (((own_cnt4 nk0 nk1 nk2 nk3) 1) + ((own_cnt4 nk0 nk1 nk2 nk3) 0))), (.int (1 : Int32)), (.ref b1)])) _
  obtain ⟨T11, h11, X11, e11, W11, A11, st11⟩ := stAI (fr := (mkF m 72 #[.val (.ref oa), .val (.ref ob), .val (.int (4 : Int32)), .val (.ref oc), .val (.ref b1), .val (.int (0 : Int32)), .val (.int (4 : Int32)), .val (.int (4 : Int32)), .val (.int (Int32.ofNat nk3))] [(.int (((own_cnt4 nk0 nk1 nk2 nk3) 1) + ((own_cnt4 nk0 nk1 nk2 nk3) 0))), (.int (1 : Int32)), (.ref b1)])) X9 hx hZ e9 A_b1 (i := 1) (by decide) (by decide) rfl rfl (hb hby d1_72)
  refine Goes.by st11 ?_
  have A_b1 : AI Z h11 b1 .int 5 (own_pre 1 nk0 nk1 nk2 nk3) := A11.congr (fun j hj => own_f4_5 ⟨nk0, hnk0⟩ ⟨nk1, hnk1⟩ ⟨nk2, hnk2⟩ ⟨nk3, hnk3⟩ ⟨j, hj⟩)
  have N11 := Fr.snoc X11 N9 g_b1
  have Zs11 : n0 ≤ h11.size := Nat.le_trans Zs9 (Keep.of_wr W11).1
  have K11 : Keep h0 h11 [oc] := K9.wr W11 (Or.inr sz_b1)
  have A_oa : AI Z h11 oa .int 4 pa := A_oa.other W11 ne_oa_b1
  have A_ob : AI Z h11 ob .int 4 (own_keys nk0 nk1 nk2 nk3) := A_ob.other W11 ne_ob_b1
  have A_oc : AI Z h11 oc .int 4 (fun _ => (0 : Int32)) := A_oc.other W11 ne_oc_b1
  show Goes p.tables e below (T11.setTop (mkF m 73 #[.val (.ref oa), .val (.ref ob), .val (.int (4 : Int32)), .val (.ref oc), .val (.ref b1), .val (.int (0 : Int32)), .val (.int (4 : Int32)), .val (.int (4 : Int32)), .val (.int (Int32.ofNat nk3))] [])) _
  refine Goes.by (fun _ k => XS.iinc X11.here hx rfl (hb hby d1_73) rfl (l' := #[.val (.ref oa), .val (.ref ob), .val (.int (4 : Int32)), .val (.ref oc), .val (.ref b1), .val (.int (1 : Int32)), .val (.int (4 : Int32)), .val (.int (4 : Int32)), .val (.int (Int32.ofNat nk3))]) rfl k) ?_
  show Goes p.tables e below (T11.setTop (mkF m 76 #[.val (.ref oa), .val (.ref ob), .val (.int (4 : Int32)), .val (.ref oc), .val (.ref b1), .val (.int (1 : Int32)), .val (.int (4 : Int32)), .val (.int (4 : Int32)), .val (.int (Int32.ofNat nk3))] [])) _
  refine Goes.by (fun _ k => XS.goto X11.here hx rfl (pc0 := 76) (pc' := 52) rfl (hb hby d1_76) (by decide) (by decide) k) ?_
  show Goes p.tables e below (T11.setTop (mkF m 52 #[.val (.ref oa), .val (.ref ob), .val (.int (4 : Int32)), .val (.ref oc), .val (.ref b1), .val (.int (1 : Int32)), .val (.int (4 : Int32)), .val (.int (4 : Int32)), .val (.int (Int32.ofNat nk3))] [])) _
  refine Goes.by (fun _ k => XS.iload X11.here hx rfl (hb hby d1_52) rfl k) ?_
  show Goes p.tables e below (T11.setTop (mkF m 54 #[.val (.ref oa), .val (.ref ob), .val (.int (4 : Int32)), .val (.ref oc), .val (.ref b1), .val (.int (1 : Int32)), .val (.int (4 : Int32)), .val (.int (4 : Int32)), .val (.int (Int32.ofNat nk3))] [(.int (1 : Int32))])) _
  refine Goes.by (fun _ k => XS.iloadN X11.here hx rfl (hb hby d1_54) rfl k) ?_
  show Goes p.tables e below (T11.setTop (mkF m 55 #[.val (.ref oa), .val (.ref ob), .val (.int (4 : Int32)), .val (.ref oc), .val (.ref b1), .val (.int (1 : Int32)), .val (.int (4 : Int32)), .val (.int (4 : Int32)), .val (.int (Int32.ofNat nk3))] [(.int (4 : Int32)), (.int (1 : Int32))])) _
  refine Goes.by (fun _ k => XS.icmpNo X11.here hx rfl (hb hby d1_55) rfl (tlt (by decide : (1 : Int32) < (4 : Int32))).2.1 k) ?_
  show Goes p.tables e below (T11.setTop (mkF m 58 #[.val (.ref oa), .val (.ref ob), .val (.int (4 : Int32)), .val (.ref oc), .val (.ref b1), .val (.int (1 : Int32)), .val (.int (4 : Int32)), .val (.int (4 : Int32)), .val (.int (Int32.ofNat nk3))] [])) _
  refine Goes.by (fun _ k => XS.aload X11.here hx rfl (hb hby d1_58) rfl rfl k) ?_
  show Goes p.tables e below (T11.setTop (mkF m 60 #[.val (.ref oa), .val (.ref ob), .val (.int (4 : Int32)), .val (.ref oc), .val (.ref b1), .val (.int (1 : Int32)), .val (.int (4 : Int32)), .val (.int (4 : Int32)), .val (.int (Int32.ofNat nk3))] [(.ref b1)])) _
  refine Goes.by (fun _ k => XS.iload X11.here hx rfl (hb hby d1_60) rfl k) ?_
  show Goes p.tables e below (T11.setTop (mkF m 62 #[.val (.ref oa), .val (.ref ob), .val (.int (4 : Int32)), .val (.ref oc), .val (.ref b1), .val (.int (1 : Int32)), .val (.int (4 : Int32)), .val (.int (4 : Int32)), .val (.int (Int32.ofNat nk3))] [(.int (1 : Int32)), (.ref b1)])) _
  refine Goes.by (fun _ k => XS.iconst X11.here hx rfl (hb hby d1_62) k) ?_
  show Goes p.tables e below (T11.setTop (mkF m 63 #[.val (.ref oa), .val (.ref ob), .val (.int (4 : Int32)), .val (.ref oc), .val (.ref b1), .val (.int (1 : Int32)), .val (.int (4 : Int32)), .val (.int (4 : Int32)), .val (.int (Int32.ofNat nk3))] [(.int (1 : Int32)), (.int (1 : Int32)), (.ref b1)])) _
  refine Goes.by (fun _ k => XS.iadd X11.here hx rfl (hb hby d1_63) rfl k) ?_
  show Goes p.tables e below (T11.setTop (mkF m 64 #[.val (.ref oa), .val (.ref ob), .val (.int (4 : Int32)), .val (.ref oc), .val (.ref b1), .val (.int (1 : Int32)), .val (.int (4 : Int32)), .val (.int (4 : Int32)), .val (.int (Int32.ofNat nk3))] [(.int (2 : Int32)), (.ref b1)])) _
  have sd12 : ∀ u, Steps p.tables e below (T11.setTop (mkF m 65 #[.val (.ref oa), .val (.ref ob), .val (.int (4 : Int32)), .val (.ref oc), .val (.ref b1), .val (.int (1 : Int32)), .val (.int (4 : Int32)), .val (.int (4 : Int32)), .val (.int (Int32.ofNat nk3))] [(.int (2 : Int32)), (.ref b1), (.int (2 : Int32)), (.ref b1)])) u → Steps p.tables e below (T11.setTop (mkF m 64 #[.val (.ref oa), .val (.ref ob), .val (.int (4 : Int32)), .val (.ref oc), .val (.ref b1), .val (.int (1 : Int32)), .val (.int (4 : Int32)), .val (.int (4 : Int32)), .val (.int (Int32.ofNat nk3))] [(.int (2 : Int32)), (.ref b1)])) u := by
    intro u k
    jvm_step X11.here [X11.here.top, hx, (hb hby d1_64), Value.category]
    exact k
  refine Goes.by (fun _ k => sd12 _ k) ?_
  show Goes p.tables e below (T11.setTop (mkF m 65 #[.val (.ref oa), .val (.ref ob), .val (.int (4 : Int32)), .val (.ref oc), .val (.ref b1), .val (.int (1 : Int32)), .val (.int (4 : Int32)), .val (.int (4 : Int32)), .val (.int (Int32.ofNat nk3))] [(.int (2 : Int32)), (.ref b1), (.int (2 : Int32)), (.ref b1)])) _
  refine Goes.by (fun _ k => ldI (v := ((own_pre 1 nk0 nk1 nk2 nk3) 2)) (fr := (mkF m 65 #[.val (.ref oa), .val (.ref ob), .val (.int (4 : Int32)), .val (.ref oc), .val (.ref b1), .val (.int (1 : Int32)), .val (.int (4 : Int32)), .val (.int (4 : Int32)), .val (.int (Int32.ofNat nk3))] [(.int (2 : Int32)), (.ref b1), (.int (2 : Int32)), (.ref b1)])) X11 hx hZ e11 A_b1 (i := 2) (by decide) (by decide) rfl rfl rfl (hb hby d1_65) k) ?_
  show Goes p.tables e below (T11.setTop (mkF m 66 #[.val (.ref oa), .val (.ref ob), .val (.int (4 : Int32)), .val (.ref oc), .val (.ref b1), .val (.int (1 : Int32)), .val (.int (4 : Int32)), .val (.int (4 : Int32)), .val (.int (Int32.ofNat nk3))] [(.int ((own_pre 1 nk0 nk1 nk2 nk3) 2)), (.int (2 : Int32)), (.ref b1)])) _
  refine Goes.by (fun _ k => XS.aload X11.here hx rfl (hb hby d1_66) rfl rfl k) ?_
  show Goes p.tables e below (T11.setTop (mkF m 68 #[.val (.ref oa), .val (.ref ob), .val (.int (4 : Int32)), .val (.ref oc), .val (.ref b1), .val (.int (1 : Int32)), .val (.int (4 : Int32)), .val (.int (4 : Int32)), .val (.int (Int32.ofNat nk3))] [(.ref b1), (.int ((own_pre 1 nk0 nk1 nk2 nk3) 2)), (.int (2 : Int32)), (.ref b1)])) _
  refine Goes.by (fun _ k => XS.iload X11.here hx rfl (hb hby d1_68) rfl k) ?_
  show Goes p.tables e below (T11.setTop (mkF m 70 #[.val (.ref oa), .val (.ref ob), .val (.int (4 : Int32)), .val (.ref oc), .val (.ref b1), .val (.int (1 : Int32)), .val (.int (4 : Int32)), .val (.int (4 : Int32)), .val (.int (Int32.ofNat nk3))] [(.int (1 : Int32)), (.ref b1), (.int ((own_pre 1 nk0 nk1 nk2 nk3) 2)), (.int (2 : Int32)), (.ref b1)])) _
  refine Goes.by (fun _ k => ldI (v := ((own_pre 1 nk0 nk1 nk2 nk3) 1)) (fr := (mkF m 70 #[.val (.ref oa), .val (.ref ob), .val (.int (4 : Int32)), .val (.ref oc), .val (.ref b1), .val (.int (1 : Int32)), .val (.int (4 : Int32)), .val (.int (4 : Int32)), .val (.int (Int32.ofNat nk3))] [(.int (1 : Int32)), (.ref b1), (.int ((own_pre 1 nk0 nk1 nk2 nk3) 2)), (.int (2 : Int32)), (.ref b1)])) X11 hx hZ e11 A_b1 (i := 1) (by decide) (by decide) rfl rfl rfl (hb hby d1_70) k) ?_
  show Goes p.tables e below (T11.setTop (mkF m 71 #[.val (.ref oa), .val (.ref ob), .val (.int (4 : Int32)), .val (.ref oc), .val (.ref b1), .val (.int (1 : Int32)), .val (.int (4 : Int32)), .val (.int (4 : Int32)), .val (.int (Int32.ofNat nk3))] [(.int ((own_pre 1 nk0 nk1 nk2 nk3) 1)), (.int ((own_pre 1 nk0 nk1 nk2 nk3) 2)), (.int (2 : Int32)), (.ref b1)])) _
  refine Goes.by (fun _ k => XS.iadd X11.here hx rfl (hb hby d1_71) rfl k) ?_
  show Goes p.tables e below (T11.setTop (mkF m 72 #[.val (.ref oa), .val (.ref ob), .val (.int (4 : Int32)), .val (.ref oc), .val (.ref b1), .val (.int (1 : Int32)), .val (.int (4 : Int32)), .val (.int (4 : Int32)), .val (.int (Int32.ofNat nk3))] [(.int (((own_pre 1 nk0 nk1 nk2 nk3) 2) + ((own_pre 1 nk0 nk1 nk2 nk3) 1))), (.int (2 : Int32)), (.ref b1)])) _
  obtain ⟨T13, h13, X13, e13, W13, A13, st13⟩ := stAI (fr := (mkF m 72 #[.val (.ref oa), .val (.ref ob), .val (.int (4 : Int32)), .val (.ref oc), .val (.ref b1), .val (.int (1 : Int32)), .val (.int (4 : Int32)), .val (.int (4 : Int32)), .val (.int (Int32.ofNat nk3))] [(.int (((own_pre 1 nk0 nk1 nk2 nk3) 2) + ((own_pre 1 nk0 nk1 nk2 nk3) 1))), (.int (2 : Int32)), (.ref b1)])) X11 hx hZ e11 A_b1 (i := 2) (by decide) (by decide) rfl rfl (hb hby d1_72)
  refine Goes.by st13 ?_
  have A_b1 : AI Z h13 b1 .int 5 (own_pre 2 nk0 nk1 nk2 nk3) := A13.congr (fun j hj => own_f4_6 ⟨nk0, hnk0⟩ ⟨nk1, hnk1⟩ ⟨nk2, hnk2⟩ ⟨nk3, hnk3⟩ ⟨j, hj⟩)
  have N13 := Fr.snoc X13 N11 g_b1
  have Zs13 : n0 ≤ h13.size := Nat.le_trans Zs11 (Keep.of_wr W13).1
  have K13 : Keep h0 h13 [oc] := K11.wr W13 (Or.inr sz_b1)
  have A_oa : AI Z h13 oa .int 4 pa := A_oa.other W13 ne_oa_b1
  have A_ob : AI Z h13 ob .int 4 (own_keys nk0 nk1 nk2 nk3) := A_ob.other W13 ne_ob_b1
  have A_oc : AI Z h13 oc .int 4 (fun _ => (0 : Int32)) := A_oc.other W13 ne_oc_b1
  show Goes p.tables e below (T13.setTop (mkF m 73 #[.val (.ref oa), .val (.ref ob), .val (.int (4 : Int32)), .val (.ref oc), .val (.ref b1), .val (.int (1 : Int32)), .val (.int (4 : Int32)), .val (.int (4 : Int32)), .val (.int (Int32.ofNat nk3))] [])) _
  refine Goes.by (fun _ k => XS.iinc X13.here hx rfl (hb hby d1_73) rfl (l' := #[.val (.ref oa), .val (.ref ob), .val (.int (4 : Int32)), .val (.ref oc), .val (.ref b1), .val (.int (2 : Int32)), .val (.int (4 : Int32)), .val (.int (4 : Int32)), .val (.int (Int32.ofNat nk3))]) rfl k) ?_
  show Goes p.tables e below (T13.setTop (mkF m 76 #[.val (.ref oa), .val (.ref ob), .val (.int (4 : Int32)), .val (.ref oc), .val (.ref b1), .val (.int (2 : Int32)), .val (.int (4 : Int32)), .val (.int (4 : Int32)), .val (.int (Int32.ofNat nk3))] [])) _
  refine Goes.by (fun _ k => XS.goto X13.here hx rfl (pc0 := 76) (pc' := 52) rfl (hb hby d1_76) (by decide) (by decide) k) ?_
  show Goes p.tables e below (T13.setTop (mkF m 52 #[.val (.ref oa), .val (.ref ob), .val (.int (4 : Int32)), .val (.ref oc), .val (.ref b1), .val (.int (2 : Int32)), .val (.int (4 : Int32)), .val (.int (4 : Int32)), .val (.int (Int32.ofNat nk3))] [])) _
  refine Goes.by (fun _ k => XS.iload X13.here hx rfl (hb hby d1_52) rfl k) ?_
  show Goes p.tables e below (T13.setTop (mkF m 54 #[.val (.ref oa), .val (.ref ob), .val (.int (4 : Int32)), .val (.ref oc), .val (.ref b1), .val (.int (2 : Int32)), .val (.int (4 : Int32)), .val (.int (4 : Int32)), .val (.int (Int32.ofNat nk3))] [(.int (2 : Int32))])) _
  refine Goes.by (fun _ k => XS.iloadN X13.here hx rfl (hb hby d1_54) rfl k) ?_
  show Goes p.tables e below (T13.setTop (mkF m 55 #[.val (.ref oa), .val (.ref ob), .val (.int (4 : Int32)), .val (.ref oc), .val (.ref b1), .val (.int (2 : Int32)), .val (.int (4 : Int32)), .val (.int (4 : Int32)), .val (.int (Int32.ofNat nk3))] [(.int (4 : Int32)), (.int (2 : Int32))])) _
  refine Goes.by (fun _ k => XS.icmpNo X13.here hx rfl (hb hby d1_55) rfl (tlt (by decide : (2 : Int32) < (4 : Int32))).2.1 k) ?_
  show Goes p.tables e below (T13.setTop (mkF m 58 #[.val (.ref oa), .val (.ref ob), .val (.int (4 : Int32)), .val (.ref oc), .val (.ref b1), .val (.int (2 : Int32)), .val (.int (4 : Int32)), .val (.int (4 : Int32)), .val (.int (Int32.ofNat nk3))] [])) _
  refine Goes.by (fun _ k => XS.aload X13.here hx rfl (hb hby d1_58) rfl rfl k) ?_
  show Goes p.tables e below (T13.setTop (mkF m 60 #[.val (.ref oa), .val (.ref ob), .val (.int (4 : Int32)), .val (.ref oc), .val (.ref b1), .val (.int (2 : Int32)), .val (.int (4 : Int32)), .val (.int (4 : Int32)), .val (.int (Int32.ofNat nk3))] [(.ref b1)])) _
  refine Goes.by (fun _ k => XS.iload X13.here hx rfl (hb hby d1_60) rfl k) ?_
  show Goes p.tables e below (T13.setTop (mkF m 62 #[.val (.ref oa), .val (.ref ob), .val (.int (4 : Int32)), .val (.ref oc), .val (.ref b1), .val (.int (2 : Int32)), .val (.int (4 : Int32)), .val (.int (4 : Int32)), .val (.int (Int32.ofNat nk3))] [(.int (2 : Int32)), (.ref b1)])) _
  refine Goes.by (fun _ k => XS.iconst X13.here hx rfl (hb hby d1_62) k) ?_
  show Goes p.tables e below (T13.setTop (mkF m 63 #[.val (.ref oa), .val (.ref ob), .val (.int (4 : Int32)), .val (.ref oc), .val (.ref b1), .val (.int (2 : Int32)), .val (.int (4 : Int32)), .val (.int (4 : Int32)), .val (.int (Int32.ofNat nk3))] [(.int (1 : Int32)), (.int (2 : Int32)), (.ref b1)])) _
  refine Goes.by (fun _ k => XS.iadd X13.here hx rfl (hb hby d1_63) rfl k) ?_
  show Goes p.tables e below (T13.setTop (mkF m 64 #[.val (.ref oa), .val (.ref ob), .val (.int (4 : Int32)), .val (.ref oc), .val (.ref b1), .val (.int (2 : Int32)), .val (.int (4 : Int32)), .val (.int (4 : Int32)), .val (.int (Int32.ofNat nk3))] [(.int (3 : Int32)), (.ref b1)])) _
  have sd14 : ∀ u, Steps p.tables e below (T13.setTop (mkF m 65 #[.val (.ref oa), .val (.ref ob), .val (.int (4 : Int32)), .val (.ref oc), .val (.ref b1), .val (.int (2 : Int32)), .val (.int (4 : Int32)), .val (.int (4 : Int32)), .val (.int (Int32.ofNat nk3))] [(.int (3 : Int32)), (.ref b1), (.int (3 : Int32)), (.ref b1)])) u → Steps p.tables e below (T13.setTop (mkF m 64 #[.val (.ref oa), .val (.ref ob), .val (.int (4 : Int32)), .val (.ref oc), .val (.ref b1), .val (.int (2 : Int32)), .val (.int (4 : Int32)), .val (.int (4 : Int32)), .val (.int (Int32.ofNat nk3))] [(.int (3 : Int32)), (.ref b1)])) u := by
    intro u k
    jvm_step X13.here [X13.here.top, hx, (hb hby d1_64), Value.category]
    exact k
  refine Goes.by (fun _ k => sd14 _ k) ?_
  show Goes p.tables e below (T13.setTop (mkF m 65 #[.val (.ref oa), .val (.ref ob), .val (.int (4 : Int32)), .val (.ref oc), .val (.ref b1), .val (.int (2 : Int32)), .val (.int (4 : Int32)), .val (.int (4 : Int32)), .val (.int (Int32.ofNat nk3))] [(.int (3 : Int32)), (.ref b1), (.int (3 : Int32)), (.ref b1)])) _
  refine Goes.by (fun _ k => ldI (v := ((own_pre 2 nk0 nk1 nk2 nk3) 3)) (fr := (mkF m 65 #[.val (.ref oa), .val (.ref ob), .val (.int (4 : Int32)), .val (.ref oc), .val (.ref b1), .val (.int (2 : Int32)), .val (.int (4 : Int32)), .val (.int (4 : Int32)), .val (.int (Int32.ofNat nk3))] [(.int (3 : Int32)), (.ref b1), (.int (3 : Int32)), (.ref b1)])) X13 hx hZ e13 A_b1 (i := 3) (by decide) (by decide) rfl rfl rfl (hb hby d1_65) k) ?_
  show Goes p.tables e below (T13.setTop (mkF m 66 #[.val (.ref oa), .val (.ref ob), .val (.int (4 : Int32)), .val (.ref oc), .val (.ref b1), .val (.int (2 : Int32)), .val (.int (4 : Int32)), .val (.int (4 : Int32)), .val (.int (Int32.ofNat nk3))] [(.int ((own_pre 2 nk0 nk1 nk2 nk3) 3)), (.int (3 : Int32)), (.ref b1)])) _
  refine Goes.by (fun _ k => XS.aload X13.here hx rfl (hb hby d1_66) rfl rfl k) ?_
  show Goes p.tables e below (T13.setTop (mkF m 68 #[.val (.ref oa), .val (.ref ob), .val (.int (4 : Int32)), .val (.ref oc), .val (.ref b1), .val (.int (2 : Int32)), .val (.int (4 : Int32)), .val (.int (4 : Int32)), .val (.int (Int32.ofNat nk3))] [(.ref b1), (.int ((own_pre 2 nk0 nk1 nk2 nk3) 3)), (.int (3 : Int32)), (.ref b1)])) _
  refine Goes.by (fun _ k => XS.iload X13.here hx rfl (hb hby d1_68) rfl k) ?_
  show Goes p.tables e below (T13.setTop (mkF m 70 #[.val (.ref oa), .val (.ref ob), .val (.int (4 : Int32)), .val (.ref oc), .val (.ref b1), .val (.int (2 : Int32)), .val (.int (4 : Int32)), .val (.int (4 : Int32)), .val (.int (Int32.ofNat nk3))] [(.int (2 : Int32)), (.ref b1), (.int ((own_pre 2 nk0 nk1 nk2 nk3) 3)), (.int (3 : Int32)), (.ref b1)])) _
  refine Goes.by (fun _ k => ldI (v := ((own_pre 2 nk0 nk1 nk2 nk3) 2)) (fr := (mkF m 70 #[.val (.ref oa), .val (.ref ob), .val (.int (4 : Int32)), .val (.ref oc), .val (.ref b1), .val (.int (2 : Int32)), .val (.int (4 : Int32)), .val (.int (4 : Int32)), .val (.int (Int32.ofNat nk3))] [(.int (2 : Int32)), (.ref b1), (.int ((own_pre 2 nk0 nk1 nk2 nk3) 3)), (.int (3 : Int32)), (.ref b1)])) X13 hx hZ e13 A_b1 (i := 2) (by decide) (by decide) rfl rfl rfl (hb hby d1_70) k) ?_
  show Goes p.tables e below (T13.setTop (mkF m 71 #[.val (.ref oa), .val (.ref ob), .val (.int (4 : Int32)), .val (.ref oc), .val (.ref b1), .val (.int (2 : Int32)), .val (.int (4 : Int32)), .val (.int (4 : Int32)), .val (.int (Int32.ofNat nk3))] [(.int ((own_pre 2 nk0 nk1 nk2 nk3) 2)), (.int ((own_pre 2 nk0 nk1 nk2 nk3) 3)), (.int (3 : Int32)), (.ref b1)])) _
  refine Goes.by (fun _ k => XS.iadd X13.here hx rfl (hb hby d1_71) rfl k) ?_
  show Goes p.tables e below (T13.setTop (mkF m 72 #[.val (.ref oa), .val (.ref ob), .val (.int (4 : Int32)), .val (.ref oc), .val (.ref b1), .val (.int (2 : Int32)), .val (.int (4 : Int32)), .val (.int (4 : Int32)), .val (.int (Int32.ofNat nk3))] [(.int (((own_pre 2 nk0 nk1 nk2 nk3) 3) + ((own_pre 2 nk0 nk1 nk2 nk3) 2))), (.int (3 : Int32)), (.ref b1)])) _
  obtain ⟨T15, h15, X15, e15, W15, A15, st15⟩ := stAI (fr := (mkF m 72 #[.val (.ref oa), .val (.ref ob), .val (.int (4 : Int32)), .val (.ref oc), .val (.ref b1), .val (.int (2 : Int32)), .val (.int (4 : Int32)), .val (.int (4 : Int32)), .val (.int (Int32.ofNat nk3))] [(.int (((own_pre 2 nk0 nk1 nk2 nk3) 3) + ((own_pre 2 nk0 nk1 nk2 nk3) 2))), (.int (3 : Int32)), (.ref b1)])) X13 hx hZ e13 A_b1 (i := 3) (by decide) (by decide) rfl rfl (hb hby d1_72)
  refine Goes.by st15 ?_
  have A_b1 : AI Z h15 b1 .int 5 (own_pre 3 nk0 nk1 nk2 nk3) := A15.congr (fun j hj => own_f4_7 ⟨nk0, hnk0⟩ ⟨nk1, hnk1⟩ ⟨nk2, hnk2⟩ ⟨nk3, hnk3⟩ ⟨j, hj⟩)
  have N15 := Fr.snoc X15 N13 g_b1
  have Zs15 : n0 ≤ h15.size := Nat.le_trans Zs13 (Keep.of_wr W15).1
  have K15 : Keep h0 h15 [oc] := K13.wr W15 (Or.inr sz_b1)
  have A_oa : AI Z h15 oa .int 4 pa := A_oa.other W15 ne_oa_b1
  have A_ob : AI Z h15 ob .int 4 (own_keys nk0 nk1 nk2 nk3) := A_ob.other W15 ne_ob_b1
  have A_oc : AI Z h15 oc .int 4 (fun _ => (0 : Int32)) := A_oc.other W15 ne_oc_b1
  show Goes p.tables e below (T15.setTop (mkF m 73 #[.val (.ref oa), .val (.ref ob), .val (.int (4 : Int32)), .val (.ref oc), .val (.ref b1), .val (.int (2 : Int32)), .val (.int (4 : Int32)), .val (.int (4 : Int32)), .val (.int (Int32.ofNat nk3))] [])) _
  refine Goes.by (fun _ k => XS.iinc X15.here hx rfl (hb hby d1_73) rfl (l' := #[.val (.ref oa), .val (.ref ob), .val (.int (4 : Int32)), .val (.ref oc), .val (.ref b1), .val (.int (3 : Int32)), .val (.int (4 : Int32)), .val (.int (4 : Int32)), .val (.int (Int32.ofNat nk3))]) rfl k) ?_
  show Goes p.tables e below (T15.setTop (mkF m 76 #[.val (.ref oa), .val (.ref ob), .val (.int (4 : Int32)), .val (.ref oc), .val (.ref b1), .val (.int (3 : Int32)), .val (.int (4 : Int32)), .val (.int (4 : Int32)), .val (.int (Int32.ofNat nk3))] [])) _
  refine Goes.by (fun _ k => XS.goto X15.here hx rfl (pc0 := 76) (pc' := 52) rfl (hb hby d1_76) (by decide) (by decide) k) ?_
  show Goes p.tables e below (T15.setTop (mkF m 52 #[.val (.ref oa), .val (.ref ob), .val (.int (4 : Int32)), .val (.ref oc), .val (.ref b1), .val (.int (3 : Int32)), .val (.int (4 : Int32)), .val (.int (4 : Int32)), .val (.int (Int32.ofNat nk3))] [])) _
  refine Goes.by (fun _ k => XS.iload X15.here hx rfl (hb hby d1_52) rfl k) ?_
  show Goes p.tables e below (T15.setTop (mkF m 54 #[.val (.ref oa), .val (.ref ob), .val (.int (4 : Int32)), .val (.ref oc), .val (.ref b1), .val (.int (3 : Int32)), .val (.int (4 : Int32)), .val (.int (4 : Int32)), .val (.int (Int32.ofNat nk3))] [(.int (3 : Int32))])) _
  refine Goes.by (fun _ k => XS.iloadN X15.here hx rfl (hb hby d1_54) rfl k) ?_
  show Goes p.tables e below (T15.setTop (mkF m 55 #[.val (.ref oa), .val (.ref ob), .val (.int (4 : Int32)), .val (.ref oc), .val (.ref b1), .val (.int (3 : Int32)), .val (.int (4 : Int32)), .val (.int (4 : Int32)), .val (.int (Int32.ofNat nk3))] [(.int (4 : Int32)), (.int (3 : Int32))])) _
  refine Goes.by (fun _ k => XS.icmpNo X15.here hx rfl (hb hby d1_55) rfl (tlt (by decide : (3 : Int32) < (4 : Int32))).2.1 k) ?_
  show Goes p.tables e below (T15.setTop (mkF m 58 #[.val (.ref oa), .val (.ref ob), .val (.int (4 : Int32)), .val (.ref oc), .val (.ref b1), .val (.int (3 : Int32)), .val (.int (4 : Int32)), .val (.int (4 : Int32)), .val (.int (Int32.ofNat nk3))] [])) _
  refine Goes.by (fun _ k => XS.aload X15.here hx rfl (hb hby d1_58) rfl rfl k) ?_
  show Goes p.tables e below (T15.setTop (mkF m 60 #[.val (.ref oa), .val (.ref ob), .val (.int (4 : Int32)), .val (.ref oc), .val (.ref b1), .val (.int (3 : Int32)), .val (.int (4 : Int32)), .val (.int (4 : Int32)), .val (.int (Int32.ofNat nk3))] [(.ref b1)])) _
  refine Goes.by (fun _ k => XS.iload X15.here hx rfl (hb hby d1_60) rfl k) ?_
  show Goes p.tables e below (T15.setTop (mkF m 62 #[.val (.ref oa), .val (.ref ob), .val (.int (4 : Int32)), .val (.ref oc), .val (.ref b1), .val (.int (3 : Int32)), .val (.int (4 : Int32)), .val (.int (4 : Int32)), .val (.int (Int32.ofNat nk3))] [(.int (3 : Int32)), (.ref b1)])) _
  refine Goes.by (fun _ k => XS.iconst X15.here hx rfl (hb hby d1_62) k) ?_
  show Goes p.tables e below (T15.setTop (mkF m 63 #[.val (.ref oa), .val (.ref ob), .val (.int (4 : Int32)), .val (.ref oc), .val (.ref b1), .val (.int (3 : Int32)), .val (.int (4 : Int32)), .val (.int (4 : Int32)), .val (.int (Int32.ofNat nk3))] [(.int (1 : Int32)), (.int (3 : Int32)), (.ref b1)])) _
  refine Goes.by (fun _ k => XS.iadd X15.here hx rfl (hb hby d1_63) rfl k) ?_
  show Goes p.tables e below (T15.setTop (mkF m 64 #[.val (.ref oa), .val (.ref ob), .val (.int (4 : Int32)), .val (.ref oc), .val (.ref b1), .val (.int (3 : Int32)), .val (.int (4 : Int32)), .val (.int (4 : Int32)), .val (.int (Int32.ofNat nk3))] [(.int (4 : Int32)), (.ref b1)])) _
  have sd16 : ∀ u, Steps p.tables e below (T15.setTop (mkF m 65 #[.val (.ref oa), .val (.ref ob), .val (.int (4 : Int32)), .val (.ref oc), .val (.ref b1), .val (.int (3 : Int32)), .val (.int (4 : Int32)), .val (.int (4 : Int32)), .val (.int (Int32.ofNat nk3))] [(.int (4 : Int32)), (.ref b1), (.int (4 : Int32)), (.ref b1)])) u → Steps p.tables e below (T15.setTop (mkF m 64 #[.val (.ref oa), .val (.ref ob), .val (.int (4 : Int32)), .val (.ref oc), .val (.ref b1), .val (.int (3 : Int32)), .val (.int (4 : Int32)), .val (.int (4 : Int32)), .val (.int (Int32.ofNat nk3))] [(.int (4 : Int32)), (.ref b1)])) u := by
    intro u k
    jvm_step X15.here [X15.here.top, hx, (hb hby d1_64), Value.category]
    exact k
  refine Goes.by (fun _ k => sd16 _ k) ?_
  show Goes p.tables e below (T15.setTop (mkF m 65 #[.val (.ref oa), .val (.ref ob), .val (.int (4 : Int32)), .val (.ref oc), .val (.ref b1), .val (.int (3 : Int32)), .val (.int (4 : Int32)), .val (.int (4 : Int32)), .val (.int (Int32.ofNat nk3))] [(.int (4 : Int32)), (.ref b1), (.int (4 : Int32)), (.ref b1)])) _
  refine Goes.by (fun _ k => ldI (v := ((own_pre 3 nk0 nk1 nk2 nk3) 4)) (fr := (mkF m 65 #[.val (.ref oa), .val (.ref ob), .val (.int (4 : Int32)), .val (.ref oc), .val (.ref b1), .val (.int (3 : Int32)), .val (.int (4 : Int32)), .val (.int (4 : Int32)), .val (.int (Int32.ofNat nk3))] [(.int (4 : Int32)), (.ref b1), (.int (4 : Int32)), (.ref b1)])) X15 hx hZ e15 A_b1 (i := 4) (by decide) (by decide) rfl rfl rfl (hb hby d1_65) k) ?_
  show Goes p.tables e below (T15.setTop (mkF m 66 #[.val (.ref oa), .val (.ref ob), .val (.int (4 : Int32)), .val (.ref oc), .val (.ref b1), .val (.int (3 : Int32)), .val (.int (4 : Int32)), .val (.int (4 : Int32)), .val (.int (Int32.ofNat nk3))] [(.int ((own_pre 3 nk0 nk1 nk2 nk3) 4)), (.int (4 : Int32)), (.ref b1)])) _
  refine Goes.by (fun _ k => XS.aload X15.here hx rfl (hb hby d1_66) rfl rfl k) ?_
  show Goes p.tables e below (T15.setTop (mkF m 68 #[.val (.ref oa), .val (.ref ob), .val (.int (4 : Int32)), .val (.ref oc), .val (.ref b1), .val (.int (3 : Int32)), .val (.int (4 : Int32)), .val (.int (4 : Int32)), .val (.int (Int32.ofNat nk3))] [(.ref b1), (.int ((own_pre 3 nk0 nk1 nk2 nk3) 4)), (.int (4 : Int32)), (.ref b1)])) _
  refine Goes.by (fun _ k => XS.iload X15.here hx rfl (hb hby d1_68) rfl k) ?_
  show Goes p.tables e below (T15.setTop (mkF m 70 #[.val (.ref oa), .val (.ref ob), .val (.int (4 : Int32)), .val (.ref oc), .val (.ref b1), .val (.int (3 : Int32)), .val (.int (4 : Int32)), .val (.int (4 : Int32)), .val (.int (Int32.ofNat nk3))] [(.int (3 : Int32)), (.ref b1), (.int ((own_pre 3 nk0 nk1 nk2 nk3) 4)), (.int (4 : Int32)), (.ref b1)])) _
  refine Goes.by (fun _ k => ldI (v := ((own_pre 3 nk0 nk1 nk2 nk3) 3)) (fr := (mkF m 70 #[.val (.ref oa), .val (.ref ob), .val (.int (4 : Int32)), .val (.ref oc), .val (.ref b1), .val (.int (3 : Int32)), .val (.int (4 : Int32)), .val (.int (4 : Int32)), .val (.int (Int32.ofNat nk3))] [(.int (3 : Int32)), (.ref b1), (.int ((own_pre 3 nk0 nk1 nk2 nk3) 4)), (.int (4 : Int32)), (.ref b1)])) X15 hx hZ e15 A_b1 (i := 3) (by decide) (by decide) rfl rfl rfl (hb hby d1_70) k) ?_
  show Goes p.tables e below (T15.setTop (mkF m 71 #[.val (.ref oa), .val (.ref ob), .val (.int (4 : Int32)), .val (.ref oc), .val (.ref b1), .val (.int (3 : Int32)), .val (.int (4 : Int32)), .val (.int (4 : Int32)), .val (.int (Int32.ofNat nk3))] [(.int ((own_pre 3 nk0 nk1 nk2 nk3) 3)), (.int ((own_pre 3 nk0 nk1 nk2 nk3) 4)), (.int (4 : Int32)), (.ref b1)])) _
  refine Goes.by (fun _ k => XS.iadd X15.here hx rfl (hb hby d1_71) rfl k) ?_
  show Goes p.tables e below (T15.setTop (mkF m 72 #[.val (.ref oa), .val (.ref ob), .val (.int (4 : Int32)), .val (.ref oc), .val (.ref b1), .val (.int (3 : Int32)), .val (.int (4 : Int32)), .val (.int (4 : Int32)), .val (.int (Int32.ofNat nk3))] [(.int (((own_pre 3 nk0 nk1 nk2 nk3) 4) + ((own_pre 3 nk0 nk1 nk2 nk3) 3))), (.int (4 : Int32)), (.ref b1)])) _
  obtain ⟨T17, h17, X17, e17, W17, A17, st17⟩ := stAI (fr := (mkF m 72 #[.val (.ref oa), .val (.ref ob), .val (.int (4 : Int32)), .val (.ref oc), .val (.ref b1), .val (.int (3 : Int32)), .val (.int (4 : Int32)), .val (.int (4 : Int32)), .val (.int (Int32.ofNat nk3))] [(.int (((own_pre 3 nk0 nk1 nk2 nk3) 4) + ((own_pre 3 nk0 nk1 nk2 nk3) 3))), (.int (4 : Int32)), (.ref b1)])) X15 hx hZ e15 A_b1 (i := 4) (by decide) (by decide) rfl rfl (hb hby d1_72)
  refine Goes.by st17 ?_
  have A_b1 : AI Z h17 b1 .int 5 (own_pre 4 nk0 nk1 nk2 nk3) := A17.congr (fun j hj => own_f4_8 ⟨nk0, hnk0⟩ ⟨nk1, hnk1⟩ ⟨nk2, hnk2⟩ ⟨nk3, hnk3⟩ ⟨j, hj⟩)
  have N17 := Fr.snoc X17 N15 g_b1
  have Zs17 : n0 ≤ h17.size := Nat.le_trans Zs15 (Keep.of_wr W17).1
  have K17 : Keep h0 h17 [oc] := K15.wr W17 (Or.inr sz_b1)
  have A_oa : AI Z h17 oa .int 4 pa := A_oa.other W17 ne_oa_b1
  have A_ob : AI Z h17 ob .int 4 (own_keys nk0 nk1 nk2 nk3) := A_ob.other W17 ne_ob_b1
  have A_oc : AI Z h17 oc .int 4 (fun _ => (0 : Int32)) := A_oc.other W17 ne_oc_b1
  show Goes p.tables e below (T17.setTop (mkF m 73 #[.val (.ref oa), .val (.ref ob), .val (.int (4 : Int32)), .val (.ref oc), .val (.ref b1), .val (.int (3 : Int32)), .val (.int (4 : Int32)), .val (.int (4 : Int32)), .val (.int (Int32.ofNat nk3))] [])) _
  refine Goes.by (fun _ k => XS.iinc X17.here hx rfl (hb hby d1_73) rfl (l' := #[.val (.ref oa), .val (.ref ob), .val (.int (4 : Int32)), .val (.ref oc), .val (.ref b1), .val (.int (4 : Int32)), .val (.int (4 : Int32)), .val (.int (4 : Int32)), .val (.int (Int32.ofNat nk3))]) rfl k) ?_
  show Goes p.tables e below (T17.setTop (mkF m 76 #[.val (.ref oa), .val (.ref ob), .val (.int (4 : Int32)), .val (.ref oc), .val (.ref b1), .val (.int (4 : Int32)), .val (.int (4 : Int32)), .val (.int (4 : Int32)), .val (.int (Int32.ofNat nk3))] [])) _
  refine Goes.by (fun _ k => XS.goto X17.here hx rfl (pc0 := 76) (pc' := 52) rfl (hb hby d1_76) (by decide) (by decide) k) ?_
  show Goes p.tables e below (T17.setTop (mkF m 52 #[.val (.ref oa), .val (.ref ob), .val (.int (4 : Int32)), .val (.ref oc), .val (.ref b1), .val (.int (4 : Int32)), .val (.int (4 : Int32)), .val (.int (4 : Int32)), .val (.int (Int32.ofNat nk3))] [])) _
  refine Goes.by (fun _ k => XS.iload X17.here hx rfl (hb hby d1_52) rfl k) ?_
  show Goes p.tables e below (T17.setTop (mkF m 54 #[.val (.ref oa), .val (.ref ob), .val (.int (4 : Int32)), .val (.ref oc), .val (.ref b1), .val (.int (4 : Int32)), .val (.int (4 : Int32)), .val (.int (4 : Int32)), .val (.int (Int32.ofNat nk3))] [(.int (4 : Int32))])) _
  refine Goes.by (fun _ k => XS.iloadN X17.here hx rfl (hb hby d1_54) rfl k) ?_
  show Goes p.tables e below (T17.setTop (mkF m 55 #[.val (.ref oa), .val (.ref ob), .val (.int (4 : Int32)), .val (.ref oc), .val (.ref b1), .val (.int (4 : Int32)), .val (.int (4 : Int32)), .val (.int (4 : Int32)), .val (.int (Int32.ofNat nk3))] [(.int (4 : Int32)), (.int (4 : Int32))])) _
  refine Goes.by (fun _ k => XS.icmpYes X17.here hx rfl (pc0 := 55) (pc' := 79) rfl (hb hby d1_55) rfl (flt (by decide : ¬ ((4 : Int32) < (4 : Int32)))).2.1 (by decide) (by decide) k) ?_
  show Goes p.tables e below (T17.setTop (mkF m 79 #[.val (.ref oa), .val (.ref ob), .val (.int (4 : Int32)), .val (.ref oc), .val (.ref b1), .val (.int (4 : Int32)), .val (.int (4 : Int32)), .val (.int (4 : Int32)), .val (.int (Int32.ofNat nk3))] [])) _
  refine Goes.by (fun _ k => XS.iloadN X17.here hx rfl (hb hby d1_79) rfl k) ?_
  show Goes p.tables e below (T17.setTop (mkF m 80 #[.val (.ref oa), .val (.ref ob), .val (.int (4 : Int32)), .val (.ref oc), .val (.ref b1), .val (.int (4 : Int32)), .val (.int (4 : Int32)), .val (.int (4 : Int32)), .val (.int (Int32.ofNat nk3))] [(.int (4 : Int32))])) _
  obtain ⟨T18, h18, X18, e18, E18, A18, st18⟩ := nwA (n := 4) (cap := 4) (fr := (mkF m 80 #[.val (.ref oa), .val (.ref ob), .val (.int (4 : Int32)), .val (.ref oc), .val (.ref b1), .val (.int (4 : Int32)), .val (.int (4 : Int32)), .val (.int (4 : Int32)), .val (.int (Int32.ofNat nk3))] [(.int (4 : Int32))])) X17 hx hZ (hw _ (List.mem_of_getElem? (i := 0) rfl)) e17 (by decide) (by decide) (by decide) (by decide) (by decide) rfl rfl (hb hby d1_80)
  obtain ⟨b18, g18⟩ : ∃ z, z = h17.size := ⟨_, rfl⟩
  rw [← g18] at A18 st18
  have g_b18 : n0 ≤ b18 := Nat.le_trans Zs17 (Nat.le_of_eq g18.symm)
  have sz_b18 : h0.size ≤ b18 := Nat.le_trans K17.1 (Nat.le_of_eq g18.symm)
  have ne_oa_b18 : oa ≠ b18 := Nat.ne_of_lt (Nat.lt_of_lt_of_le A_oa.lt (Nat.le_of_eq g18.symm))
  have ne_ob_b18 : ob ≠ b18 := Nat.ne_of_lt (Nat.lt_of_lt_of_le A_ob.lt (Nat.le_of_eq g18.symm))
  have ne_oc_b18 : oc ≠ b18 := Nat.ne_of_lt (Nat.lt_of_lt_of_le A_oc.lt (Nat.le_of_eq g18.symm))
  have ne_b1_b18 : b1 ≠ b18 := Nat.ne_of_lt (Nat.lt_of_lt_of_le A_b1.lt (Nat.le_of_eq g18.symm))
  have Zs18 : n0 ≤ h18.size := Nat.le_trans Zs17 E18.1
  have K18 : Keep h0 h18 [oc] := K17.ext E18
  refine Goes.by st18 ?_
  have A_oa : AI Z h18 oa .int 4 pa := A_oa.ext E18
  have A_ob : AI Z h18 ob .int 4 (own_keys nk0 nk1 nk2 nk3) := A_ob.ext E18
  have A_oc : AI Z h18 oc .int 4 (fun _ => (0 : Int32)) := A_oc.ext E18
  have A_b1 : AI Z h18 b1 .int 5 (own_pre 4 nk0 nk1 nk2 nk3) := A_b1.ext E18
  have A_b18 : AI Z h18 b18 .int 4 (fun _ => (0 : Int32)) := A18
  show Goes p.tables e below (T18.setTop (mkF m 82 #[.val (.ref oa), .val (.ref ob), .val (.int (4 : Int32)), .val (.ref oc), .val (.ref b1), .val (.int (4 : Int32)), .val (.int (4 : Int32)), .val (.int (4 : Int32)), .val (.int (Int32.ofNat nk3))] [(.ref b18)])) _
  refine Goes.by (fun _ k => XS.astore X18.here hx rfl (hb hby d1_82) rfl rfl (l' := #[.val (.ref oa), .val (.ref ob), .val (.int (4 : Int32)), .val (.ref oc), .val (.ref b1), .val (.ref b18), .val (.int (4 : Int32)), .val (.int (4 : Int32)), .val (.int (Int32.ofNat nk3))]) rfl k) ?_
  show Goes p.tables e below (T18.setTop (mkF m 84 #[.val (.ref oa), .val (.ref ob), .val (.int (4 : Int32)), .val (.ref oc), .val (.ref b1), .val (.ref b18), .val (.int (4 : Int32)), .val (.int (4 : Int32)), .val (.int (Int32.ofNat nk3))] [])) _
  refine Goes.by (fun _ k => XS.iconst X18.here hx rfl (hb hby d1_84) k) ?_
  show Goes p.tables e below (T18.setTop (mkF m 85 #[.val (.ref oa), .val (.ref ob), .val (.int (4 : Int32)), .val (.ref oc), .val (.ref b1), .val (.ref b18), .val (.int (4 : Int32)), .val (.int (4 : Int32)), .val (.int (Int32.ofNat nk3))] [(.int (0 : Int32))])) _
  refine Goes.by (fun _ k => XS.istore X18.here hx rfl (hb hby d1_85) rfl (l' := #[.val (.ref oa), .val (.ref ob), .val (.int (4 : Int32)), .val (.ref oc), .val (.ref b1), .val (.ref b18), .val (.int (0 : Int32)), .val (.int (4 : Int32)), .val (.int (Int32.ofNat nk3))]) rfl k) ?_
  show Goes p.tables e below (T18.setTop (mkF m 87 #[.val (.ref oa), .val (.ref ob), .val (.int (4 : Int32)), .val (.ref oc), .val (.ref b1), .val (.ref b18), .val (.int (0 : Int32)), .val (.int (4 : Int32)), .val (.int (Int32.ofNat nk3))] [])) _
  refine Goes.by (fun _ k => XS.iload X18.here hx rfl (hb hby d1_87) rfl k) ?_
  show Goes p.tables e below (T18.setTop (mkF m 89 #[.val (.ref oa), .val (.ref ob), .val (.int (4 : Int32)), .val (.ref oc), .val (.ref b1), .val (.ref b18), .val (.int (0 : Int32)), .val (.int (4 : Int32)), .val (.int (Int32.ofNat nk3))] [(.int (0 : Int32))])) _
  refine Goes.by (fun _ k => XS.aloadN X18.here hx rfl (hb hby d1_89) rfl rfl k) ?_
  show Goes p.tables e below (T18.setTop (mkF m 90 #[.val (.ref oa), .val (.ref ob), .val (.int (4 : Int32)), .val (.ref oc), .val (.ref b1), .val (.ref b18), .val (.int (0 : Int32)), .val (.int (4 : Int32)), .val (.int (Int32.ofNat nk3))] [(.ref oa), (.int (0 : Int32))])) _
  refine Goes.by (fun _ k => alen (z := (4 : Int32)) (fr := (mkF m 90 #[.val (.ref oa), .val (.ref ob), .val (.int (4 : Int32)), .val (.ref oc), .val (.ref b1), .val (.ref b18), .val (.int (0 : Int32)), .val (.int (4 : Int32)), .val (.int (Int32.ofNat nk3))] [(.ref oa), (.int (0 : Int32))])) X18 hx hZ e18 A_oa (by decide) rfl rfl (hb hby d1_90) k) ?_
  show Goes p.tables e below (T18.setTop (mkF m 91 #[.val (.ref oa), .val (.ref ob), .val (.int (4 : Int32)), .val (.ref oc), .val (.ref b1), .val (.ref b18), .val (.int (0 : Int32)), .val (.int (4 : Int32)), .val (.int (Int32.ofNat nk3))] [(.int (4 : Int32)), (.int (0 : Int32))])) _
  refine Goes.by (fun _ k => XS.icmpNo X18.here hx rfl (hb hby d1_91) rfl (tlt (by decide : (0 : Int32) < (4 : Int32))).2.1 k) ?_
  show Goes p.tables e below (T18.setTop (mkF m 94 #[.val (.ref oa), .val (.ref ob), .val (.int (4 : Int32)), .val (.ref oc), .val (.ref b1), .val (.ref b18), .val (.int (0 : Int32)), .val (.int (4 : Int32)), .val (.int (Int32.ofNat nk3))] [])) _
  refine Goes.by (fun _ k => XS.aloadN X18.here hx rfl (hb hby d1_94) rfl rfl k) ?_
  show Goes p.tables e below (T18.setTop (mkF m 95 #[.val (.ref oa), .val (.ref ob), .val (.int (4 : Int32)), .val (.ref oc), .val (.ref b1), .val (.ref b18), .val (.int (0 : Int32)), .val (.int (4 : Int32)), .val (.int (Int32.ofNat nk3))] [(.ref oc)])) _
  refine Goes.by (fun _ k => XS.aload X18.here hx rfl (hb hby d1_95) rfl rfl k) ?_
  show Goes p.tables e below (T18.setTop (mkF m 97 #[.val (.ref oa), .val (.ref ob), .val (.int (4 : Int32)), .val (.ref oc), .val (.ref b1), .val (.ref b18), .val (.int (0 : Int32)), .val (.int (4 : Int32)), .val (.int (Int32.ofNat nk3))] [(.ref b1), (.ref oc)])) _
  refine Goes.by (fun _ k => XS.aloadN X18.here hx rfl (hb hby d1_97) rfl rfl k) ?_
  show Goes p.tables e below (T18.setTop (mkF m 98 #[.val (.ref oa), .val (.ref ob), .val (.int (4 : Int32)), .val (.ref oc), .val (.ref b1), .val (.ref b18), .val (.int (0 : Int32)), .val (.int (4 : Int32)), .val (.int (Int32.ofNat nk3))] [(.ref ob), (.ref b1), (.ref oc)])) _
  refine Goes.by (fun _ k => XS.iload X18.here hx rfl (hb hby d1_98) rfl k) ?_
  show Goes p.tables e below (T18.setTop (mkF m 100 #[.val (.ref oa), .val (.ref ob), .val (.int (4 : Int32)), .val (.ref oc), .val (.ref b1), .val (.ref b18), .val (.int (0 : Int32)), .val (.int (4 : Int32)), .val (.int (Int32.ofNat nk3))] [(.int (0 : Int32)), (.ref ob), (.ref b1), (.ref oc)])) _
  refine Goes.by (fun _ k => ldI (v := (Int32.ofNat nk0)) (fr := (mkF m 100 #[.val (.ref oa), .val (.ref ob), .val (.int (4 : Int32)), .val (.ref oc), .val (.ref b1), .val (.ref b18), .val (.int (0 : Int32)), .val (.int (4 : Int32)), .val (.int (Int32.ofNat nk3))] [(.int (0 : Int32)), (.ref ob), (.ref b1), (.ref oc)])) X18 hx hZ e18 A_ob (i := 0) (by decide) (by decide) rfl rfl rfl (hb hby d1_100) k) ?_
  show Goes p.tables e below (T18.setTop (mkF m 101 #[.val (.ref oa), .val (.ref ob), .val (.int (4 : Int32)), .val (.ref oc), .val (.ref b1), .val (.ref b18), .val (.int (0 : Int32)), .val (.int (4 : Int32)), .val (.int (Int32.ofNat nk3))] [(.int (Int32.ofNat nk0)), (.ref b1), (.ref oc)])) _
  refine Goes.by (fun _ k => ldI (v := ((own_pre 4 nk0 nk1 nk2 nk3) nk0)) (fr := (mkF m 101 #[.val (.ref oa), .val (.ref ob), .val (.int (4 : Int32)), .val (.ref oc), .val (.ref b1), .val (.ref b18), .val (.int (0 : Int32)), .val (.int (4 : Int32)), .val (.int (Int32.ofNat nk3))] [(.int (Int32.ofNat nk0)), (.ref b1), (.ref oc)])) X18 hx hZ e18 A_b1 (i := nk0) (own_i0 nk0 (Nat.lt_trans hnk0 (by decide))) (Nat.lt_succ_of_lt hnk0) rfl rfl rfl (hb hby d1_101) k) ?_
  show Goes p.tables e below (T18.setTop (mkF m 102 #[.val (.ref oa), .val (.ref ob), .val (.int (4 : Int32)), .val (.ref oc), .val (.ref b1), .val (.ref b18), .val (.int (0 : Int32)), .val (.int (4 : Int32)), .val (.int (Int32.ofNat nk3))] [(.int ((own_pre 4 nk0 nk1 nk2 nk3) nk0)), (.ref oc)])) _
  refine Goes.by (fun _ k => XS.aload X18.here hx rfl (hb hby d1_102) rfl rfl k) ?_
  show Goes p.tables e below (T18.setTop (mkF m 104 #[.val (.ref oa), .val (.ref ob), .val (.int (4 : Int32)), .val (.ref oc), .val (.ref b1), .val (.ref b18), .val (.int (0 : Int32)), .val (.int (4 : Int32)), .val (.int (Int32.ofNat nk3))] [(.ref b18), (.int ((own_pre 4 nk0 nk1 nk2 nk3) nk0)), (.ref oc)])) _
  refine Goes.by (fun _ k => XS.aloadN X18.here hx rfl (hb hby d1_104) rfl rfl k) ?_
  show Goes p.tables e below (T18.setTop (mkF m 105 #[.val (.ref oa), .val (.ref ob), .val (.int (4 : Int32)), .val (.ref oc), .val (.ref b1), .val (.ref b18), .val (.int (0 : Int32)), .val (.int (4 : Int32)), .val (.int (Int32.ofNat nk3))] [(.ref ob), (.ref b18), (.int ((own_pre 4 nk0 nk1 nk2 nk3) nk0)), (.ref oc)])) _
  refine Goes.by (fun _ k => XS.iload X18.here hx rfl (hb hby d1_105) rfl k) ?_
  show Goes p.tables e below (T18.setTop (mkF m 107 #[.val (.ref oa), .val (.ref ob), .val (.int (4 : Int32)), .val (.ref oc), .val (.ref b1), .val (.ref b18), .val (.int (0 : Int32)), .val (.int (4 : Int32)), .val (.int (Int32.ofNat nk3))] [(.int (0 : Int32)), (.ref ob), (.ref b18), (.int ((own_pre 4 nk0 nk1 nk2 nk3) nk0)), (.ref oc)])) _
  refine Goes.by (fun _ k => ldI (v := (Int32.ofNat nk0)) (fr := (mkF m 107 #[.val (.ref oa), .val (.ref ob), .val (.int (4 : Int32)), .val (.ref oc), .val (.ref b1), .val (.ref b18), .val (.int (0 : Int32)), .val (.int (4 : Int32)), .val (.int (Int32.ofNat nk3))] [(.int (0 : Int32)), (.ref ob), (.ref b18), (.int ((own_pre 4 nk0 nk1 nk2 nk3) nk0)), (.ref oc)])) X18 hx hZ e18 A_ob (i := 0) (by decide) (by decide) rfl rfl rfl (hb hby d1_107) k) ?_
  show Goes p.tables e below (T18.setTop (mkF m 108 #[.val (.ref oa), .val (.ref ob), .val (.int (4 : Int32)), .val (.ref oc), .val (.ref b1), .val (.ref b18), .val (.int (0 : Int32)), .val (.int (4 : Int32)), .val (.int (Int32.ofNat nk3))] [(.int (Int32.ofNat nk0)), (.ref b18), (.int ((own_pre 4 nk0 nk1 nk2 nk3) nk0)), (.ref oc)])) _
  have sd19 : ∀ u, Steps p.tables e below (T18.setTop (mkF m 109 #[.val (.ref oa), .val (.ref ob), .val (.int (4 : Int32)), .val (.ref oc), .val (.ref b1), .val (.ref b18), .val (.int (0 : Int32)), .val (.int (4 : Int32)), .val (.int (Int32.ofNat nk3))] [(.int (Int32.ofNat nk0)), (.ref b18), (.int (Int32.ofNat nk0)), (.ref b18), (.int ((own_pre 4 nk0 nk1 nk2 nk3) nk0)), (.ref oc)])) u → Steps p.tables e below (T18.setTop (mkF m 108 #[.val (.ref oa), .val (.ref ob), .val (.int (4 : Int32)), .val (.ref oc), .val (.ref b1), .val (.ref b18), .val (.int (0 : Int32)), .val (.int (4 : Int32)), .val (.int (Int32.ofNat nk3))] [(.int (Int32.ofNat nk0)), (.ref b18), (.int ((own_pre 4 nk0 nk1 nk2 nk3) nk0)), (.ref oc)])) u := by
    intro u k
    jvm_step X18.here [X18.here.top, hx, (hb hby d1_108), Value.category]
    exact k
  refine Goes.by (fun _ k => sd19 _ k) ?_
  show Goes p.tables e below (T18.setTop (mkF m 109 #[.val (.ref oa), .val (.ref ob), .val (.int (4 : Int32)), .val (.ref oc), .val (.ref b1), .val (.ref b18), .val (.int (0 : Int32)), .val (.int (4 : Int32)), .val (.int (Int32.ofNat nk3))] [(.int (Int32.ofNat nk0)), (.ref b18), (.int (Int32.ofNat nk0)), (.ref b18), (.int ((own_pre 4 nk0 nk1 nk2 nk3) nk0)), (.ref oc)])) _
  refine Goes.by (fun _ k => ldI (v := ((fun _ => (0 : Int32)) nk0)) (fr := (mkF m 109 #[.val (.ref oa), .val (.ref ob), .val (.int (4 : Int32)), .val (.ref oc), .val (.ref b1), .val (.ref b18), .val (.int (0 : Int32)), .val (.int (4 : Int32)), .val (.int (Int32.ofNat nk3))] [(.int (Int32.ofNat nk0)), (.ref b18), (.int (Int32.ofNat nk0)), (.ref b18), (.int ((own_pre 4 nk0 nk1 nk2 nk3) nk0)), (.ref oc)])) X18 hx hZ e18 A_b18 (i := nk0) (own_i0 nk0 (Nat.lt_trans hnk0 (by decide))) hnk0 rfl rfl rfl (hb hby d1_109) k) ?_
  show Goes p.tables e below (T18.setTop (mkF m 110 #[.val (.ref oa), .val (.ref ob), .val (.int (4 : Int32)), .val (.ref oc), .val (.ref b1), .val (.ref b18), .val (.int (0 : Int32)), .val (.int (4 : Int32)), .val (.int (Int32.ofNat nk3))] [(.int ((fun _ => (0 : Int32)) nk0)), (.int (Int32.ofNat nk0)), (.ref b18), (.int ((own_pre 4 nk0 nk1 nk2 nk3) nk0)), (.ref oc)])) _
  have sd20 : ∀ u, Steps p.tables e below (T18.setTop (mkF m 111 #[.val (.ref oa), .val (.ref ob), .val (.int (4 : Int32)), .val (.ref oc), .val (.ref b1), .val (.ref b18), .val (.int (0 : Int32)), .val (.int (4 : Int32)), .val (.int (Int32.ofNat nk3))] [(.int ((fun _ => (0 : Int32)) nk0)), (.int (Int32.ofNat nk0)), (.ref b18), (.int ((fun _ => (0 : Int32)) nk0)), (.int ((own_pre 4 nk0 nk1 nk2 nk3) nk0)), (.ref oc)])) u → Steps p.tables e below (T18.setTop (mkF m 110 #[.val (.ref oa), .val (.ref ob), .val (.int (4 : Int32)), .val (.ref oc), .val (.ref b1), .val (.ref b18), .val (.int (0 : Int32)), .val (.int (4 : Int32)), .val (.int (Int32.ofNat nk3))] [(.int ((fun _ => (0 : Int32)) nk0)), (.int (Int32.ofNat nk0)), (.ref b18), (.int ((own_pre 4 nk0 nk1 nk2 nk3) nk0)), (.ref oc)])) u := by
    intro u k
    jvm_step X18.here [X18.here.top, hx, (hb hby d1_110), Value.category]
    exact k
  refine Goes.by (fun _ k => sd20 _ k) ?_
  show Goes p.tables e below (T18.setTop (mkF m 111 #[.val (.ref oa), .val (.ref ob), .val (.int (4 : Int32)), .val (.ref oc), .val (.ref b1), .val (.ref b18), .val (.int (0 : Int32)), .val (.int (4 : Int32)), .val (.int (Int32.ofNat nk3))] [(.int ((fun _ => (0 : Int32)) nk0)), (.int (Int32.ofNat nk0)), (.ref b18), (.int ((fun _ => (0 : Int32)) nk0)), (.int ((own_pre 4 nk0 nk1 nk2 nk3) nk0)), (.ref oc)])) _
  refine Goes.by (fun _ k => XS.iconst X18.here hx rfl (hb hby d1_111) k) ?_
  show Goes p.tables e below (T18.setTop (mkF m 112 #[.val (.ref oa), .val (.ref ob), .val (.int (4 : Int32)), .val (.ref oc), .val (.ref b1), .val (.ref b18), .val (.int (0 : Int32)), .val (.int (4 : Int32)), .val (.int (Int32.ofNat nk3))] [(.int (1 : Int32)), (.int ((fun _ => (0 : Int32)) nk0)), (.int (Int32.ofNat nk0)), (.ref b18), (.int ((fun _ => (0 : Int32)) nk0)), (.int ((own_pre 4 nk0 nk1 nk2 nk3) nk0)), (.ref oc)])) _
  refine Goes.by (fun _ k => XS.iadd X18.here hx rfl (hb hby d1_112) rfl k) ?_
  show Goes p.tables e below (T18.setTop (mkF m 113 #[.val (.ref oa), .val (.ref ob), .val (.int (4 : Int32)), .val (.ref oc), .val (.ref b1), .val (.ref b18), .val (.int (0 : Int32)), .val (.int (4 : Int32)), .val (.int (Int32.ofNat nk3))] [(.int (((fun _ => (0 : Int32)) nk0) + (1 : Int32))), (.int (Int32.ofNat nk0)), (.ref b18), (.int ((fun _ => (0 : Int32)) nk0)), (.int ((own_pre 4 nk0 nk1 nk2 nk3) nk0)), (.ref oc)])) _
  obtain ⟨T21, h21, X21, e21, W21, A21, st21⟩ := stAI (fr := (mkF m 113 #[.val (.ref oa), .val (.ref ob), .val (.int (4 : Int32)), .val (.ref oc), .val (.ref b1), .val (.ref b18), .val (.int (0 : Int32)), .val (.int (4 : Int32)), .val (.int (Int32.ofNat nk3))] [(.int (((fun _ => (0 : Int32)) nk0) + (1 : Int32))), (.int (Int32.ofNat nk0)), (.ref b18), (.int ((fun _ => (0 : Int32)) nk0)), (.int ((own_pre 4 nk0 nk1 nk2 nk3) nk0)), (.ref oc)])) X18 hx hZ e18 A_b18 (i := nk0) (own_i0 nk0 (Nat.lt_trans hnk0 (by decide))) hnk0 rfl rfl (hb hby d1_113)
  refine Goes.by st21 ?_
  have A_b18 : AI Z h21 b18 .int 4 (own_nx1 nk0 nk1 nk2 nk3) := A21.congr (fun j hj => own_g4_1 ⟨nk0, hnk0⟩ ⟨nk1, hnk1⟩ ⟨nk2, hnk2⟩ ⟨nk3, hnk3⟩ ⟨j, hj⟩)
  have N21 := Fr.snoc X21 N17 g_b18
  have Zs21 : n0 ≤ h21.size := Nat.le_trans Zs18 (Keep.of_wr W21).1
  have K21 : Keep h0 h21 [oc] := K18.wr W21 (Or.inr sz_b18)
  have A_oa : AI Z h21 oa .int 4 pa := A_oa.other W21 ne_oa_b18
  have A_ob : AI Z h21 ob .int 4 (own_keys nk0 nk1 nk2 nk3) := A_ob.other W21 ne_ob_b18
  have A_oc : AI Z h21 oc .int 4 (fun _ => (0 : Int32)) := A_oc.other W21 ne_oc_b18
  have A_b1 : AI Z h21 b1 .int 5 (own_pre 4 nk0 nk1 nk2 nk3) := A_b1.other W21 ne_b1_b18
  show Goes p.tables e below (T21.setTop (mkF m 114 #[.val (.ref oa), .val (.ref ob), .val (.int (4 : Int32)), .val (.ref oc), .val (.ref b1), .val (.ref b18), .val (.int (0 : Int32)), .val (.int (4 : Int32)), .val (.int (Int32.ofNat nk3))] [(.int ((fun _ => (0 : Int32)) nk0)), (.int ((own_pre 4 nk0 nk1 nk2 nk3) nk0)), (.ref oc)])) _
  refine Goes.by (fun _ k => XS.iadd X21.here hx rfl (hb hby d1_114) rfl k) ?_
  show Goes p.tables e below (T21.setTop (mkF m 115 #[.val (.ref oa), .val (.ref ob), .val (.int (4 : Int32)), .val (.ref oc), .val (.ref b1), .val (.ref b18), .val (.int (0 : Int32)), .val (.int (4 : Int32)), .val (.int (Int32.ofNat nk3))] [(.int (((own_pre 4 nk0 nk1 nk2 nk3) nk0) + ((fun _ => (0 : Int32)) nk0))), (.ref oc)])) _
  refine Goes.by (fun _ k => XS.aloadN X21.here hx rfl (hb hby d1_115) rfl rfl k) ?_
  show Goes p.tables e below (T21.setTop (mkF m 116 #[.val (.ref oa), .val (.ref ob), .val (.int (4 : Int32)), .val (.ref oc), .val (.ref b1), .val (.ref b18), .val (.int (0 : Int32)), .val (.int (4 : Int32)), .val (.int (Int32.ofNat nk3))] [(.ref oa), (.int (((own_pre 4 nk0 nk1 nk2 nk3) nk0) + ((fun _ => (0 : Int32)) nk0))), (.ref oc)])) _
  refine Goes.by (fun _ k => XS.iload X21.here hx rfl (hb hby d1_116) rfl k) ?_
  show Goes p.tables e below (T21.setTop (mkF m 118 #[.val (.ref oa), .val (.ref ob), .val (.int (4 : Int32)), .val (.ref oc), .val (.ref b1), .val (.ref b18), .val (.int (0 : Int32)), .val (.int (4 : Int32)), .val (.int (Int32.ofNat nk3))] [(.int (0 : Int32)), (.ref oa), (.int (((own_pre 4 nk0 nk1 nk2 nk3) nk0) + ((fun _ => (0 : Int32)) nk0))), (.ref oc)])) _
  refine Goes.by (fun _ k => ldI (v := (pa 0)) (fr := (mkF m 118 #[.val (.ref oa), .val (.ref ob), .val (.int (4 : Int32)), .val (.ref oc), .val (.ref b1), .val (.ref b18), .val (.int (0 : Int32)), .val (.int (4 : Int32)), .val (.int (Int32.ofNat nk3))] [(.int (0 : Int32)), (.ref oa), (.int (((own_pre 4 nk0 nk1 nk2 nk3) nk0) + ((fun _ => (0 : Int32)) nk0))), (.ref oc)])) X21 hx hZ e21 A_oa (i := 0) (by decide) (by decide) rfl rfl rfl (hb hby d1_118) k) ?_
  show Goes p.tables e below (T21.setTop (mkF m 119 #[.val (.ref oa), .val (.ref ob), .val (.int (4 : Int32)), .val (.ref oc), .val (.ref b1), .val (.ref b18), .val (.int (0 : Int32)), .val (.int (4 : Int32)), .val (.int (Int32.ofNat nk3))] [(.int (pa 0)), (.int (((own_pre 4 nk0 nk1 nk2 nk3) nk0) + ((fun _ => (0 : Int32)) nk0))), (.ref oc)])) _
  obtain ⟨T22, h22, X22, e22, W22, A22, st22⟩ := stAI (fr := (mkF m 119 #[.val (.ref oa), .val (.ref ob), .val (.int (4 : Int32)), .val (.ref oc), .val (.ref b1), .val (.ref b18), .val (.int (0 : Int32)), .val (.int (4 : Int32)), .val (.int (Int32.ofNat nk3))] [(.int (pa 0)), (.int (((own_pre 4 nk0 nk1 nk2 nk3) nk0) + ((fun _ => (0 : Int32)) nk0))), (.ref oc)])) X21 hx hZ e21 A_oc (i := (own_rank0 nk0 nk1 nk2 nk3)) (own_pl4_0 ⟨nk0, hnk0⟩ ⟨nk1, hnk1⟩ ⟨nk2, hnk2⟩ ⟨nk3, hnk3⟩).1 (own_pl4_0 ⟨nk0, hnk0⟩ ⟨nk1, hnk1⟩ ⟨nk2, hnk2⟩ ⟨nk3, hnk3⟩).2 rfl rfl (hb hby d1_119)
  refine Goes.by st22 ?_
  have A_oc : AI Z h22 oc .int 4 (up (fun _ => (0 : Int32)) (own_rank0 nk0 nk1 nk2 nk3) (pa 0)) := A22
  have N22 := Fr.snoc X22 N21 g_oc
  have Zs22 : n0 ≤ h22.size := Nat.le_trans Zs21 (Keep.of_wr W22).1
  have K22 : Keep h0 h22 [oc] := K21.wr W22 (Or.inl (List.mem_of_getElem? (i := 0) rfl))
  have A_oa : AI Z h22 oa .int 4 pa := A_oa.other W22 ne_oa_oc
  have A_ob : AI Z h22 ob .int 4 (own_keys nk0 nk1 nk2 nk3) := A_ob.other W22 ne_ob_oc
  have A_b1 : AI Z h22 b1 .int 5 (own_pre 4 nk0 nk1 nk2 nk3) := A_b1.other W22 (Ne.symm ne_oc_b1)
  have A_b18 : AI Z h22 b18 .int 4 (own_nx1 nk0 nk1 nk2 nk3) := A_b18.other W22 (Ne.symm ne_oc_b18)
  show Goes p.tables e below (T22.setTop (mkF m 120 #[.val (.ref oa), .val (.ref ob), .val (.int (4 : Int32)), .val (.ref oc), .val (.ref b1), .val (.ref b18), .val (.int (0 : Int32)), .val (.int (4 : Int32)), .val (.int (Int32.ofNat nk3))] [])) _
  refine Goes.by (fun _ k => XS.iinc X22.here hx rfl (hb hby d1_120) rfl (l' := #[.val (.ref oa), .val (.ref ob), .val (.int (4 : Int32)), .val (.ref oc), .val (.ref b1), .val (.ref b18), .val (.int (1 : Int32)), .val (.int (4 : Int32)), .val (.int (Int32.ofNat nk3))]) rfl k) ?_
  show Goes p.tables e below (T22.setTop (mkF m 123 #[.val (.ref oa), .val (.ref ob), .val (.int (4 : Int32)), .val (.ref oc), .val (.ref b1), .val (.ref b18), .val (.int (1 : Int32)), .val (.int (4 : Int32)), .val (.int (Int32.ofNat nk3))] [])) _
  refine Goes.by (fun _ k => XS.goto X22.here hx rfl (pc0 := 123) (pc' := 87) rfl (hb hby d1_123) (by decide) (by decide) k) ?_
  show Goes p.tables e below (T22.setTop (mkF m 87 #[.val (.ref oa), .val (.ref ob), .val (.int (4 : Int32)), .val (.ref oc), .val (.ref b1), .val (.ref b18), .val (.int (1 : Int32)), .val (.int (4 : Int32)), .val (.int (Int32.ofNat nk3))] [])) _
  refine Goes.by (fun _ k => XS.iload X22.here hx rfl (hb hby d1_87) rfl k) ?_
  show Goes p.tables e below (T22.setTop (mkF m 89 #[.val (.ref oa), .val (.ref ob), .val (.int (4 : Int32)), .val (.ref oc), .val (.ref b1), .val (.ref b18), .val (.int (1 : Int32)), .val (.int (4 : Int32)), .val (.int (Int32.ofNat nk3))] [(.int (1 : Int32))])) _
  refine Goes.by (fun _ k => XS.aloadN X22.here hx rfl (hb hby d1_89) rfl rfl k) ?_
  show Goes p.tables e below (T22.setTop (mkF m 90 #[.val (.ref oa), .val (.ref ob), .val (.int (4 : Int32)), .val (.ref oc), .val (.ref b1), .val (.ref b18), .val (.int (1 : Int32)), .val (.int (4 : Int32)), .val (.int (Int32.ofNat nk3))] [(.ref oa), (.int (1 : Int32))])) _
  refine Goes.by (fun _ k => alen (z := (4 : Int32)) (fr := (mkF m 90 #[.val (.ref oa), .val (.ref ob), .val (.int (4 : Int32)), .val (.ref oc), .val (.ref b1), .val (.ref b18), .val (.int (1 : Int32)), .val (.int (4 : Int32)), .val (.int (Int32.ofNat nk3))] [(.ref oa), (.int (1 : Int32))])) X22 hx hZ e22 A_oa (by decide) rfl rfl (hb hby d1_90) k) ?_
  show Goes p.tables e below (T22.setTop (mkF m 91 #[.val (.ref oa), .val (.ref ob), .val (.int (4 : Int32)), .val (.ref oc), .val (.ref b1), .val (.ref b18), .val (.int (1 : Int32)), .val (.int (4 : Int32)), .val (.int (Int32.ofNat nk3))] [(.int (4 : Int32)), (.int (1 : Int32))])) _
  refine Goes.by (fun _ k => XS.icmpNo X22.here hx rfl (hb hby d1_91) rfl (tlt (by decide : (1 : Int32) < (4 : Int32))).2.1 k) ?_
  show Goes p.tables e below (T22.setTop (mkF m 94 #[.val (.ref oa), .val (.ref ob), .val (.int (4 : Int32)), .val (.ref oc), .val (.ref b1), .val (.ref b18), .val (.int (1 : Int32)), .val (.int (4 : Int32)), .val (.int (Int32.ofNat nk3))] [])) _
  refine Goes.by (fun _ k => XS.aloadN X22.here hx rfl (hb hby d1_94) rfl rfl k) ?_
  show Goes p.tables e below (T22.setTop (mkF m 95 #[.val (.ref oa), .val (.ref ob), .val (.int (4 : Int32)), .val (.ref oc), .val (.ref b1), .val (.ref b18), .val (.int (1 : Int32)), .val (.int (4 : Int32)), .val (.int (Int32.ofNat nk3))] [(.ref oc)])) _
  refine Goes.by (fun _ k => XS.aload X22.here hx rfl (hb hby d1_95) rfl rfl k) ?_
  show Goes p.tables e below (T22.setTop (mkF m 97 #[.val (.ref oa), .val (.ref ob), .val (.int (4 : Int32)), .val (.ref oc), .val (.ref b1), .val (.ref b18), .val (.int (1 : Int32)), .val (.int (4 : Int32)), .val (.int (Int32.ofNat nk3))] [(.ref b1), (.ref oc)])) _
  refine Goes.by (fun _ k => XS.aloadN X22.here hx rfl (hb hby d1_97) rfl rfl k) ?_
  show Goes p.tables e below (T22.setTop (mkF m 98 #[.val (.ref oa), .val (.ref ob), .val (.int (4 : Int32)), .val (.ref oc), .val (.ref b1), .val (.ref b18), .val (.int (1 : Int32)), .val (.int (4 : Int32)), .val (.int (Int32.ofNat nk3))] [(.ref ob), (.ref b1), (.ref oc)])) _
  refine Goes.by (fun _ k => XS.iload X22.here hx rfl (hb hby d1_98) rfl k) ?_
  show Goes p.tables e below (T22.setTop (mkF m 100 #[.val (.ref oa), .val (.ref ob), .val (.int (4 : Int32)), .val (.ref oc), .val (.ref b1), .val (.ref b18), .val (.int (1 : Int32)), .val (.int (4 : Int32)), .val (.int (Int32.ofNat nk3))] [(.int (1 : Int32)), (.ref ob), (.ref b1), (.ref oc)])) _
  refine Goes.by (fun _ k => ldI (v := (Int32.ofNat nk1)) (fr := (mkF m 100 #[.val (.ref oa), .val (.ref ob), .val (.int (4 : Int32)), .val (.ref oc), .val (.ref b1), .val (.ref b18), .val (.int (1 : Int32)), .val (.int (4 : Int32)), .val (.int (Int32.ofNat nk3))] [(.int (1 : Int32)), (.ref ob), (.ref b1), (.ref oc)])) X22 hx hZ e22 A_ob (i := 1) (by decide) (by decide) rfl rfl rfl (hb hby d1_100) k) ?_
  show Goes p.tables e below (T22.setTop (mkF m 101 #[.val (.ref oa), .val (.ref ob), .val (.int (4 : Int32)), .val (.ref oc), .val (.ref b1), .val (.ref b18), .val (.int (1 : Int32)), .val (.int (4 : Int32)), .val (.int (Int32.ofNat nk3))] [(.int (Int32.ofNat nk1)), (.ref b1), (.ref oc)])) _
  refine Goes.by (fun _ k => ldI (v := ((own_pre 4 nk0 nk1 nk2 nk3) nk1)) (fr := (mkF m 101 #[.val (.ref oa), .val (.ref ob), .val (.int (4 : Int32)), .val (.ref oc), .val (.ref b1), .val (.ref b18), .val (.int (1 : Int32)), .val (.int (4 : Int32)), .val (.int (Int32.ofNat nk3))] [(.int (Int32.ofNat nk1)), (.ref b1), (.ref oc)])) X22 hx hZ e22 A_b1 (i := nk1) (own_i0 nk1 (Nat.lt_trans hnk1 (by decide))) (Nat.lt_succ_of_lt hnk1) rfl rfl rfl (hb hby d1_101) k) ?_
  show Goes p.tables e below (T22.setTop (mkF m 102 #[.val (.ref oa), .val (.ref ob), .val (.int (4 : Int32)), .val (.ref oc), .val (.ref b1), .val (.ref b18), .val (.int (1 : Int32)), .val (.int (4 : Int32)), .val (.int (Int32.ofNat nk3))] [(.int ((own_pre 4 nk0 nk1 nk2 nk3) nk1)), (.ref oc)])) _
  refine Goes.by (fun _ k => XS.aload X22.here hx rfl (hb hby d1_102) rfl rfl k) ?_
  show Goes p.tables e below (T22.setTop (mkF m 104 #[.val (.ref oa), .val (.ref ob), .val (.int (4 : Int32)), .val (.ref oc), .val (.ref b1), .val (.ref b18), .val (.int (1 : Int32)), .val (.int (4 : Int32)), .val (.int (Int32.ofNat nk3))] [(.ref b18), (.int ((own_pre 4 nk0 nk1 nk2 nk3) nk1)), (.ref oc)])) _
  refine Goes.by (fun _ k => XS.aloadN X22.here hx rfl (hb hby d1_104) rfl rfl k) ?_
  show Goes p.tables e below (T22.setTop (mkF m 105 #[.val (.ref oa), .val (.ref ob), .val (.int (4 : Int32)), .val (.ref oc), .val (.ref b1), .val (.ref b18), .val (.int (1 : Int32)), .val (.int (4 : Int32)), .val (.int (Int32.ofNat nk3))] [(.ref ob), (.ref b18), (.int ((own_pre 4 nk0 nk1 nk2 nk3) nk1)), (.ref oc)])) _
  refine Goes.by (fun _ k => XS.iload X22.here hx rfl (hb hby d1_105) rfl k) ?_
  show Goes p.tables e below (T22.setTop (mkF m 107 #[.val (.ref oa), .val (.ref ob), .val (.int (4 : Int32)), .val (.ref oc), .val (.ref b1), .val (.ref b18), .val (.int (1 : Int32)), .val (.int (4 : Int32)), .val (.int (Int32.ofNat nk3))] [(.int (1 : Int32)), (.ref ob), (.ref b18), (.int ((own_pre 4 nk0 nk1 nk2 nk3) nk1)), (.ref oc)])) _
  refine Goes.by (fun _ k => ldI (v := (Int32.ofNat nk1)) (fr := (mkF m 107 #[.val (.ref oa), .val (.ref ob), .val (.int (4 : Int32)), .val (.ref oc), .val (.ref b1), .val (.ref b18), .val (.int (1 : Int32)), .val (.int (4 : Int32)), .val (.int (Int32.ofNat nk3))] [(.int (1 : Int32)), (.ref ob), (.ref b18), (.int ((own_pre 4 nk0 nk1 nk2 nk3) nk1)), (.ref oc)])) X22 hx hZ e22 A_ob (i := 1) (by decide) (by decide) rfl rfl rfl (hb hby d1_107) k) ?_
  show Goes p.tables e below (T22.setTop (mkF m 108 #[.val (.ref oa), .val (.ref ob), .val (.int (4 : Int32)), .val (.ref oc), .val (.ref b1), .val (.ref b18), .val (.int (1 : Int32)), .val (.int (4 : Int32)), .val (.int (Int32.ofNat nk3))] [(.int (Int32.ofNat nk1)), (.ref b18), (.int ((own_pre 4 nk0 nk1 nk2 nk3) nk1)), (.ref oc)])) _
  have sd23 : ∀ u, Steps p.tables e below (T22.setTop (mkF m 109 #[.val (.ref oa), .val (.ref ob), .val (.int (4 : Int32)), .val (.ref oc), .val (.ref b1), .val (.ref b18), .val (.int (1 : Int32)), .val (.int (4 : Int32)), .val (.int (Int32.ofNat nk3))] [(.int (Int32.ofNat nk1)), (.ref b18), (.int (Int32.ofNat nk1)), (.ref b18), (.int ((own_pre 4 nk0 nk1 nk2 nk3) nk1)), (.ref oc)])) u → Steps p.tables e below (T22.setTop (mkF m 108 #[.val (.ref oa), .val (.ref ob), .val (.int (4 : Int32)), .val (.ref oc), .val (.ref b1), .val (.ref b18), .val (.int (1 : Int32)), .val (.int (4 : Int32)), .val (.int (Int32.ofNat nk3))] [(.int (Int32.ofNat nk1)), (.ref b18), (.int ((own_pre 4 nk0 nk1 nk2 nk3) nk1)), (.ref oc)])) u := by
    intro u k
    jvm_step X22.here [X22.here.top, hx, (hb hby d1_108), Value.category]
    exact k
  refine Goes.by (fun _ k => sd23 _ k) ?_
  show Goes p.tables e below (T22.setTop (mkF m 109 #[.val (.ref oa), .val (.ref ob), .val (.int (4 : Int32)), .val (.ref oc), .val (.ref b1), .val (.ref b18), .val (.int (1 : Int32)), .val (.int (4 : Int32)), .val (.int (Int32.ofNat nk3))] [(.int (Int32.ofNat nk1)), (.ref b18), (.int (Int32.ofNat nk1)), (.ref b18), (.int ((own_pre 4 nk0 nk1 nk2 nk3) nk1)), (.ref oc)])) _
  refine Goes.by (fun _ k => ldI (v := ((own_nx1 nk0 nk1 nk2 nk3) nk1)) (fr := (mkF m 109 #[.val (.ref oa), .val (.ref ob), .val (.int (4 : Int32)), .val (.ref oc), .val (.ref b1), .val (.ref b18), .val (.int (1 : Int32)), .val (.int (4 : Int32)), .val (.int (Int32.ofNat nk3))] [(.int (Int32.ofNat nk1)), (.ref b18), (.int (Int32.ofNat nk1)), (.ref b18), (.int ((own_pre 4 nk0 nk1 nk2 nk3) nk1)), (.ref oc)])) X22 hx hZ e22 A_b18 (i := nk1) (own_i0 nk1 (Nat.lt_trans hnk1 (by decide))) hnk1 rfl rfl rfl (hb hby d1_109) k) ?_
  show Goes p.tables e below (T22.setTop (mkF m 110 #[.val (.ref oa), .val (.ref ob), .val (.int (4 : Int32)), .val (.ref oc), .val (.ref b1), .val (.ref b18), .val (.int (1 : Int32)), .val (.int (4 : Int32)), .val (.int (Int32.ofNat nk3))] [(.int ((own_nx1 nk0 nk1 nk2 nk3) nk1)), (.int (Int32.ofNat nk1)), (.ref b18), (.int ((own_pre 4 nk0 nk1 nk2 nk3) nk1)), (.ref oc)])) _
  have sd24 : ∀ u, Steps p.tables e below (T22.setTop (mkF m 111 #[.val (.ref oa), .val (.ref ob), .val (.int (4 : Int32)), .val (.ref oc), .val (.ref b1), .val (.ref b18), .val (.int (1 : Int32)), .val (.int (4 : Int32)), .val (.int (Int32.ofNat nk3))] [(.int ((own_nx1 nk0 nk1 nk2 nk3) nk1)), (.int (Int32.ofNat nk1)), (.ref b18), (.int ((own_nx1 nk0 nk1 nk2 nk3) nk1)), (.int ((own_pre 4 nk0 nk1 nk2 nk3) nk1)), (.ref oc)])) u → Steps p.tables e below (T22.setTop (mkF m 110 #[.val (.ref oa), .val (.ref ob), .val (.int (4 : Int32)), .val (.ref oc), .val (.ref b1), .val (.ref b18), .val (.int (1 : Int32)), .val (.int (4 : Int32)), .val (.int (Int32.ofNat nk3))] [(.int ((own_nx1 nk0 nk1 nk2 nk3) nk1)), (.int (Int32.ofNat nk1)), (.ref b18), (.int ((own_pre 4 nk0 nk1 nk2 nk3) nk1)), (.ref oc)])) u := by
    intro u k
    jvm_step X22.here [X22.here.top, hx, (hb hby d1_110), Value.category]
    exact k
  refine Goes.by (fun _ k => sd24 _ k) ?_
  show Goes p.tables e below (T22.setTop (mkF m 111 #[.val (.ref oa), .val (.ref ob), .val (.int (4 : Int32)), .val (.ref oc), .val (.ref b1), .val (.ref b18), .val (.int (1 : Int32)), .val (.int (4 : Int32)), .val (.int (Int32.ofNat nk3))] [(.int ((own_nx1 nk0 nk1 nk2 nk3) nk1)), (.int (Int32.ofNat nk1)), (.ref b18), (.int ((own_nx1 nk0 nk1 nk2 nk3) nk1)), (.int ((own_pre 4 nk0 nk1 nk2 nk3) nk1)), (.ref oc)])) _
  refine Goes.by (fun _ k => XS.iconst X22.here hx rfl (hb hby d1_111) k) ?_
  show Goes p.tables e below (T22.setTop (mkF m 112 #[.val (.ref oa), .val (.ref ob), .val (.int (4 : Int32)), .val (.ref oc), .val (.ref b1), .val (.ref b18), .val (.int (1 : Int32)), .val (.int (4 : Int32)), .val (.int (Int32.ofNat nk3))] [(.int (1 : Int32)), (.int ((own_nx1 nk0 nk1 nk2 nk3) nk1)), (.int (Int32.ofNat nk1)), (.ref b18), (.int ((own_nx1 nk0 nk1 nk2 nk3) nk1)), (.int ((own_pre 4 nk0 nk1 nk2 nk3) nk1)), (.ref oc)])) _
  refine Goes.by (fun _ k => XS.iadd X22.here hx rfl (hb hby d1_112) rfl k) ?_
  show Goes p.tables e below (T22.setTop (mkF m 113 #[.val (.ref oa), .val (.ref ob), .val (.int (4 : Int32)), .val (.ref oc), .val (.ref b1), .val (.ref b18), .val (.int (1 : Int32)), .val (.int (4 : Int32)), .val (.int (Int32.ofNat nk3))] [(.int (((own_nx1 nk0 nk1 nk2 nk3) nk1) + (1 : Int32))), (.int (Int32.ofNat nk1)), (.ref b18), (.int ((own_nx1 nk0 nk1 nk2 nk3) nk1)), (.int ((own_pre 4 nk0 nk1 nk2 nk3) nk1)), (.ref oc)])) _
  obtain ⟨T25, h25, X25, e25, W25, A25, st25⟩ := stAI (fr := (mkF m 113 #[.val (.ref oa), .val (.ref ob), .val (.int (4 : Int32)), .val (.ref oc), .val (.ref b1), .val (.ref b18), .val (.int (1 : Int32)), .val (.int (4 : Int32)), .val (.int (Int32.ofNat nk3))] [(.int (((own_nx1 nk0 nk1 nk2 nk3) nk1) + (1 : Int32))), (.int (Int32.ofNat nk1)), (.ref b18), (.int ((own_nx1 nk0 nk1 nk2 nk3) nk1)), (.int ((own_pre 4 nk0 nk1 nk2 nk3) nk1)), (.ref oc)])) X22 hx hZ e22 A_b18 (i := nk1) (own_i0 nk1 (Nat.lt_trans hnk1 (by decide))) hnk1 rfl rfl (hb hby d1_113)
  refine Goes.by st25 ?_
  have A_b18 : AI Z h25 b18 .int 4 (own_nx2 nk0 nk1 nk2 nk3) := A25.congr (fun j hj => own_g4_2 ⟨nk0, hnk0⟩ ⟨nk1, hnk1⟩ ⟨nk2, hnk2⟩ ⟨nk3, hnk3⟩ ⟨j, hj⟩)
  have N25 := Fr.snoc X25 N22 g_b18
  have Zs25 : n0 ≤ h25.size := Nat.le_trans Zs22 (Keep.of_wr W25).1
  have K25 : Keep h0 h25 [oc] := K22.wr W25 (Or.inr sz_b18)
  have A_oa : AI Z h25 oa .int 4 pa := A_oa.other W25 ne_oa_b18
  have A_ob : AI Z h25 ob .int 4 (own_keys nk0 nk1 nk2 nk3) := A_ob.other W25 ne_ob_b18
  have A_oc : AI Z h25 oc .int 4 (up (fun _ => (0 : Int32)) (own_rank0 nk0 nk1 nk2 nk3) (pa 0)) := A_oc.other W25 ne_oc_b18
  have A_b1 : AI Z h25 b1 .int 5 (own_pre 4 nk0 nk1 nk2 nk3) := A_b1.other W25 ne_b1_b18
  show Goes p.tables e below (T25.setTop (mkF m 114 #[.val (.ref oa), .val (.ref ob), .val (.int (4 : Int32)), .val (.ref oc), .val (.ref b1), .val (.ref b18), .val (.int (1 : Int32)), .val (.int (4 : Int32)), .val (.int (Int32.ofNat nk3))] [(.int ((own_nx1 nk0 nk1 nk2 nk3) nk1)), (.int ((own_pre 4 nk0 nk1 nk2 nk3) nk1)), (.ref oc)])) _
  refine Goes.by (fun _ k => XS.iadd X25.here hx rfl (hb hby d1_114) rfl k) ?_
  show Goes p.tables e below (T25.setTop (mkF m 115 #[.val (.ref oa), .val (.ref ob), .val (.int (4 : Int32)), .val (.ref oc), .val (.ref b1), .val (.ref b18), .val (.int (1 : Int32)), .val (.int (4 : Int32)), .val (.int (Int32.ofNat nk3))] [(.int (((own_pre 4 nk0 nk1 nk2 nk3) nk1) + ((own_nx1 nk0 nk1 nk2 nk3) nk1))), (.ref oc)])) _
  refine Goes.by (fun _ k => XS.aloadN X25.here hx rfl (hb hby d1_115) rfl rfl k) ?_
  show Goes p.tables e below (T25.setTop (mkF m 116 #[.val (.ref oa), .val (.ref ob), .val (.int (4 : Int32)), .val (.ref oc), .val (.ref b1), .val (.ref b18), .val (.int (1 : Int32)), .val (.int (4 : Int32)), .val (.int (Int32.ofNat nk3))] [(.ref oa), (.int (((own_pre 4 nk0 nk1 nk2 nk3) nk1) + ((own_nx1 nk0 nk1 nk2 nk3) nk1))), (.ref oc)])) _
  refine Goes.by (fun _ k => XS.iload X25.here hx rfl (hb hby d1_116) rfl k) ?_
  show Goes p.tables e below (T25.setTop (mkF m 118 #[.val (.ref oa), .val (.ref ob), .val (.int (4 : Int32)), .val (.ref oc), .val (.ref b1), .val (.ref b18), .val (.int (1 : Int32)), .val (.int (4 : Int32)), .val (.int (Int32.ofNat nk3))] [(.int (1 : Int32)), (.ref oa), (.int (((own_pre 4 nk0 nk1 nk2 nk3) nk1) + ((own_nx1 nk0 nk1 nk2 nk3) nk1))), (.ref oc)])) _
  refine Goes.by (fun _ k => ldI (v := (pa 1)) (fr := (mkF m 118 #[.val (.ref oa), .val (.ref ob), .val (.int (4 : Int32)), .val (.ref oc), .val (.ref b1), .val (.ref b18), .val (.int (1 : Int32)), .val (.int (4 : Int32)), .val (.int (Int32.ofNat nk3))] [(.int (1 : Int32)), (.ref oa), (.int (((own_pre 4 nk0 nk1 nk2 nk3) nk1) + ((own_nx1 nk0 nk1 nk2 nk3) nk1))), (.ref oc)])) X25 hx hZ e25 A_oa (i := 1) (by decide) (by decide) rfl rfl rfl (hb hby d1_118) k) ?_
  show Goes p.tables e below (T25.setTop (mkF m 119 #[.val (.ref oa), .val (.ref ob), .val (.int (4 : Int32)), .val (.ref oc), .val (.ref b1), .val (.ref b18), .val (.int (1 : Int32)), .val (.int (4 : Int32)), .val (.int (Int32.ofNat nk3))] [(.int (pa 1)), (.int (((own_pre 4 nk0 nk1 nk2 nk3) nk1) + ((own_nx1 nk0 nk1 nk2 nk3) nk1))), (.ref oc)])) _
  obtain ⟨T26, h26, X26, e26, W26, A26, st26⟩ := stAI (fr := (mkF m 119 #[.val (.ref oa), .val (.ref ob), .val (.int (4 : Int32)), .val (.ref oc), .val (.ref b1), .val (.ref b18), .val (.int (1 : Int32)), .val (.int (4 : Int32)), .val (.int (Int32.ofNat nk3))] [(.int (pa 1)), (.int (((own_pre 4 nk0 nk1 nk2 nk3) nk1) + ((own_nx1 nk0 nk1 nk2 nk3) nk1))), (.ref oc)])) X25 hx hZ e25 A_oc (i := (own_rank1 nk0 nk1 nk2 nk3)) (own_pl4_1 ⟨nk0, hnk0⟩ ⟨nk1, hnk1⟩ ⟨nk2, hnk2⟩ ⟨nk3, hnk3⟩).1 (own_pl4_1 ⟨nk0, hnk0⟩ ⟨nk1, hnk1⟩ ⟨nk2, hnk2⟩ ⟨nk3, hnk3⟩).2 rfl rfl (hb hby d1_119)
  refine Goes.by st26 ?_
  have A_oc : AI Z h26 oc .int 4 (up (up (fun _ => (0 : Int32)) (own_rank0 nk0 nk1 nk2 nk3) (pa 0)) (own_rank1 nk0 nk1 nk2 nk3) (pa 1)) := A26
  have N26 := Fr.snoc X26 N25 g_oc
  have Zs26 : n0 ≤ h26.size := Nat.le_trans Zs25 (Keep.of_wr W26).1
  have K26 : Keep h0 h26 [oc] := K25.wr W26 (Or.inl (List.mem_of_getElem? (i := 0) rfl))
  have A_oa : AI Z h26 oa .int 4 pa := A_oa.other W26 ne_oa_oc
  have A_ob : AI Z h26 ob .int 4 (own_keys nk0 nk1 nk2 nk3) := A_ob.other W26 ne_ob_oc
  have A_b1 : AI Z h26 b1 .int 5 (own_pre 4 nk0 nk1 nk2 nk3) := A_b1.other W26 (Ne.symm ne_oc_b1)
  have A_b18 : AI Z h26 b18 .int 4 (own_nx2 nk0 nk1 nk2 nk3) := A_b18.other W26 (Ne.symm ne_oc_b18)
  show Goes p.tables e below (T26.setTop (mkF m 120 #[.val (.ref oa), .val (.ref ob), .val (.int (4 : Int32)), .val (.ref oc), .val (.ref b1), .val (.ref b18), .val (.int (1 : Int32)), .val (.int (4 : Int32)), .val (.int (Int32.ofNat nk3))] [])) _
  refine Goes.by (fun _ k => XS.iinc X26.here hx rfl (hb hby d1_120) rfl (l' := #[.val (.ref oa), .val (.ref ob), .val (.int (4 : Int32)), .val (.ref oc), .val (.ref b1), .val (.ref b18), .val (.int (2 : Int32)), .val (.int (4 : Int32)), .val (.int (Int32.ofNat nk3))]) rfl k) ?_
  show Goes p.tables e below (T26.setTop (mkF m 123 #[.val (.ref oa), .val (.ref ob), .val (.int (4 : Int32)), .val (.ref oc), .val (.ref b1), .val (.ref b18), .val (.int (2 : Int32)), .val (.int (4 : Int32)), .val (.int (Int32.ofNat nk3))] [])) _
  refine Goes.by (fun _ k => XS.goto X26.here hx rfl (pc0 := 123) (pc' := 87) rfl (hb hby d1_123) (by decide) (by decide) k) ?_
  show Goes p.tables e below (T26.setTop (mkF m 87 #[.val (.ref oa), .val (.ref ob), .val (.int (4 : Int32)), .val (.ref oc), .val (.ref b1), .val (.ref b18), .val (.int (2 : Int32)), .val (.int (4 : Int32)), .val (.int (Int32.ofNat nk3))] [])) _
  refine Goes.by (fun _ k => XS.iload X26.here hx rfl (hb hby d1_87) rfl k) ?_
  show Goes p.tables e below (T26.setTop (mkF m 89 #[.val (.ref oa), .val (.ref ob), .val (.int (4 : Int32)), .val (.ref oc), .val (.ref b1), .val (.ref b18), .val (.int (2 : Int32)), .val (.int (4 : Int32)), .val (.int (Int32.ofNat nk3))] [(.int (2 : Int32))])) _
  refine Goes.by (fun _ k => XS.aloadN X26.here hx rfl (hb hby d1_89) rfl rfl k) ?_
  show Goes p.tables e below (T26.setTop (mkF m 90 #[.val (.ref oa), .val (.ref ob), .val (.int (4 : Int32)), .val (.ref oc), .val (.ref b1), .val (.ref b18), .val (.int (2 : Int32)), .val (.int (4 : Int32)), .val (.int (Int32.ofNat nk3))] [(.ref oa), (.int (2 : Int32))])) _
  refine Goes.by (fun _ k => alen (z := (4 : Int32)) (fr := (mkF m 90 #[.val (.ref oa), .val (.ref ob), .val (.int (4 : Int32)), .val (.ref oc), .val (.ref b1), .val (.ref b18), .val (.int (2 : Int32)), .val (.int (4 : Int32)), .val (.int (Int32.ofNat nk3))] [(.ref oa), (.int (2 : Int32))])) X26 hx hZ e26 A_oa (by decide) rfl rfl (hb hby d1_90) k) ?_
  show Goes p.tables e below (T26.setTop (mkF m 91 #[.val (.ref oa), .val (.ref ob), .val (.int (4 : Int32)), .val (.ref oc), .val (.ref b1), .val (.ref b18), .val (.int (2 : Int32)), .val (.int (4 : Int32)), .val (.int (Int32.ofNat nk3))] [(.int (4 : Int32)), (.int (2 : Int32))])) _
  refine Goes.by (fun _ k => XS.icmpNo X26.here hx rfl (hb hby d1_91) rfl (tlt (by decide : (2 : Int32) < (4 : Int32))).2.1 k) ?_
  show Goes p.tables e below (T26.setTop (mkF m 94 #[.val (.ref oa), .val (.ref ob), .val (.int (4 : Int32)), .val (.ref oc), .val (.ref b1), .val (.ref b18), .val (.int (2 : Int32)), .val (.int (4 : Int32)), .val (.int (Int32.ofNat nk3))] [])) _
  refine Goes.by (fun _ k => XS.aloadN X26.here hx rfl (hb hby d1_94) rfl rfl k) ?_
  show Goes p.tables e below (T26.setTop (mkF m 95 #[.val (.ref oa), .val (.ref ob), .val (.int (4 : Int32)), .val (.ref oc), .val (.ref b1), .val (.ref b18), .val (.int (2 : Int32)), .val (.int (4 : Int32)), .val (.int (Int32.ofNat nk3))] [(.ref oc)])) _
  refine Goes.by (fun _ k => XS.aload X26.here hx rfl (hb hby d1_95) rfl rfl k) ?_
  show Goes p.tables e below (T26.setTop (mkF m 97 #[.val (.ref oa), .val (.ref ob), .val (.int (4 : Int32)), .val (.ref oc), .val (.ref b1), .val (.ref b18), .val (.int (2 : Int32)), .val (.int (4 : Int32)), .val (.int (Int32.ofNat nk3))] [(.ref b1), (.ref oc)])) _
  refine Goes.by (fun _ k => XS.aloadN X26.here hx rfl (hb hby d1_97) rfl rfl k) ?_
  show Goes p.tables e below (T26.setTop (mkF m 98 #[.val (.ref oa), .val (.ref ob), .val (.int (4 : Int32)), .val (.ref oc), .val (.ref b1), .val (.ref b18), .val (.int (2 : Int32)), .val (.int (4 : Int32)), .val (.int (Int32.ofNat nk3))] [(.ref ob), (.ref b1), (.ref oc)])) _
  refine Goes.by (fun _ k => XS.iload X26.here hx rfl (hb hby d1_98) rfl k) ?_
  show Goes p.tables e below (T26.setTop (mkF m 100 #[.val (.ref oa), .val (.ref ob), .val (.int (4 : Int32)), .val (.ref oc), .val (.ref b1), .val (.ref b18), .val (.int (2 : Int32)), .val (.int (4 : Int32)), .val (.int (Int32.ofNat nk3))] [(.int (2 : Int32)), (.ref ob), (.ref b1), (.ref oc)])) _
  refine Goes.by (fun _ k => ldI (v := (Int32.ofNat nk2)) (fr := (mkF m 100 #[.val (.ref oa), .val (.ref ob), .val (.int (4 : Int32)), .val (.ref oc), .val (.ref b1), .val (.ref b18), .val (.int (2 : Int32)), .val (.int (4 : Int32)), .val (.int (Int32.ofNat nk3))] [(.int (2 : Int32)), (.ref ob), (.ref b1), (.ref oc)])) X26 hx hZ e26 A_ob (i := 2) (by decide) (by decide) rfl rfl rfl (hb hby d1_100) k) ?_
  show Goes p.tables e below (T26.setTop (mkF m 101 #[.val (.ref oa), .val (.ref ob), .val (.int (4 : Int32)), .val (.ref oc), .val (.ref b1), .val (.ref b18), .val (.int (2 : Int32)), .val (.int (4 : Int32)), .val (.int (Int32.ofNat nk3))] [(.int (Int32.ofNat nk2)), (.ref b1), (.ref oc)])) _
  refine Goes.by (fun _ k => ldI (v := ((own_pre 4 nk0 nk1 nk2 nk3) nk2)) (fr := (mkF m 101 #[.val (.ref oa), .val (.ref ob), .val (.int (4 : Int32)), .val (.ref oc), .val (.ref b1), .val (.ref b18), .val (.int (2 : Int32)), .val (.int (4 : Int32)), .val (.int (Int32.ofNat nk3))] [(.int (Int32.ofNat nk2)), (.ref b1), (.ref oc)])) X26 hx hZ e26 A_b1 (i := nk2) (own_i0 nk2 (Nat.lt_trans hnk2 (by decide))) (Nat.lt_succ_of_lt hnk2) rfl rfl rfl (hb hby d1_101) k) ?_
  show Goes p.tables e below (T26.setTop (mkF m 102 #[.val (.ref oa), .val (.ref ob), .val (.int (4 : Int32)), .val (.ref oc), .val (.ref b1), .val (.ref b18), .val (.int (2 : Int32)), .val (.int (4 : Int32)), .val (.int (Int32.ofNat nk3))] [(.int ((own_pre 4 nk0 nk1 nk2 nk3) nk2)), (.ref oc)])) _
  refine Goes.by (fun _ k => XS.aload X26.here hx rfl (hb hby d1_102) rfl rfl k) ?_
  show Goes p.tables e below (T26.setTop (mkF m 104 #[.val (.ref oa), .val (.ref ob), .val (.int (4 : Int32)), .val (.ref oc), .val (.ref b1), .val (.ref b18), .val (.int (2 : Int32)), .val (.int (4 : Int32)), .val (.int (Int32.ofNat nk3))] [(.ref b18), (.int ((own_pre 4 nk0 nk1 nk2 nk3) nk2)), (.ref oc)])) _
  refine Goes.by (fun _ k => XS.aloadN X26.here hx rfl (hb hby d1_104) rfl rfl k) ?_
  show Goes p.tables e below (T26.setTop (mkF m 105 #[.val (.ref oa), .val (.ref ob), .val (.int (4 : Int32)), .val (.ref oc), .val (.ref b1), .val (.ref b18), .val (.int (2 : Int32)), .val (.int (4 : Int32)), .val (.int (Int32.ofNat nk3))] [(.ref ob), (.ref b18), (.int ((own_pre 4 nk0 nk1 nk2 nk3) nk2)), (.ref oc)])) _
  refine Goes.by (fun _ k => XS.iload X26.here hx rfl (hb hby d1_105) rfl k) ?_
  show Goes p.tables e below (T26.setTop (mkF m 107 #[.val (.ref oa), .val (.ref ob), .val (.int (4 : Int32)), .val (.ref oc), .val (.ref b1), .val (.ref b18), .val (.int (2 : Int32)), .val (.int (4 : Int32)), .val (.int (Int32.ofNat nk3))] [(.int (2 : Int32)), (.ref ob), (.ref b18), (.int ((own_pre 4 nk0 nk1 nk2 nk3) nk2)), (.ref oc)])) _
  refine Goes.by (fun _ k => ldI (v := (Int32.ofNat nk2)) (fr := (mkF m 107 #[.val (.ref oa), .val (.ref ob), .val (.int (4 : Int32)), .val (.ref oc), .val (.ref b1), .val (.ref b18), .val (.int (2 : Int32)), .val (.int (4 : Int32)), .val (.int (Int32.ofNat nk3))] [(.int (2 : Int32)), (.ref ob), (.ref b18), (.int ((own_pre 4 nk0 nk1 nk2 nk3) nk2)), (.ref oc)])) X26 hx hZ e26 A_ob (i := 2) (by decide) (by decide) rfl rfl rfl (hb hby d1_107) k) ?_
  show Goes p.tables e below (T26.setTop (mkF m 108 #[.val (.ref oa), .val (.ref ob), .val (.int (4 : Int32)), .val (.ref oc), .val (.ref b1), .val (.ref b18), .val (.int (2 : Int32)), .val (.int (4 : Int32)), .val (.int (Int32.ofNat nk3))] [(.int (Int32.ofNat nk2)), (.ref b18), (.int ((own_pre 4 nk0 nk1 nk2 nk3) nk2)), (.ref oc)])) _
  have sd27 : ∀ u, Steps p.tables e below (T26.setTop (mkF m 109 #[.val (.ref oa), .val (.ref ob), .val (.int (4 : Int32)), .val (.ref oc), .val (.ref b1), .val (.ref b18), .val (.int (2 : Int32)), .val (.int (4 : Int32)), .val (.int (Int32.ofNat nk3))] [(.int (Int32.ofNat nk2)), (.ref b18), (.int (Int32.ofNat nk2)), (.ref b18), (.int ((own_pre 4 nk0 nk1 nk2 nk3) nk2)), (.ref oc)])) u → Steps p.tables e below (T26.setTop (mkF m 108 #[.val (.ref oa), .val (.ref ob), .val (.int (4 : Int32)), .val (.ref oc), .val (.ref b1), .val (.ref b18), .val (.int (2 : Int32)), .val (.int (4 : Int32)), .val (.int (Int32.ofNat nk3))] [(.int (Int32.ofNat nk2)), (.ref b18), (.int ((own_pre 4 nk0 nk1 nk2 nk3) nk2)), (.ref oc)])) u := by
    intro u k
    jvm_step X26.here [X26.here.top, hx, (hb hby d1_108), Value.category]
    exact k
  refine Goes.by (fun _ k => sd27 _ k) ?_
  show Goes p.tables e below (T26.setTop (mkF m 109 #[.val (.ref oa), .val (.ref ob), .val (.int (4 : Int32)), .val (.ref oc), .val (.ref b1), .val (.ref b18), .val (.int (2 : Int32)), .val (.int (4 : Int32)), .val (.int (Int32.ofNat nk3))] [(.int (Int32.ofNat nk2)), (.ref b18), (.int (Int32.ofNat nk2)), (.ref b18), (.int ((own_pre 4 nk0 nk1 nk2 nk3) nk2)), (.ref oc)])) _
  refine Goes.by (fun _ k => ldI (v := ((own_nx2 nk0 nk1 nk2 nk3) nk2)) (fr := (mkF m 109 #[.val (.ref oa), .val (.ref ob), .val (.int (4 : Int32)), .val (.ref oc), .val (.ref b1), .val (.ref b18), .val (.int (2 : Int32)), .val (.int (4 : Int32)), .val (.int (Int32.ofNat nk3))] [(.int (Int32.ofNat nk2)), (.ref b18), (.int (Int32.ofNat nk2)), (.ref b18), (.int ((own_pre 4 nk0 nk1 nk2 nk3) nk2)), (.ref oc)])) X26 hx hZ e26 A_b18 (i := nk2) (own_i0 nk2 (Nat.lt_trans hnk2 (by decide))) hnk2 rfl rfl rfl (hb hby d1_109) k) ?_
  show Goes p.tables e below (T26.setTop (mkF m 110 #[.val (.ref oa), .val (.ref ob), .val (.int (4 : Int32)), .val (.ref oc), .val (.ref b1), .val (.ref b18), .val (.int (2 : Int32)), .val (.int (4 : Int32)), .val (.int (Int32.ofNat nk3))] [(.int ((own_nx2 nk0 nk1 nk2 nk3) nk2)), (.int (Int32.ofNat nk2)), (.ref b18), (.int ((own_pre 4 nk0 nk1 nk2 nk3) nk2)), (.ref oc)])) _
  have sd28 : ∀ u, Steps p.tables e below (T26.setTop (mkF m 111 #[.val (.ref oa), .val (.ref ob), .val (.int (4 : Int32)), .val (.ref oc), .val (.ref b1), .val (.ref b18), .val (.int (2 : Int32)), .val (.int (4 : Int32)), .val (.int (Int32.ofNat nk3))] [(.int ((own_nx2 nk0 nk1 nk2 nk3) nk2)), (.int (Int32.ofNat nk2)), (.ref b18), (.int ((own_nx2 nk0 nk1 nk2 nk3) nk2)), (.int ((own_pre 4 nk0 nk1 nk2 nk3) nk2)), (.ref oc)])) u → Steps p.tables e below (T26.setTop (mkF m 110 #[.val (.ref oa), .val (.ref ob), .val (.int (4 : Int32)), .val (.ref oc), .val (.ref b1), .val (.ref b18), .val (.int (2 : Int32)), .val (.int (4 : Int32)), .val (.int (Int32.ofNat nk3))] [(.int ((own_nx2 nk0 nk1 nk2 nk3) nk2)), (.int (Int32.ofNat nk2)), (.ref b18), (.int ((own_pre 4 nk0 nk1 nk2 nk3) nk2)), (.ref oc)])) u := by
    intro u k
    jvm_step X26.here [X26.here.top, hx, (hb hby d1_110), Value.category]
    exact k
  refine Goes.by (fun _ k => sd28 _ k) ?_
  show Goes p.tables e below (T26.setTop (mkF m 111 #[.val (.ref oa), .val (.ref ob), .val (.int (4 : Int32)), .val (.ref oc), .val (.ref b1), .val (.ref b18), .val (.int (2 : Int32)), .val (.int (4 : Int32)), .val (.int (Int32.ofNat nk3))] [(.int ((own_nx2 nk0 nk1 nk2 nk3) nk2)), (.int (Int32.ofNat nk2)), (.ref b18), (.int ((own_nx2 nk0 nk1 nk2 nk3) nk2)), (.int ((own_pre 4 nk0 nk1 nk2 nk3) nk2)), (.ref oc)])) _
  refine Goes.by (fun _ k => XS.iconst X26.here hx rfl (hb hby d1_111) k) ?_
  show Goes p.tables e below (T26.setTop (mkF m 112 #[.val (.ref oa), .val (.ref ob), .val (.int (4 : Int32)), .val (.ref oc), .val (.ref b1), .val (.ref b18), .val (.int (2 : Int32)), .val (.int (4 : Int32)), .val (.int (Int32.ofNat nk3))] [(.int (1 : Int32)), (.int ((own_nx2 nk0 nk1 nk2 nk3) nk2)), (.int (Int32.ofNat nk2)), (.ref b18), (.int ((own_nx2 nk0 nk1 nk2 nk3) nk2)), (.int ((own_pre 4 nk0 nk1 nk2 nk3) nk2)), (.ref oc)])) _
  refine Goes.by (fun _ k => XS.iadd X26.here hx rfl (hb hby d1_112) rfl k) ?_
  show Goes p.tables e below (T26.setTop (mkF m 113 #[.val (.ref oa), .val (.ref ob), .val (.int (4 : Int32)), .val (.ref oc), .val (.ref b1), .val (.ref b18), .val (.int (2 : Int32)), .val (.int (4 : Int32)), .val (.int (Int32.ofNat nk3))] [(.int (((own_nx2 nk0 nk1 nk2 nk3) nk2) + (1 : Int32))), (.int (Int32.ofNat nk2)), (.ref b18), (.int ((own_nx2 nk0 nk1 nk2 nk3) nk2)), (.int ((own_pre 4 nk0 nk1 nk2 nk3) nk2)), (.ref oc)])) _
  obtain ⟨T29, h29, X29, e29, W29, A29, st29⟩ := stAI (fr := (mkF m 113 #[.val (.ref oa), .val (.ref ob), .val (.int (4 : Int32)), .val (.ref oc), .val (.ref b1), .val (.ref b18), .val (.int (2 : Int32)), .val (.int (4 : Int32)), .val (.int (Int32.ofNat nk3))] [(.int (((own_nx2 nk0 nk1 nk2 nk3) nk2) + (1 : Int32))), (.int (Int32.ofNat nk2)), (.ref b18), (.int ((own_nx2 nk0 nk1 nk2 nk3) nk2)), (.int ((own_pre 4 nk0 nk1 nk2 nk3) nk2)), (.ref oc)])) X26 hx hZ e26 A_b18 (i := nk2) (own_i0 nk2 (Nat.lt_trans hnk2 (by decide))) hnk2 rfl rfl (hb hby d1_113)
  refine Goes.by st29 ?_
  have A_b18 : AI Z h29 b18 .int 4 (own_nx3 nk0 nk1 nk2 nk3) := A29.congr (fun j hj => own_g4_3 ⟨nk0, hnk0⟩ ⟨nk1, hnk1⟩ ⟨nk2, hnk2⟩ ⟨nk3, hnk3⟩ ⟨j, hj⟩)
  have N29 := Fr.snoc X29 N26 g_b18
  have Zs29 : n0 ≤ h29.size := Nat.le_trans Zs26 (Keep.of_wr W29).1
  have K29 : Keep h0 h29 [oc] := K26.wr W29 (Or.inr sz_b18)
  have A_oa : AI Z h29 oa .int 4 pa := A_oa.other W29 ne_oa_b18
  have A_ob : AI Z h29 ob .int 4 (own_keys nk0 nk1 nk2 nk3) := A_ob.other W29 ne_ob_b18
  have A_oc : AI Z h29 oc .int 4 (up (up (fun _ => (0 : Int32)) (own_rank0 nk0 nk1 nk2 nk3) (pa 0)) (own_rank1 nk0 nk1 nk2 nk3) (pa 1)) := A_oc.other W29 ne_oc_b18
  have A_b1 : AI Z h29 b1 .int 5 (own_pre 4 nk0 nk1 nk2 nk3) := A_b1.other W29 ne_b1_b18
  show Goes p.tables e below (T29.setTop (mkF m 114 #[.val (.ref oa), .val (.ref ob), .val (.int (4 : Int32)), .val (.ref oc), .val (.ref b1), .val (.ref b18), .val (.int (2 : Int32)), .val (.int (4 : Int32)), .val (.int (Int32.ofNat nk3))] [(.int ((own_nx2 nk0 nk1 nk2 nk3) nk2)), (.int ((own_pre 4 nk0 nk1 nk2 nk3) nk2)), (.ref oc)])) _
  refine Goes.by (fun _ k => XS.iadd X29.here hx rfl (hb hby d1_114) rfl k) ?_
  show Goes p.tables e below (T29.setTop (mkF m 115 #[.val (.ref oa), .val (.ref ob), .val (.int (4 : Int32)), .val (.ref oc), .val (.ref b1), .val (.ref b18), .val (.int (2 : Int32)), .val (.int (4 : Int32)), .val (.int (Int32.ofNat nk3))] [(.int (((own_pre 4 nk0 nk1 nk2 nk3) nk2) + ((own_nx2 nk0 nk1 nk2 nk3) nk2))), (.ref oc)])) _
  refine Goes.by (fun _ k => XS.aloadN X29.here hx rfl (hb hby d1_115) rfl rfl k) ?_
  show Goes p.tables e below (T29.setTop (mkF m 116 #[.val (.ref oa), .val (.ref ob), .val (.int (4 : Int32)), .val (.ref oc), .val (.ref b1), .val (.ref b18), .val (.int (2 : Int32)), .val (.int (4 : Int32)), .val (.int (Int32.ofNat nk3))] [(.ref oa), (.int (((own_pre 4 nk0 nk1 nk2 nk3) nk2) + ((own_nx2 nk0 nk1 nk2 nk3) nk2))), (.ref oc)])) _
  refine Goes.by (fun _ k => XS.iload X29.here hx rfl (hb hby d1_116) rfl k) ?_
  show Goes p.tables e below (T29.setTop (mkF m 118 #[.val (.ref oa), .val (.ref ob), .val (.int (4 : Int32)), .val (.ref oc), .val (.ref b1), .val (.ref b18), .val (.int (2 : Int32)), .val (.int (4 : Int32)), .val (.int (Int32.ofNat nk3))] [(.int (2 : Int32)), (.ref oa), (.int (((own_pre 4 nk0 nk1 nk2 nk3) nk2) + ((own_nx2 nk0 nk1 nk2 nk3) nk2))), (.ref oc)])) _
  refine Goes.by (fun _ k => ldI (v := (pa 2)) (fr := (mkF m 118 #[.val (.ref oa), .val (.ref ob), .val (.int (4 : Int32)), .val (.ref oc), .val (.ref b1), .val (.ref b18), .val (.int (2 : Int32)), .val (.int (4 : Int32)), .val (.int (Int32.ofNat nk3))] [(.int (2 : Int32)), (.ref oa), (.int (((own_pre 4 nk0 nk1 nk2 nk3) nk2) + ((own_nx2 nk0 nk1 nk2 nk3) nk2))), (.ref oc)])) X29 hx hZ e29 A_oa (i := 2) (by decide) (by decide) rfl rfl rfl (hb hby d1_118) k) ?_
  show Goes p.tables e below (T29.setTop (mkF m 119 #[.val (.ref oa), .val (.ref ob), .val (.int (4 : Int32)), .val (.ref oc), .val (.ref b1), .val (.ref b18), .val (.int (2 : Int32)), .val (.int (4 : Int32)), .val (.int (Int32.ofNat nk3))] [(.int (pa 2)), (.int (((own_pre 4 nk0 nk1 nk2 nk3) nk2) + ((own_nx2 nk0 nk1 nk2 nk3) nk2))), (.ref oc)])) _
  obtain ⟨T30, h30, X30, e30, W30, A30, st30⟩ := stAI (fr := (mkF m 119 #[.val (.ref oa), .val (.ref ob), .val (.int (4 : Int32)), .val (.ref oc), .val (.ref b1), .val (.ref b18), .val (.int (2 : Int32)), .val (.int (4 : Int32)), .val (.int (Int32.ofNat nk3))] [(.int (pa 2)), (.int (((own_pre 4 nk0 nk1 nk2 nk3) nk2) + ((own_nx2 nk0 nk1 nk2 nk3) nk2))), (.ref oc)])) X29 hx hZ e29 A_oc (i := (own_rank2 nk0 nk1 nk2 nk3)) (own_pl4_2 ⟨nk0, hnk0⟩ ⟨nk1, hnk1⟩ ⟨nk2, hnk2⟩ ⟨nk3, hnk3⟩).1 (own_pl4_2 ⟨nk0, hnk0⟩ ⟨nk1, hnk1⟩ ⟨nk2, hnk2⟩ ⟨nk3, hnk3⟩).2 rfl rfl (hb hby d1_119)
  refine Goes.by st30 ?_
  have A_oc : AI Z h30 oc .int 4 (up (up (up (fun _ => (0 : Int32)) (own_rank0 nk0 nk1 nk2 nk3) (pa 0)) (own_rank1 nk0 nk1 nk2 nk3) (pa 1)) (own_rank2 nk0 nk1 nk2 nk3) (pa 2)) := A30
  have N30 := Fr.snoc X30 N29 g_oc
  have Zs30 : n0 ≤ h30.size := Nat.le_trans Zs29 (Keep.of_wr W30).1
  have K30 : Keep h0 h30 [oc] := K29.wr W30 (Or.inl (List.mem_of_getElem? (i := 0) rfl))
  have A_oa : AI Z h30 oa .int 4 pa := A_oa.other W30 ne_oa_oc
  have A_ob : AI Z h30 ob .int 4 (own_keys nk0 nk1 nk2 nk3) := A_ob.other W30 ne_ob_oc
  have A_b1 : AI Z h30 b1 .int 5 (own_pre 4 nk0 nk1 nk2 nk3) := A_b1.other W30 (Ne.symm ne_oc_b1)
  have A_b18 : AI Z h30 b18 .int 4 (own_nx3 nk0 nk1 nk2 nk3) := A_b18.other W30 (Ne.symm ne_oc_b18)
  show Goes p.tables e below (T30.setTop (mkF m 120 #[.val (.ref oa), .val (.ref ob), .val (.int (4 : Int32)), .val (.ref oc), .val (.ref b1), .val (.ref b18), .val (.int (2 : Int32)), .val (.int (4 : Int32)), .val (.int (Int32.ofNat nk3))] [])) _
  refine Goes.by (fun _ k => XS.iinc X30.here hx rfl (hb hby d1_120) rfl (l' := #[.val (.ref oa), .val (.ref ob), .val (.int (4 : Int32)), .val (.ref oc), .val (.ref b1), .val (.ref b18), .val (.int (3 : Int32)), .val (.int (4 : Int32)), .val (.int (Int32.ofNat nk3))]) rfl k) ?_
  show Goes p.tables e below (T30.setTop (mkF m 123 #[.val (.ref oa), .val (.ref ob), .val (.int (4 : Int32)), .val (.ref oc), .val (.ref b1), .val (.ref b18), .val (.int (3 : Int32)), .val (.int (4 : Int32)), .val (.int (Int32.ofNat nk3))] [])) _
  refine Goes.by (fun _ k => XS.goto X30.here hx rfl (pc0 := 123) (pc' := 87) rfl (hb hby d1_123) (by decide) (by decide) k) ?_
  show Goes p.tables e below (T30.setTop (mkF m 87 #[.val (.ref oa), .val (.ref ob), .val (.int (4 : Int32)), .val (.ref oc), .val (.ref b1), .val (.ref b18), .val (.int (3 : Int32)), .val (.int (4 : Int32)), .val (.int (Int32.ofNat nk3))] [])) _
  refine Goes.by (fun _ k => XS.iload X30.here hx rfl (hb hby d1_87) rfl k) ?_
  show Goes p.tables e below (T30.setTop (mkF m 89 #[.val (.ref oa), .val (.ref ob), .val (.int (4 : Int32)), .val (.ref oc), .val (.ref b1), .val (.ref b18), .val (.int (3 : Int32)), .val (.int (4 : Int32)), .val (.int (Int32.ofNat nk3))] [(.int (3 : Int32))])) _
  refine Goes.by (fun _ k => XS.aloadN X30.here hx rfl (hb hby d1_89) rfl rfl k) ?_
  show Goes p.tables e below (T30.setTop (mkF m 90 #[.val (.ref oa), .val (.ref ob), .val (.int (4 : Int32)), .val (.ref oc), .val (.ref b1), .val (.ref b18), .val (.int (3 : Int32)), .val (.int (4 : Int32)), .val (.int (Int32.ofNat nk3))] [(.ref oa), (.int (3 : Int32))])) _
  refine Goes.by (fun _ k => alen (z := (4 : Int32)) (fr := (mkF m 90 #[.val (.ref oa), .val (.ref ob), .val (.int (4 : Int32)), .val (.ref oc), .val (.ref b1), .val (.ref b18), .val (.int (3 : Int32)), .val (.int (4 : Int32)), .val (.int (Int32.ofNat nk3))] [(.ref oa), (.int (3 : Int32))])) X30 hx hZ e30 A_oa (by decide) rfl rfl (hb hby d1_90) k) ?_
  show Goes p.tables e below (T30.setTop (mkF m 91 #[.val (.ref oa), .val (.ref ob), .val (.int (4 : Int32)), .val (.ref oc), .val (.ref b1), .val (.ref b18), .val (.int (3 : Int32)), .val (.int (4 : Int32)), .val (.int (Int32.ofNat nk3))] [(.int (4 : Int32)), (.int (3 : Int32))])) _
  refine Goes.by (fun _ k => XS.icmpNo X30.here hx rfl (hb hby d1_91) rfl (tlt (by decide : (3 : Int32) < (4 : Int32))).2.1 k) ?_
  show Goes p.tables e below (T30.setTop (mkF m 94 #[.val (.ref oa), .val (.ref ob), .val (.int (4 : Int32)), .val (.ref oc), .val (.ref b1), .val (.ref b18), .val (.int (3 : Int32)), .val (.int (4 : Int32)), .val (.int (Int32.ofNat nk3))] [])) _
  refine Goes.by (fun _ k => XS.aloadN X30.here hx rfl (hb hby d1_94) rfl rfl k) ?_
  show Goes p.tables e below (T30.setTop (mkF m 95 #[.val (.ref oa), .val (.ref ob), .val (.int (4 : Int32)), .val (.ref oc), .val (.ref b1), .val (.ref b18), .val (.int (3 : Int32)), .val (.int (4 : Int32)), .val (.int (Int32.ofNat nk3))] [(.ref oc)])) _
  refine Goes.by (fun _ k => XS.aload X30.here hx rfl (hb hby d1_95) rfl rfl k) ?_
  show Goes p.tables e below (T30.setTop (mkF m 97 #[.val (.ref oa), .val (.ref ob), .val (.int (4 : Int32)), .val (.ref oc), .val (.ref b1), .val (.ref b18), .val (.int (3 : Int32)), .val (.int (4 : Int32)), .val (.int (Int32.ofNat nk3))] [(.ref b1), (.ref oc)])) _
  refine Goes.by (fun _ k => XS.aloadN X30.here hx rfl (hb hby d1_97) rfl rfl k) ?_
  show Goes p.tables e below (T30.setTop (mkF m 98 #[.val (.ref oa), .val (.ref ob), .val (.int (4 : Int32)), .val (.ref oc), .val (.ref b1), .val (.ref b18), .val (.int (3 : Int32)), .val (.int (4 : Int32)), .val (.int (Int32.ofNat nk3))] [(.ref ob), (.ref b1), (.ref oc)])) _
  refine Goes.by (fun _ k => XS.iload X30.here hx rfl (hb hby d1_98) rfl k) ?_
  show Goes p.tables e below (T30.setTop (mkF m 100 #[.val (.ref oa), .val (.ref ob), .val (.int (4 : Int32)), .val (.ref oc), .val (.ref b1), .val (.ref b18), .val (.int (3 : Int32)), .val (.int (4 : Int32)), .val (.int (Int32.ofNat nk3))] [(.int (3 : Int32)), (.ref ob), (.ref b1), (.ref oc)])) _
  refine Goes.by (fun _ k => ldI (v := (Int32.ofNat nk3)) (fr := (mkF m 100 #[.val (.ref oa), .val (.ref ob), .val (.int (4 : Int32)), .val (.ref oc), .val (.ref b1), .val (.ref b18), .val (.int (3 : Int32)), .val (.int (4 : Int32)), .val (.int (Int32.ofNat nk3))] [(.int (3 : Int32)), (.ref ob), (.ref b1), (.ref oc)])) X30 hx hZ e30 A_ob (i := 3) (by decide) (by decide) rfl rfl rfl (hb hby d1_100) k) ?_
  show Goes p.tables e below (T30.setTop (mkF m 101 #[.val (.ref oa), .val (.ref ob), .val (.int (4 : Int32)), .val (.ref oc), .val (.ref b1), .val (.ref b18), .val (.int (3 : Int32)), .val (.int (4 : Int32)), .val (.int (Int32.ofNat nk3))] [(.int (Int32.ofNat nk3)), (.ref b1), (.ref oc)])) _
  refine Goes.by (fun _ k => ldI (v := ((own_pre 4 nk0 nk1 nk2 nk3) nk3)) (fr := (mkF m 101 #[.val (.ref oa), .val (.ref ob), .val (.int (4 : Int32)), .val (.ref oc), .val (.ref b1), .val (.ref b18), .val (.int (3 : Int32)), .val (.int (4 : Int32)), .val (.int (Int32.ofNat nk3))] [(.int (Int32.ofNat nk3)), (.ref b1), (.ref oc)])) X30 hx hZ e30 A_b1 (i := nk3) (own_i0 nk3 (Nat.lt_trans hnk3 (by decide))) (Nat.lt_succ_of_lt hnk3) rfl rfl rfl (hb hby d1_101) k) ?_
  show Goes p.tables e below (T30.setTop (mkF m 102 #[.val (.ref oa), .val (.ref ob), .val (.int (4 : Int32)), .val (.ref oc), .val (.ref b1), .val (.ref b18), .val (.int (3 : Int32)), .val (.int (4 : Int32)), .val (.int (Int32.ofNat nk3))] [(.int ((own_pre 4 nk0 nk1 nk2 nk3) nk3)), (.ref oc)])) _
  refine Goes.by (fun _ k => XS.aload X30.here hx rfl (hb hby d1_102) rfl rfl k) ?_
  show Goes p.tables e below (T30.setTop (mkF m 104 #[.val (.ref oa), .val (.ref ob), .val (.int (4 : Int32)), .val (.ref oc), .val (.ref b1), .val (.ref b18), .val (.int (3 : Int32)), .val (.int (4 : Int32)), .val (.int (Int32.ofNat nk3))] [(.ref b18), (.int ((own_pre 4 nk0 nk1 nk2 nk3) nk3)), (.ref oc)])) _
  refine Goes.by (fun _ k => XS.aloadN X30.here hx rfl (hb hby d1_104) rfl rfl k) ?_
  show Goes p.tables e below (T30.setTop (mkF m 105 #[.val (.ref oa), .val (.ref ob), .val (.int (4 : Int32)), .val (.ref oc), .val (.ref b1), .val (.ref b18), .val (.int (3 : Int32)), .val (.int (4 : Int32)), .val (.int (Int32.ofNat nk3))] [(.ref ob), (.ref b18), (.int ((own_pre 4 nk0 nk1 nk2 nk3) nk3)), (.ref oc)])) _
  refine Goes.by (fun _ k => XS.iload X30.here hx rfl (hb hby d1_105) rfl k) ?_
  show Goes p.tables e below (T30.setTop (mkF m 107 #[.val (.ref oa), .val (.ref ob), .val (.int (4 : Int32)), .val (.ref oc), .val (.ref b1), .val (.ref b18), .val (.int (3 : Int32)), .val (.int (4 : Int32)), .val (.int (Int32.ofNat nk3))] [(.int (3 : Int32)), (.ref ob), (.ref b18), (.int ((own_pre 4 nk0 nk1 nk2 nk3) nk3)), (.ref oc)])) _
  refine Goes.by (fun _ k => ldI (v := (Int32.ofNat nk3)) (fr := (mkF m 107 #[.val (.ref oa), .val (.ref ob), .val (.int (4 : Int32)), .val (.ref oc), .val (.ref b1), .val (.ref b18), .val (.int (3 : Int32)), .val (.int (4 : Int32)), .val (.int (Int32.ofNat nk3))] [(.int (3 : Int32)), (.ref ob), (.ref b18), (.int ((own_pre 4 nk0 nk1 nk2 nk3) nk3)), (.ref oc)])) X30 hx hZ e30 A_ob (i := 3) (by decide) (by decide) rfl rfl rfl (hb hby d1_107) k) ?_
  show Goes p.tables e below (T30.setTop (mkF m 108 #[.val (.ref oa), .val (.ref ob), .val (.int (4 : Int32)), .val (.ref oc), .val (.ref b1), .val (.ref b18), .val (.int (3 : Int32)), .val (.int (4 : Int32)), .val (.int (Int32.ofNat nk3))] [(.int (Int32.ofNat nk3)), (.ref b18), (.int ((own_pre 4 nk0 nk1 nk2 nk3) nk3)), (.ref oc)])) _
  have sd31 : ∀ u, Steps p.tables e below (T30.setTop (mkF m 109 #[.val (.ref oa), .val (.ref ob), .val (.int (4 : Int32)), .val (.ref oc), .val (.ref b1), .val (.ref b18), .val (.int (3 : Int32)), .val (.int (4 : Int32)), .val (.int (Int32.ofNat nk3))] [(.int (Int32.ofNat nk3)), (.ref b18), (.int (Int32.ofNat nk3)), (.ref b18), (.int ((own_pre 4 nk0 nk1 nk2 nk3) nk3)), (.ref oc)])) u → Steps p.tables e below (T30.setTop (mkF m 108 #[.val (.ref oa), .val (.ref ob), .val (.int (4 : Int32)), .val (.ref oc), .val (.ref b1), .val (.ref b18), .val (.int (3 : Int32)), .val (.int (4 : Int32)), .val (.int (Int32.ofNat nk3))] [(.int (Int32.ofNat nk3)), (.ref b18), (.int ((own_pre 4 nk0 nk1 nk2 nk3) nk3)), (.ref oc)])) u := by
    intro u k
    jvm_step X30.here [X30.here.top, hx, (hb hby d1_108), Value.category]
    exact k
  refine Goes.by (fun _ k => sd31 _ k) ?_
  show Goes p.tables e below (T30.setTop (mkF m 109 #[.val (.ref oa), .val (.ref ob), .val (.int (4 : Int32)), .val (.ref oc), .val (.ref b1), .val (.ref b18), .val (.int (3 : Int32)), .val (.int (4 : Int32)), .val (.int (Int32.ofNat nk3))] [(.int (Int32.ofNat nk3)), (.ref b18), (.int (Int32.ofNat nk3)), (.ref b18), (.int ((own_pre 4 nk0 nk1 nk2 nk3) nk3)), (.ref oc)])) _
  refine Goes.by (fun _ k => ldI (v := ((own_nx3 nk0 nk1 nk2 nk3) nk3)) (fr := (mkF m 109 #[.val (.ref oa), .val (.ref ob), .val (.int (4 : Int32)), .val (.ref oc), .val (.ref b1), .val (.ref b18), .val (.int (3 : Int32)), .val (.int (4 : Int32)), .val (.int (Int32.ofNat nk3))] [(.int (Int32.ofNat nk3)), (.ref b18), (.int (Int32.ofNat nk3)), (.ref b18), (.int ((own_pre 4 nk0 nk1 nk2 nk3) nk3)), (.ref oc)])) X30 hx hZ e30 A_b18 (i := nk3) (own_i0 nk3 (Nat.lt_trans hnk3 (by decide))) hnk3 rfl rfl rfl (hb hby d1_109) k) ?_
  show Goes p.tables e below (T30.setTop (mkF m 110 #[.val (.ref oa), .val (.ref ob), .val (.int (4 : Int32)), .val (.ref oc), .val (.ref b1), .val (.ref b18), .val (.int (3 : Int32)), .val (.int (4 : Int32)), .val (.int (Int32.ofNat nk3))] [(.int ((own_nx3 nk0 nk1 nk2 nk3) nk3)), (.int (Int32.ofNat nk3)), (.ref b18), (.int ((own_pre 4 nk0 nk1 nk2 nk3) nk3)), (.ref oc)])) _
  have sd32 : ∀ u, Steps p.tables e below (T30.setTop (mkF m 111 #[.val (.ref oa), .val (.ref ob), .val (.int (4 : Int32)), .val (.ref oc), .val (.ref b1), .val (.ref b18), .val (.int (3 : Int32)), .val (.int (4 : Int32)), .val (.int (Int32.ofNat nk3))] [(.int ((own_nx3 nk0 nk1 nk2 nk3) nk3)), (.int (Int32.ofNat nk3)), (.ref b18), (.int ((own_nx3 nk0 nk1 nk2 nk3) nk3)), (.int ((own_pre 4 nk0 nk1 nk2 nk3) nk3)), (.ref oc)])) u → Steps p.tables e below (T30.setTop (mkF m 110 #[.val (.ref oa), .val (.ref ob), .val (.int (4 : Int32)), .val (.ref oc), .val (.ref b1), .val (.ref b18), .val (.int (3 : Int32)), .val (.int (4 : Int32)), .val (.int (Int32.ofNat nk3))] [(.int ((own_nx3 nk0 nk1 nk2 nk3) nk3)), (.int (Int32.ofNat nk3)), (.ref b18), (.int ((own_pre 4 nk0 nk1 nk2 nk3) nk3)), (.ref oc)])) u := by
    intro u k
    jvm_step X30.here [X30.here.top, hx, (hb hby d1_110), Value.category]
    exact k
  refine Goes.by (fun _ k => sd32 _ k) ?_
  show Goes p.tables e below (T30.setTop (mkF m 111 #[.val (.ref oa), .val (.ref ob), .val (.int (4 : Int32)), .val (.ref oc), .val (.ref b1), .val (.ref b18), .val (.int (3 : Int32)), .val (.int (4 : Int32)), .val (.int (Int32.ofNat nk3))] [(.int ((own_nx3 nk0 nk1 nk2 nk3) nk3)), (.int (Int32.ofNat nk3)), (.ref b18), (.int ((own_nx3 nk0 nk1 nk2 nk3) nk3)), (.int ((own_pre 4 nk0 nk1 nk2 nk3) nk3)), (.ref oc)])) _
  refine Goes.by (fun _ k => XS.iconst X30.here hx rfl (hb hby d1_111) k) ?_
  show Goes p.tables e below (T30.setTop (mkF m 112 #[.val (.ref oa), .val (.ref ob), .val (.int (4 : Int32)), .val (.ref oc), .val (.ref b1), .val (.ref b18), .val (.int (3 : Int32)), .val (.int (4 : Int32)), .val (.int (Int32.ofNat nk3))] [(.int (1 : Int32)), (.int ((own_nx3 nk0 nk1 nk2 nk3) nk3)), (.int (Int32.ofNat nk3)), (.ref b18), (.int ((own_nx3 nk0 nk1 nk2 nk3) nk3)), (.int ((own_pre 4 nk0 nk1 nk2 nk3) nk3)), (.ref oc)])) _
  refine Goes.by (fun _ k => XS.iadd X30.here hx rfl (hb hby d1_112) rfl k) ?_
  show Goes p.tables e below (T30.setTop (mkF m 113 #[.val (.ref oa), .val (.ref ob), .val (.int (4 : Int32)), .val (.ref oc), .val (.ref b1), .val (.ref b18), .val (.int (3 : Int32)), .val (.int (4 : Int32)), .val (.int (Int32.ofNat nk3))] [(.int (((own_nx3 nk0 nk1 nk2 nk3) nk3) + (1 : Int32))), (.int (Int32.ofNat nk3)), (.ref b18), (.int ((own_nx3 nk0 nk1 nk2 nk3) nk3)), (.int ((own_pre 4 nk0 nk1 nk2 nk3) nk3)), (.ref oc)])) _
  obtain ⟨T33, h33, X33, e33, W33, A33, st33⟩ := stAI (fr := (mkF m 113 #[.val (.ref oa), .val (.ref ob), .val (.int (4 : Int32)), .val (.ref oc), .val (.ref b1), .val (.ref b18), .val (.int (3 : Int32)), .val (.int (4 : Int32)), .val (.int (Int32.ofNat nk3))] [(.int (((own_nx3 nk0 nk1 nk2 nk3) nk3) + (1 : Int32))), (.int (Int32.ofNat nk3)), (.ref b18), (.int ((own_nx3 nk0 nk1 nk2 nk3) nk3)), (.int ((own_pre 4 nk0 nk1 nk2 nk3) nk3)), (.ref oc)])) X30 hx hZ e30 A_b18 (i := nk3) (own_i0 nk3 (Nat.lt_trans hnk3 (by decide))) hnk3 rfl rfl (hb hby d1_113)
  refine Goes.by st33 ?_
  have A_b18 : AI Z h33 b18 .int 4 (own_nx4 nk0 nk1 nk2 nk3) := A33.congr (fun j hj => own_g4_4 ⟨nk0, hnk0⟩ ⟨nk1, hnk1⟩ ⟨nk2, hnk2⟩ ⟨nk3, hnk3⟩ ⟨j, hj⟩)
  have N33 := Fr.snoc X33 N30 g_b18
  have Zs33 : n0 ≤ h33.size := Nat.le_trans Zs30 (Keep.of_wr W33).1
  have K33 : Keep h0 h33 [oc] := K30.wr W33 (Or.inr sz_b18)
  have A_oa : AI Z h33 oa .int 4 pa := A_oa.other W33 ne_oa_b18
  have A_ob : AI Z h33 ob .int 4 (own_keys nk0 nk1 nk2 nk3) := A_ob.other W33 ne_ob_b18
  have A_oc : AI Z h33 oc .int 4 (up (up (up (fun _ => (0 : Int32)) (own_rank0 nk0 nk1 nk2 nk3) (pa 0)) (own_rank1 nk0 nk1 nk2 nk3) (pa 1)) (own_rank2 nk0 nk1 nk2 nk3) (pa 2)) := A_oc.other W33 ne_oc_b18
  have A_b1 : AI Z h33 b1 .int 5 (own_pre 4 nk0 nk1 nk2 nk3) := A_b1.other W33 ne_b1_b18
  show Goes p.tables e below (T33.setTop (mkF m 114 #[.val (.ref oa), .val (.ref ob), .val (.int (4 : Int32)), .val (.ref oc), .val (.ref b1), .val (.ref b18), .val (.int (3 : Int32)), .val (.int (4 : Int32)), .val (.int (Int32.ofNat nk3))] [(.int ((own_nx3 nk0 nk1 nk2 nk3) nk3)), (.int ((own_pre 4 nk0 nk1 nk2 nk3) nk3)), (.ref oc)])) _
  refine Goes.by (fun _ k => XS.iadd X33.here hx rfl (hb hby d1_114) rfl k) ?_
  show Goes p.tables e below (T33.setTop (mkF m 115 #[.val (.ref oa), .val (.ref ob), .val (.int (4 : Int32)), .val (.ref oc), .val (.ref b1), .val (.ref b18), .val (.int (3 : Int32)), .val (.int (4 : Int32)), .val (.int (Int32.ofNat nk3))] [(.int (((own_pre 4 nk0 nk1 nk2 nk3) nk3) + ((own_nx3 nk0 nk1 nk2 nk3) nk3))), (.ref oc)])) _
  refine Goes.by (fun _ k => XS.aloadN X33.here hx rfl (hb hby d1_115) rfl rfl k) ?_
  show Goes p.tables e below (T33.setTop (mkF m 116 #[.val (.ref oa), .val (.ref ob), .val (.int (4 : Int32)), .val (.ref oc), .val (.ref b1), .val (.ref b18), .val (.int (3 : Int32)), .val (.int (4 : Int32)), .val (.int (Int32.ofNat nk3))] [(.ref oa), (.int (((own_pre 4 nk0 nk1 nk2 nk3) nk3) + ((own_nx3 nk0 nk1 nk2 nk3) nk3))), (.ref oc)])) _
  refine Goes.by (fun _ k => XS.iload X33.here hx rfl (hb hby d1_116) rfl k) ?_
  show Goes p.tables e below (T33.setTop (mkF m 118 #[.val (.ref oa), .val (.ref ob), .val (.int (4 : Int32)), .val (.ref oc), .val (.ref b1), .val (.ref b18), .val (.int (3 : Int32)), .val (.int (4 : Int32)), .val (.int (Int32.ofNat nk3))] [(.int (3 : Int32)), (.ref oa), (.int (((own_pre 4 nk0 nk1 nk2 nk3) nk3) + ((own_nx3 nk0 nk1 nk2 nk3) nk3))), (.ref oc)])) _
  refine Goes.by (fun _ k => ldI (v := (pa 3)) (fr := (mkF m 118 #[.val (.ref oa), .val (.ref ob), .val (.int (4 : Int32)), .val (.ref oc), .val (.ref b1), .val (.ref b18), .val (.int (3 : Int32)), .val (.int (4 : Int32)), .val (.int (Int32.ofNat nk3))] [(.int (3 : Int32)), (.ref oa), (.int (((own_pre 4 nk0 nk1 nk2 nk3) nk3) + ((own_nx3 nk0 nk1 nk2 nk3) nk3))), (.ref oc)])) X33 hx hZ e33 A_oa (i := 3) (by decide) (by decide) rfl rfl rfl (hb hby d1_118) k) ?_
  show Goes p.tables e below (T33.setTop (mkF m 119 #[.val (.ref oa), .val (.ref ob), .val (.int (4 : Int32)), .val (.ref oc), .val (.ref b1), .val (.ref b18), .val (.int (3 : Int32)), .val (.int (4 : Int32)), .val (.int (Int32.ofNat nk3))] [(.int (pa 3)), (.int (((own_pre 4 nk0 nk1 nk2 nk3) nk3) + ((own_nx3 nk0 nk1 nk2 nk3) nk3))), (.ref oc)])) _
  obtain ⟨T34, h34, X34, e34, W34, A34, st34⟩ := stAI (fr := (mkF m 119 #[.val (.ref oa), .val (.ref ob), .val (.int (4 : Int32)), .val (.ref oc), .val (.ref b1), .val (.ref b18), .val (.int (3 : Int32)), .val (.int (4 : Int32)), .val (.int (Int32.ofNat nk3))] [(.int (pa 3)), (.int (((own_pre 4 nk0 nk1 nk2 nk3) nk3) + ((own_nx3 nk0 nk1 nk2 nk3) nk3))), (.ref oc)])) X33 hx hZ e33 A_oc (i := (own_rank3 nk0 nk1 nk2 nk3)) (own_pl4_3 ⟨nk0, hnk0⟩ ⟨nk1, hnk1⟩ ⟨nk2, hnk2⟩ ⟨nk3, hnk3⟩).1 (own_pl4_3 ⟨nk0, hnk0⟩ ⟨nk1, hnk1⟩ ⟨nk2, hnk2⟩ ⟨nk3, hnk3⟩).2 rfl rfl (hb hby d1_119)
  refine Goes.by st34 ?_
  have A_oc : AI Z h34 oc .int 4 (up (up (up (up (fun _ => (0 : Int32)) (own_rank0 nk0 nk1 nk2 nk3) (pa 0)) (own_rank1 nk0 nk1 nk2 nk3) (pa 1)) (own_rank2 nk0 nk1 nk2 nk3) (pa 2)) (own_rank3 nk0 nk1 nk2 nk3) (pa 3)) := A34
  have N34 := Fr.snoc X34 N33 g_oc
  have Zs34 : n0 ≤ h34.size := Nat.le_trans Zs33 (Keep.of_wr W34).1
  have K34 : Keep h0 h34 [oc] := K33.wr W34 (Or.inl (List.mem_of_getElem? (i := 0) rfl))
  have A_oa : AI Z h34 oa .int 4 pa := A_oa.other W34 ne_oa_oc
  have A_ob : AI Z h34 ob .int 4 (own_keys nk0 nk1 nk2 nk3) := A_ob.other W34 ne_ob_oc
  have A_b1 : AI Z h34 b1 .int 5 (own_pre 4 nk0 nk1 nk2 nk3) := A_b1.other W34 (Ne.symm ne_oc_b1)
  have A_b18 : AI Z h34 b18 .int 4 (own_nx4 nk0 nk1 nk2 nk3) := A_b18.other W34 (Ne.symm ne_oc_b18)
  show Goes p.tables e below (T34.setTop (mkF m 120 #[.val (.ref oa), .val (.ref ob), .val (.int (4 : Int32)), .val (.ref oc), .val (.ref b1), .val (.ref b18), .val (.int (3 : Int32)), .val (.int (4 : Int32)), .val (.int (Int32.ofNat nk3))] [])) _
  refine Goes.by (fun _ k => XS.iinc X34.here hx rfl (hb hby d1_120) rfl (l' := #[.val (.ref oa), .val (.ref ob), .val (.int (4 : Int32)), .val (.ref oc), .val (.ref b1), .val (.ref b18), .val (.int (4 : Int32)), .val (.int (4 : Int32)), .val (.int (Int32.ofNat nk3))]) rfl k) ?_
  show Goes p.tables e below (T34.setTop (mkF m 123 #[.val (.ref oa), .val (.ref ob), .val (.int (4 : Int32)), .val (.ref oc), .val (.ref b1), .val (.ref b18), .val (.int (4 : Int32)), .val (.int (4 : Int32)), .val (.int (Int32.ofNat nk3))] [])) _
  refine Goes.by (fun _ k => XS.goto X34.here hx rfl (pc0 := 123) (pc' := 87) rfl (hb hby d1_123) (by decide) (by decide) k) ?_
  show Goes p.tables e below (T34.setTop (mkF m 87 #[.val (.ref oa), .val (.ref ob), .val (.int (4 : Int32)), .val (.ref oc), .val (.ref b1), .val (.ref b18), .val (.int (4 : Int32)), .val (.int (4 : Int32)), .val (.int (Int32.ofNat nk3))] [])) _
  refine Goes.by (fun _ k => XS.iload X34.here hx rfl (hb hby d1_87) rfl k) ?_
  show Goes p.tables e below (T34.setTop (mkF m 89 #[.val (.ref oa), .val (.ref ob), .val (.int (4 : Int32)), .val (.ref oc), .val (.ref b1), .val (.ref b18), .val (.int (4 : Int32)), .val (.int (4 : Int32)), .val (.int (Int32.ofNat nk3))] [(.int (4 : Int32))])) _
  refine Goes.by (fun _ k => XS.aloadN X34.here hx rfl (hb hby d1_89) rfl rfl k) ?_
  show Goes p.tables e below (T34.setTop (mkF m 90 #[.val (.ref oa), .val (.ref ob), .val (.int (4 : Int32)), .val (.ref oc), .val (.ref b1), .val (.ref b18), .val (.int (4 : Int32)), .val (.int (4 : Int32)), .val (.int (Int32.ofNat nk3))] [(.ref oa), (.int (4 : Int32))])) _
  refine Goes.by (fun _ k => alen (z := (4 : Int32)) (fr := (mkF m 90 #[.val (.ref oa), .val (.ref ob), .val (.int (4 : Int32)), .val (.ref oc), .val (.ref b1), .val (.ref b18), .val (.int (4 : Int32)), .val (.int (4 : Int32)), .val (.int (Int32.ofNat nk3))] [(.ref oa), (.int (4 : Int32))])) X34 hx hZ e34 A_oa (by decide) rfl rfl (hb hby d1_90) k) ?_
  show Goes p.tables e below (T34.setTop (mkF m 91 #[.val (.ref oa), .val (.ref ob), .val (.int (4 : Int32)), .val (.ref oc), .val (.ref b1), .val (.ref b18), .val (.int (4 : Int32)), .val (.int (4 : Int32)), .val (.int (Int32.ofNat nk3))] [(.int (4 : Int32)), (.int (4 : Int32))])) _
  refine Goes.by (fun _ k => XS.icmpYes X34.here hx rfl (pc0 := 91) (pc' := 126) rfl (hb hby d1_91) rfl (flt (by decide : ¬ ((4 : Int32) < (4 : Int32)))).2.1 (by decide) (by decide) k) ?_
  show Goes p.tables e below (T34.setTop (mkF m 126 #[.val (.ref oa), .val (.ref ob), .val (.int (4 : Int32)), .val (.ref oc), .val (.ref b1), .val (.ref b18), .val (.int (4 : Int32)), .val (.int (4 : Int32)), .val (.int (Int32.ofNat nk3))] [])) _
  refine Goes.by (fun _ k => XS.aload X34.here hx rfl (hb hby d1_126) rfl rfl k) ?_
  show Goes p.tables e below (T34.setTop (mkF m 128 #[.val (.ref oa), .val (.ref ob), .val (.int (4 : Int32)), .val (.ref oc), .val (.ref b1), .val (.ref b18), .val (.int (4 : Int32)), .val (.int (4 : Int32)), .val (.int (Int32.ofNat nk3))] [(.ref b1)])) _
  obtain ⟨fs, hr, hrun, hended, hW, hsame⟩ := X34.leave (v := some (.ref b1)) (fun h => by rw [Bd.returns] at h; cases h)
  refine ⟨_, _, retOut X34 hx Bd.returns (i := .areturn) (narR rfl) (Or.inr (Or.inr (Or.inr (Or.inr ⟨rfl, rfl, rfl⟩)))) (hb hby d1_128) hr, hrun, hended, _, _, rfl, ?_, ⟨_, rfl⟩, hW, hsame.mono (by decide) (by decide)⟩
  show Q1k4 Z oa ob oc pa nk0 nk1 nk2 nk3 h0 n0 _ T34.heap _
  rw [e34]
  exact ⟨b1, rfl, N34, K34, A_b1, A_oc, sz_b1⟩
def Q1w (Z : State) (oa : Addr) (ob : Addr) (pk : Int32) (oc : Addr) (pa : Nat → Int32) (nk0 nk1 nk2 nk3 : Nat) (nK : Nat) (h0 : Heap) (n0 : Nat) (v : Option Value) (h : Heap) (L : List Loc) : Prop := ∃ oz : Addr, v = some (.ref oz) ∧ Fr n0 L ∧ Keep h0 h [oc] ∧ AI Z h oz .int (nK + 1) (own_pre nK nk0 nk1 nk2 nk3) ∧ AI Z h oc .int 4 (up (up (up (up (fun _ => (0 : Int32)) (own_rank0 nk0 nk1 nk2 nk3) (pa 0)) (own_rank1 nk0 nk1 nk2 nk3) (pa 1)) (own_rank2 nk0 nk1 nk2 nk3) (pa 2)) (own_rank3 nk0 nk1 nk2 nk3) (pa 3)) ∧ (h0.size ≤ oz)
set_option maxRecDepth 65536 in
set_option maxHeartbeats 40000000 in
theorem rm1w (l : Launch) (Z : State) (a0 : Array Value) (hw : ∀ d ∈ tables_1, d.before a0 Z = true) (ws : List Jvm.Cond) (oa : Addr) (ob : Addr) (pk : Int32) (oc : Addr) (pa : Nat → Int32) (nk0 nk1 nk2 nk3 : Nat) (nK : Nat) (h0 : Heap) (n0 : Nat) (Z0 : n0 ≤ h0.size) (A_oa : AI Z h0 oa .int 4 pa) (A_ob : AI Z h0 ob .int 4 (own_keys nk0 nk1 nk2 nk3)) (A_oc : AI Z h0 oc .int 4 (fun _ => (0 : Int32))) (ne_oa_oc : oa ≠ oc) (ne_ob_oc : ob ≠ oc) (g_oc : n0 ≤ oc) (hnk0 : nk0 < nK) (hnk1 : nk1 < nK) (hnk2 : nk2 < nK) (hnk3 : nk3 < nK) (hK : nK = 1 ∨ nK = 2 ∨ nK = 3 ∨ nK = 4) (hpk : pk = Int32.ofNat nK) :
    MetFree l (⟨"com/example/xml_graph_join/xmlgraphjoin/graph/CountingSort", "sort", "([I[II[I)[I"⟩ : MethodName) (head1 (Jvm.Cond.code (⟨"com/example/xml_graph_join/xmlgraphjoin/graph/CountingSort", "sort", "([I[II[I)[I"⟩ : MethodName) prog_49_method_2_code 9 (some (.array .int)) :: ws) ({ frames := 0, cells := 2, slots := 9, locals := 0 } : Room)) (fun a U => a = #[(.ref oa), (.ref ob), (.int pk), (.ref oc)] ∧ Z.Warmed39 U.vm ∧ U.heap = h0) (fun _ _ _ _ _ => True) (fun _ U o U' => ∃ v L, o = .returned v ∧ Q1w Z oa ob pk oc pa nk0 nk1 nk2 nk3 nK h0 n0 v U'.heap L ∧ FrameEnd U o U' L ({ frames := 0, cells := 2, slots := 9, locals := 0 } : Room).cells ({ frames := 0, cells := 2, slots := 9, locals := 0 } : Room).slots) := by
  subst hpk
  rcases hK with rfl | rfl | rfl | rfl
  · exact rm1k1 l Z a0 hw ws oa ob oc pa nk0 nk1 nk2 nk3 h0 n0 Z0 A_oa A_ob A_oc ne_oa_oc ne_ob_oc g_oc hnk0 hnk1 hnk2 hnk3
  · exact rm1k2 l Z a0 hw ws oa ob oc pa nk0 nk1 nk2 nk3 h0 n0 Z0 A_oa A_ob A_oc ne_oa_oc ne_ob_oc g_oc hnk0 hnk1 hnk2 hnk3
  · exact rm1k3 l Z a0 hw ws oa ob oc pa nk0 nk1 nk2 nk3 h0 n0 Z0 A_oa A_ob A_oc ne_oa_oc ne_ob_oc g_oc hnk0 hnk1 hnk2 hnk3
  · exact rm1k4 l Z a0 hw ws oa ob oc pa nk0 nk1 nk2 nk3 h0 n0 Z0 A_oa A_ob A_oc ne_oa_oc ne_ob_oc g_oc hnk0 hnk1 hnk2 hnk3
theorem d4_0 : decode method_2_code 0 = .ok (.iload_n 0, 1) := by decide +kernel
theorem d4_1 : decode method_2_code 1 = .ok (.iload_n 1, 1) := by decide +kernel
theorem d4_2 : decode method_2_code 2 = .ok (.if_icmp .ge 7, 3) := by decide +kernel
theorem d4_5 : decode method_2_code 5 = .ok (.iconst 1, 1) := by decide +kernel
theorem d4_6 : decode method_2_code 6 = .ok (.goto 4, 3) := by decide +kernel
theorem d4_10 : decode method_2_code 10 = .ok (.ireturn, 1) := by decide +kernel
theorem d4_9 : decode method_2_code 9 = .ok (.iconst 0, 1) := by decide +kernel
def fn4 (pa : Int32) (pb : Int32) : Int32 := (if pa < pb then (1 : Int32) else (0 : Int32))
theorem pn_1 : plainName "com/example/xml_graph_join/xmlgraphjoin/graph/CountingSortSortPinLaw" = true := by first | (simp [plainName, overriddenIn]; done) | decide +kernel
theorem ef4 (m : MethodId) (pa : Int32) (pb : Int32) : entryFrame m #[(.int pa), (.int pb)] 2 = mkF m 0 #[.val (.int pa), .val (.int pb)] [] := by first | (simp [entryFrame, mkF, argsToLocals, Value.category]; done) | rfl
def Q4 (Z : State) (pa : Int32) (pb : Int32) (h0 : Heap) (n0 : Nat) (v : Option Value) (h : Heap) (L : List Loc) : Prop := v = some (.int (fn4 pa pb)) ∧ Fr n0 L ∧ h = h0
set_option maxRecDepth 65536 in
set_option maxHeartbeats 40000000 in
theorem rm4 (l : Launch) (Z : State) (a0 : Array Value) (hw : ∀ d ∈ tables_1, d.before a0 Z = true) (ws : List Jvm.Cond) (pa : Int32) (pb : Int32) (h0 : Heap) (n0 : Nat) (Z0 : n0 ≤ h0.size) :
    MetFree l (⟨"com/example/xml_graph_join/xmlgraphjoin/graph/CountingSortSortPinLaw", "lt", "(II)I"⟩ : MethodName) (head1 (Jvm.Cond.code (⟨"com/example/xml_graph_join/xmlgraphjoin/graph/CountingSortSortPinLaw", "lt", "(II)I"⟩ : MethodName) method_2_code 2 (some .int) :: ws) ({ frames := 0, cells := 0, slots := 0, locals := 0 } : Room)) (fun a U => a = #[(.int pa), (.int pb)] ∧ Z.Warmed39 U.vm ∧ U.heap = h0) (fun _ _ _ _ _ => True) (fun _ U o U' => ∃ v L, o = .returned v ∧ Q4 Z pa pb h0 n0 v U'.heap L ∧ FrameEnd U o U' L ({ frames := 0, cells := 0, slots := 0, locals := 0 } : Room).cells ({ frames := 0, cells := 0, slots := 0, locals := 0 } : Room).slots) := by
  refine MetFree.of_bodySF (plainFor_of_name pn_1) hisR ?_
  intro p e s m args below meth c s₁ Bd hml0 hP hK
  obtain ⟨rfl, hZ, hh⟩ := hP
  have hx := Bd.exec
  have hby := Bd.bytes
  have hml : c.maxLocals = 2 := hml0
  have hown : s.vm.findClass "com/example/xml_graph_join/xmlgraphjoin/graph/CountingSortSortPinLaw" = some m.cls := findClass_of_methodNamed Bd.named
  have hnm := (name_of_methodNamed Bd.named Bd.method).1
  have X0 : Stand p l e ({ frames := 0, cells := 0, slots := 0, locals := 0 } : Room) s m #[(.int pa), (.int pb)] below meth c s₁ [] 0 0 := Stand.of_body Bd
  have e0 : s₁.heap = h0 := by rw [← hh, Bd.state]; rfl
  have N0 := Fr.nil n0
  refine Goes.by (fun _ k => castTop (ef4 m pa pb) k) ?_
  show Goes p.tables e below (s₁.setTop (mkF m 0 #[.val (.int pa), .val (.int pb)] [])) _
  refine Goes.by (fun _ k => XS.iloadN X0.here hx rfl (hb hby d4_0) rfl k) ?_
  show Goes p.tables e below (s₁.setTop (mkF m 1 #[.val (.int pa), .val (.int pb)] [(.int pa)])) _
  refine Goes.by (fun _ k => XS.iloadN X0.here hx rfl (hb hby d4_1) rfl k) ?_
  show Goes p.tables e below (s₁.setTop (mkF m 2 #[.val (.int pa), .val (.int pb)] [(.int pb), (.int pa)])) _
  by_cases hc1 : pa < pb
  · refine Goes.by (fun _ k => XS.icmpNo X0.here hx rfl (hb hby d4_2) rfl (tlt hc1).2.1 k) ?_
    show Goes p.tables e below (s₁.setTop (mkF m 5 #[.val (.int pa), .val (.int pb)] [])) _
    refine Goes.by (fun _ k => XS.iconst X0.here hx rfl (hb hby d4_5) k) ?_
    show Goes p.tables e below (s₁.setTop (mkF m 6 #[.val (.int pa), .val (.int pb)] [(.int (1 : Int32))])) _
    refine Goes.by (fun _ k => XS.goto X0.here hx rfl (pc0 := 6) (pc' := 10) rfl (hb hby d4_6) (by decide) (by decide) k) ?_
    show Goes p.tables e below (s₁.setTop (mkF m 10 #[.val (.int pa), .val (.int pb)] [(.int (1 : Int32))])) _
    obtain ⟨fs, hr, hrun, hended, hW, hsame⟩ := X0.leave (v := some (.int (1 : Int32))) (fun h => by rw [Bd.returns] at h; cases h)
    refine ⟨_, _, retI X0 hx Bd.returns (hb hby d4_10) hr, hrun, hended, _, _, rfl, ?_, ⟨_, rfl⟩, hW, hsame.mono (by decide) (by decide)⟩
    show Q4 Z pa pb h0 n0 _ s₁.heap _
    rw [e0]
    exact ⟨(by rw [fn4, if_pos hc1]), N0, rfl⟩
  · refine Goes.by (fun _ k => XS.icmpYes X0.here hx rfl (pc0 := 2) (pc' := 9) rfl (hb hby d4_2) rfl (flt hc1).2.1 (by decide) (by decide) k) ?_
    show Goes p.tables e below (s₁.setTop (mkF m 9 #[.val (.int pa), .val (.int pb)] [])) _
    refine Goes.by (fun _ k => XS.iconst X0.here hx rfl (hb hby d4_9) k) ?_
    show Goes p.tables e below (s₁.setTop (mkF m 10 #[.val (.int pa), .val (.int pb)] [(.int (0 : Int32))])) _
    obtain ⟨fs, hr, hrun, hended, hW, hsame⟩ := X0.leave (v := some (.int (0 : Int32))) (fun h => by rw [Bd.returns] at h; cases h)
    refine ⟨_, _, retI X0 hx Bd.returns (hb hby d4_10) hr, hrun, hended, _, _, rfl, ?_, ⟨_, rfl⟩, hW, hsame.mono (by decide) (by decide)⟩
    show Q4 Z pa pb h0 n0 _ s₁.heap _
    rw [e0]
    exact ⟨(by rw [fn4, if_neg hc1]), N0, rfl⟩
theorem d5_0 : decode method_3_code 0 = .ok (.iload_n 0, 1) := by decide +kernel
theorem d5_1 : decode method_3_code 1 = .ok (.iload_n 1, 1) := by decide +kernel
theorem d5_2 : decode method_3_code 2 = .ok (.if_icmp .ne 7, 3) := by decide +kernel
theorem d5_5 : decode method_3_code 5 = .ok (.iconst 1, 1) := by decide +kernel
theorem d5_6 : decode method_3_code 6 = .ok (.goto 4, 3) := by decide +kernel
theorem d5_10 : decode method_3_code 10 = .ok (.ireturn, 1) := by decide +kernel
theorem d5_9 : decode method_3_code 9 = .ok (.iconst 0, 1) := by decide +kernel
def fn5 (pa : Int32) (pb : Int32) : Int32 := (if pa = pb then (1 : Int32) else (0 : Int32))
theorem ef5 (m : MethodId) (pa : Int32) (pb : Int32) : entryFrame m #[(.int pa), (.int pb)] 2 = mkF m 0 #[.val (.int pa), .val (.int pb)] [] := by first | (simp [entryFrame, mkF, argsToLocals, Value.category]; done) | rfl
def Q5 (Z : State) (pa : Int32) (pb : Int32) (h0 : Heap) (n0 : Nat) (v : Option Value) (h : Heap) (L : List Loc) : Prop := v = some (.int (fn5 pa pb)) ∧ Fr n0 L ∧ h = h0
set_option maxRecDepth 65536 in
set_option maxHeartbeats 40000000 in
theorem rm5 (l : Launch) (Z : State) (a0 : Array Value) (hw : ∀ d ∈ tables_1, d.before a0 Z = true) (ws : List Jvm.Cond) (pa : Int32) (pb : Int32) (h0 : Heap) (n0 : Nat) (Z0 : n0 ≤ h0.size) :
    MetFree l (⟨"com/example/xml_graph_join/xmlgraphjoin/graph/CountingSortSortPinLaw", "eq", "(II)I"⟩ : MethodName) (head1 (Jvm.Cond.code (⟨"com/example/xml_graph_join/xmlgraphjoin/graph/CountingSortSortPinLaw", "eq", "(II)I"⟩ : MethodName) method_3_code 2 (some .int) :: ws) ({ frames := 0, cells := 0, slots := 0, locals := 0 } : Room)) (fun a U => a = #[(.int pa), (.int pb)] ∧ Z.Warmed39 U.vm ∧ U.heap = h0) (fun _ _ _ _ _ => True) (fun _ U o U' => ∃ v L, o = .returned v ∧ Q5 Z pa pb h0 n0 v U'.heap L ∧ FrameEnd U o U' L ({ frames := 0, cells := 0, slots := 0, locals := 0 } : Room).cells ({ frames := 0, cells := 0, slots := 0, locals := 0 } : Room).slots) := by
  refine MetFree.of_bodySF (plainFor_of_name pn_1) hisR ?_
  intro p e s m args below meth c s₁ Bd hml0 hP hK
  obtain ⟨rfl, hZ, hh⟩ := hP
  have hx := Bd.exec
  have hby := Bd.bytes
  have hml : c.maxLocals = 2 := hml0
  have hown : s.vm.findClass "com/example/xml_graph_join/xmlgraphjoin/graph/CountingSortSortPinLaw" = some m.cls := findClass_of_methodNamed Bd.named
  have hnm := (name_of_methodNamed Bd.named Bd.method).1
  have X0 : Stand p l e ({ frames := 0, cells := 0, slots := 0, locals := 0 } : Room) s m #[(.int pa), (.int pb)] below meth c s₁ [] 0 0 := Stand.of_body Bd
  have e0 : s₁.heap = h0 := by rw [← hh, Bd.state]; rfl
  have N0 := Fr.nil n0
  refine Goes.by (fun _ k => castTop (ef5 m pa pb) k) ?_
  show Goes p.tables e below (s₁.setTop (mkF m 0 #[.val (.int pa), .val (.int pb)] [])) _
  refine Goes.by (fun _ k => XS.iloadN X0.here hx rfl (hb hby d5_0) rfl k) ?_
  show Goes p.tables e below (s₁.setTop (mkF m 1 #[.val (.int pa), .val (.int pb)] [(.int pa)])) _
  refine Goes.by (fun _ k => XS.iloadN X0.here hx rfl (hb hby d5_1) rfl k) ?_
  show Goes p.tables e below (s₁.setTop (mkF m 2 #[.val (.int pa), .val (.int pb)] [(.int pb), (.int pa)])) _
  by_cases hc1 : pa = pb
  · refine Goes.by (fun _ k => XS.icmpNo X0.here hx rfl (hb hby d5_2) rfl (teq hc1).2 k) ?_
    show Goes p.tables e below (s₁.setTop (mkF m 5 #[.val (.int pa), .val (.int pb)] [])) _
    refine Goes.by (fun _ k => XS.iconst X0.here hx rfl (hb hby d5_5) k) ?_
    show Goes p.tables e below (s₁.setTop (mkF m 6 #[.val (.int pa), .val (.int pb)] [(.int (1 : Int32))])) _
    refine Goes.by (fun _ k => XS.goto X0.here hx rfl (pc0 := 6) (pc' := 10) rfl (hb hby d5_6) (by decide) (by decide) k) ?_
    show Goes p.tables e below (s₁.setTop (mkF m 10 #[.val (.int pa), .val (.int pb)] [(.int (1 : Int32))])) _
    obtain ⟨fs, hr, hrun, hended, hW, hsame⟩ := X0.leave (v := some (.int (1 : Int32))) (fun h => by rw [Bd.returns] at h; cases h)
    refine ⟨_, _, retI X0 hx Bd.returns (hb hby d5_10) hr, hrun, hended, _, _, rfl, ?_, ⟨_, rfl⟩, hW, hsame.mono (by decide) (by decide)⟩
    show Q5 Z pa pb h0 n0 _ s₁.heap _
    rw [e0]
    exact ⟨(by rw [fn5, if_pos hc1]), N0, rfl⟩
  · refine Goes.by (fun _ k => XS.icmpYes X0.here hx rfl (pc0 := 2) (pc' := 9) rfl (hb hby d5_2) rfl (feq hc1).2 (by decide) (by decide) k) ?_
    show Goes p.tables e below (s₁.setTop (mkF m 9 #[.val (.int pa), .val (.int pb)] [])) _
    refine Goes.by (fun _ k => XS.iconst X0.here hx rfl (hb hby d5_9) k) ?_
    show Goes p.tables e below (s₁.setTop (mkF m 10 #[.val (.int pa), .val (.int pb)] [(.int (0 : Int32))])) _
    obtain ⟨fs, hr, hrun, hended, hW, hsame⟩ := X0.leave (v := some (.int (0 : Int32))) (fun h => by rw [Bd.returns] at h; cases h)
    refine ⟨_, _, retI X0 hx Bd.returns (hb hby d5_10) hr, hrun, hended, _, _, rfl, ?_, ⟨_, rfl⟩, hW, hsame.mono (by decide) (by decide)⟩
    show Q5 Z pa pb h0 n0 _ s₁.heap _
    rw [e0]
    exact ⟨(by rw [fn5, if_neg hc1]), N0, rfl⟩
theorem d3_0 : decode method_4_code 0 = .ok (.iload_n 1, 1) := by decide +kernel
theorem d3_1 : decode method_4_code 1 = .ok (.iload_n 0, 1) := by decide +kernel
theorem d3_2 : decode method_4_code 2 = .ok (.invokestatic 7, 3) := by decide +kernel
theorem pd_0 : parseMethodDescriptor "(II)I" = some ⟨[.int, .int], some .int⟩ := by decide +kernel
theorem d3_5 : decode method_4_code 5 = .ok (.iload_n 2, 1) := by decide +kernel
theorem d3_6 : decode method_4_code 6 = .ok (.iload_n 0, 1) := by decide +kernel
theorem d3_7 : decode method_4_code 7 = .ok (.invokestatic 7, 3) := by decide +kernel
theorem d3_10 : decode method_4_code 10 = .ok (.iadd, 1) := by decide +kernel
theorem d3_11 : decode method_4_code 11 = .ok (.iload_n 3, 1) := by decide +kernel
theorem d3_12 : decode method_4_code 12 = .ok (.iload_n 0, 1) := by decide +kernel
theorem d3_13 : decode method_4_code 13 = .ok (.invokestatic 7, 3) := by decide +kernel
theorem d3_16 : decode method_4_code 16 = .ok (.iadd, 1) := by decide +kernel
theorem d3_17 : decode method_4_code 17 = .ok (.iload 4, 2) := by decide +kernel
theorem d3_19 : decode method_4_code 19 = .ok (.iload_n 0, 1) := by decide +kernel
theorem d3_20 : decode method_4_code 20 = .ok (.invokestatic 7, 3) := by decide +kernel
theorem d3_23 : decode method_4_code 23 = .ok (.iadd, 1) := by decide +kernel
theorem d3_24 : decode method_4_code 24 = .ok (.ireturn, 1) := by decide +kernel
def fn3 (pk : Int32) (pa : Int32) (pb : Int32) (pc0 : Int32) (pd : Int32) : Int32 := ((((fn4 pa pk) + (fn4 pb pk)) + (fn4 pc0 pk)) + (fn4 pd pk))
theorem ef3 (m : MethodId) (pk : Int32) (pa : Int32) (pb : Int32) (pc0 : Int32) (pd : Int32) : entryFrame m #[(.int pk), (.int pa), (.int pb), (.int pc0), (.int pd)] 5 = mkF m 0 #[.val (.int pk), .val (.int pa), .val (.int pb), .val (.int pc0), .val (.int pd)] [] := by first | (simp [entryFrame, mkF, argsToLocals, Value.category]; done) | rfl
def Q3 (Z : State) (pk : Int32) (pa : Int32) (pb : Int32) (pc0 : Int32) (pd : Int32) (h0 : Heap) (n0 : Nat) (v : Option Value) (h : Heap) (L : List Loc) : Prop := v = some (.int (fn3 pk pa pb pc0 pd)) ∧ Fr n0 L ∧ h = h0
set_option maxRecDepth 65536 in
set_option maxHeartbeats 40000000 in
theorem rm3 (l : Launch) (Z : State) (a0 : Array Value) (hw : ∀ d ∈ tables_1, d.before a0 Z = true) (ws : List Jvm.Cond) (pk : Int32) (pa : Int32) (pb : Int32) (pc0 : Int32) (pd : Int32) (h0 : Heap) (n0 : Nat) (Z0 : n0 ≤ h0.size) :
    MetFree l (⟨"com/example/xml_graph_join/xmlgraphjoin/graph/CountingSortSortPinLaw", "below", "(IIIII)I"⟩ : MethodName) (head1 (Jvm.Cond.code (⟨"com/example/xml_graph_join/xmlgraphjoin/graph/CountingSortSortPinLaw", "below", "(IIIII)I"⟩ : MethodName) method_4_code 5 (some .int) :: ws) ({ frames := 1, cells := 0, slots := 0, locals := 14 } : Room)) (fun a U => a = #[(.int pk), (.int pa), (.int pb), (.int pc0), (.int pd)] ∧ Z.Warmed39 U.vm ∧ U.heap = h0) (fun _ _ _ _ _ => True) (fun _ U o U' => ∃ v L, o = .returned v ∧ Q3 Z pk pa pb pc0 pd h0 n0 v U'.heap L ∧ FrameEnd U o U' L ({ frames := 1, cells := 0, slots := 0, locals := 14 } : Room).cells ({ frames := 1, cells := 0, slots := 0, locals := 14 } : Room).slots) := by
  refine MetFree.of_bodySF (plainFor_of_name pn_1) hisR ?_
  intro p e s m args below meth c s₁ Bd hml0 hP hK
  obtain ⟨rfl, hZ, hh⟩ := hP
  have hx := Bd.exec
  have hby := Bd.bytes
  have hml : c.maxLocals = 5 := hml0
  have hown : s.vm.findClass "com/example/xml_graph_join/xmlgraphjoin/graph/CountingSortSortPinLaw" = some m.cls := findClass_of_methodNamed Bd.named
  have hnm := (name_of_methodNamed Bd.named Bd.method).1
  have X0 : Stand p l e ({ frames := 1, cells := 0, slots := 0, locals := 14 } : Room) s m #[(.int pk), (.int pa), (.int pb), (.int pc0), (.int pd)] below meth c s₁ [] 0 0 := Stand.of_body Bd
  have e0 : s₁.heap = h0 := by rw [← hh, Bd.state]; rfl
  have N0 := Fr.nil n0
  refine Goes.by (fun _ k => castTop (ef3 m pk pa pb pc0 pd) k) ?_
  show Goes p.tables e below (s₁.setTop (mkF m 0 #[.val (.int pk), .val (.int pa), .val (.int pb), .val (.int pc0), .val (.int pd)] [])) _
  refine Goes.by (fun _ k => XS.iloadN X0.here hx rfl (hb hby d3_0) rfl k) ?_
  show Goes p.tables e below (s₁.setTop (mkF m 1 #[.val (.int pk), .val (.int pa), .val (.int pb), .val (.int pc0), .val (.int pd)] [(.int pa)])) _
  refine Goes.by (fun _ k => XS.iloadN X0.here hx rfl (hb hby d3_1) rfl k) ?_
  show Goes p.tables e below (s₁.setTop (mkF m 2 #[.val (.int pk), .val (.int pa), .val (.int pb), .val (.int pc0), .val (.int pd)] [(.int pk), (.int pa)])) _
  obtain ⟨_, _, ⟨T1, L1, k1, n1⟩, -, X1, ⟨Lc1, hQ1, l1, y1, z1⟩, st1⟩ := Jvm.LawKit.callS X0 hx (y := (⟨"com/example/xml_graph_join/xmlgraphjoin/graph/CountingSortSortPinLaw", "lt", "(II)I"⟩ : MethodName)) hown (mvT hZ (hw _ (List.mem_of_getElem? (i := 12) rfl))) (mvT hZ (hw _ (List.mem_of_getElem? (i := 13) rfl))) (mvT hZ (hw _ (List.mem_of_getElem? (i := 7) rfl))) (mvT hZ (hw _ (List.mem_of_getElem? (i := 14) rfl))) (by decide) (backOf (W := 0) (rm4 l Z a0 hw [] pa pk h0 n0 Z0) hZ (hw _ (List.mem_of_getElem? (i := 14) rfl)) (hw _ (List.mem_of_getElem? (i := 7) rfl)) (by decide) (by decide)) (g := (mkF m 2 #[.val (.int pk), .val (.int pa), .val (.int pb), .val (.int pc0), .val (.int pd)] [(.int pk), (.int pa)])) rfl (by rw [hml]; rfl) (argsL := [(.int pa), (.int pk)]) (rest := []) (lenOf pd_0 rfl) rfl (by show 2 * 0 + _ ≤ _; exact Nat.le_of_eq rfl) (hb hby d3_2) (fun _ _ => ⟨rfl, e0, (by decide : 0 + 0 ≤ _), (by decide : 0 + 0 ≤ _)⟩)
  dsimp only [Pt.U, Pt.locs, Pt.cells, Pt.slots] at X1 l1 y1 z1 st1 hQ1
  rw [l1, y1, z1] at X1
  obtain ⟨rfl, N1q, e1⟩ := hQ1
  have N1 := Fr.app N0 N1q
  refine Goes.by st1 ?_
  show Goes p.tables e below (T1.setTop (mkF m 5 #[.val (.int pk), .val (.int pa), .val (.int pb), .val (.int pc0), .val (.int pd)] [(.int (fn4 pa pk))])) _
  refine Goes.by (fun _ k => XS.iloadN X1.here hx rfl (hb hby d3_5) rfl k) ?_
  show Goes p.tables e below (T1.setTop (mkF m 6 #[.val (.int pk), .val (.int pa), .val (.int pb), .val (.int pc0), .val (.int pd)] [(.int pb), (.int (fn4 pa pk))])) _
  refine Goes.by (fun _ k => XS.iloadN X1.here hx rfl (hb hby d3_6) rfl k) ?_
  show Goes p.tables e below (T1.setTop (mkF m 7 #[.val (.int pk), .val (.int pa), .val (.int pb), .val (.int pc0), .val (.int pd)] [(.int pk), (.int pb), (.int (fn4 pa pk))])) _
  obtain ⟨_, _, ⟨T2, L2, k2, n2⟩, -, X2, ⟨Lc2, hQ2, l2, y2, z2⟩, st2⟩ := Jvm.LawKit.callS X1 hx (y := (⟨"com/example/xml_graph_join/xmlgraphjoin/graph/CountingSortSortPinLaw", "lt", "(II)I"⟩ : MethodName)) hown (mvT hZ (hw _ (List.mem_of_getElem? (i := 12) rfl))) (mvT hZ (hw _ (List.mem_of_getElem? (i := 13) rfl))) (mvT hZ (hw _ (List.mem_of_getElem? (i := 7) rfl))) (mvT hZ (hw _ (List.mem_of_getElem? (i := 14) rfl))) (by decide) (backOf (W := 1) (rm4 l Z a0 hw [] pb pk h0 n0 Z0) hZ (hw _ (List.mem_of_getElem? (i := 14) rfl)) (hw _ (List.mem_of_getElem? (i := 7) rfl)) (by decide) (by decide)) (g := (mkF m 7 #[.val (.int pk), .val (.int pa), .val (.int pb), .val (.int pc0), .val (.int pd)] [(.int pk), (.int pb), (.int (fn4 pa pk))])) rfl (by rw [hml]; rfl) (argsL := [(.int pb), (.int pk)]) (rest := [(.int (fn4 pa pk))]) (lenOf pd_0 rfl) rfl (by show 2 * 0 + (1 + 0) ≤ _; decide) (hb hby d3_7) (fun _ _ => ⟨rfl, e1, (by decide : 0 + 0 ≤ _), (by decide : 0 + 0 ≤ _)⟩)
  dsimp only [Pt.U, Pt.locs, Pt.cells, Pt.slots] at X2 l2 y2 z2 st2 hQ2
  rw [l2, y2, z2] at X2
  obtain ⟨rfl, N2q, e2⟩ := hQ2
  have N2 := Fr.app N1 N2q
  refine Goes.by st2 ?_
  show Goes p.tables e below (T2.setTop (mkF m 10 #[.val (.int pk), .val (.int pa), .val (.int pb), .val (.int pc0), .val (.int pd)] [(.int (fn4 pb pk)), (.int (fn4 pa pk))])) _
  refine Goes.by (fun _ k => XS.iadd X2.here hx rfl (hb hby d3_10) rfl k) ?_
  show Goes p.tables e below (T2.setTop (mkF m 11 #[.val (.int pk), .val (.int pa), .val (.int pb), .val (.int pc0), .val (.int pd)] [(.int ((fn4 pa pk) + (fn4 pb pk)))])) _
  refine Goes.by (fun _ k => XS.iloadN X2.here hx rfl (hb hby d3_11) rfl k) ?_
  show Goes p.tables e below (T2.setTop (mkF m 12 #[.val (.int pk), .val (.int pa), .val (.int pb), .val (.int pc0), .val (.int pd)] [(.int pc0), (.int ((fn4 pa pk) + (fn4 pb pk)))])) _
  refine Goes.by (fun _ k => XS.iloadN X2.here hx rfl (hb hby d3_12) rfl k) ?_
  show Goes p.tables e below (T2.setTop (mkF m 13 #[.val (.int pk), .val (.int pa), .val (.int pb), .val (.int pc0), .val (.int pd)] [(.int pk), (.int pc0), (.int ((fn4 pa pk) + (fn4 pb pk)))])) _
  obtain ⟨_, _, ⟨T3, L3, k3, n3⟩, -, X3, ⟨Lc3, hQ3, l3, y3, z3⟩, st3⟩ := Jvm.LawKit.callS X2 hx (y := (⟨"com/example/xml_graph_join/xmlgraphjoin/graph/CountingSortSortPinLaw", "lt", "(II)I"⟩ : MethodName)) hown (mvT hZ (hw _ (List.mem_of_getElem? (i := 12) rfl))) (mvT hZ (hw _ (List.mem_of_getElem? (i := 13) rfl))) (mvT hZ (hw _ (List.mem_of_getElem? (i := 7) rfl))) (mvT hZ (hw _ (List.mem_of_getElem? (i := 14) rfl))) (by decide) (backOf (W := 1) (rm4 l Z a0 hw [] pc0 pk h0 n0 Z0) hZ (hw _ (List.mem_of_getElem? (i := 14) rfl)) (hw _ (List.mem_of_getElem? (i := 7) rfl)) (by decide) (by decide)) (g := (mkF m 13 #[.val (.int pk), .val (.int pa), .val (.int pb), .val (.int pc0), .val (.int pd)] [(.int pk), (.int pc0), (.int ((fn4 pa pk) + (fn4 pb pk)))])) rfl (by rw [hml]; rfl) (argsL := [(.int pc0), (.int pk)]) (rest := [(.int ((fn4 pa pk) + (fn4 pb pk)))]) (lenOf pd_0 rfl) rfl (by show 2 * 0 + (1 + 0) ≤ _; decide) (hb hby d3_13) (fun _ _ => ⟨rfl, e2, (by decide : 0 + 0 ≤ _), (by decide : 0 + 0 ≤ _)⟩)
  dsimp only [Pt.U, Pt.locs, Pt.cells, Pt.slots] at X3 l3 y3 z3 st3 hQ3
  rw [l3, y3, z3] at X3
  obtain ⟨rfl, N3q, e3⟩ := hQ3
  have N3 := Fr.app N2 N3q
  refine Goes.by st3 ?_
  show Goes p.tables e below (T3.setTop (mkF m 16 #[.val (.int pk), .val (.int pa), .val (.int pb), .val (.int pc0), .val (.int pd)] [(.int (fn4 pc0 pk)), (.int ((fn4 pa pk) + (fn4 pb pk)))])) _
  refine Goes.by (fun _ k => XS.iadd X3.here hx rfl (hb hby d3_16) rfl k) ?_
  show Goes p.tables e below (T3.setTop (mkF m 17 #[.val (.int pk), .val (.int pa), .val (.int pb), .val (.int pc0), .val (.int pd)] [(.int (((fn4 pa pk) + (fn4 pb pk)) + (fn4 pc0 pk)))])) _
  refine Goes.by (fun _ k => XS.iload X3.here hx rfl (hb hby d3_17) rfl k) ?_
  show Goes p.tables e below (T3.setTop (mkF m 19 #[.val (.int pk), .val (.int pa), .val (.int pb), .val (.int pc0), .val (.int pd)] [(.int pd), (.int (((fn4 pa pk) + (fn4 pb pk)) + (fn4 pc0 pk)))])) _
  refine Goes.by (fun _ k => XS.iloadN X3.here hx rfl (hb hby d3_19) rfl k) ?_
  show Goes p.tables e below (T3.setTop (mkF m 20 #[.val (.int pk), .val (.int pa), .val (.int pb), .val (.int pc0), .val (.int pd)] [(.int pk), (.int pd), (.int (((fn4 pa pk) + (fn4 pb pk)) + (fn4 pc0 pk)))])) _
  obtain ⟨_, _, ⟨T4, L4, k4, n4⟩, -, X4, ⟨Lc4, hQ4, l4, y4, z4⟩, st4⟩ := Jvm.LawKit.callS X3 hx (y := (⟨"com/example/xml_graph_join/xmlgraphjoin/graph/CountingSortSortPinLaw", "lt", "(II)I"⟩ : MethodName)) hown (mvT hZ (hw _ (List.mem_of_getElem? (i := 12) rfl))) (mvT hZ (hw _ (List.mem_of_getElem? (i := 13) rfl))) (mvT hZ (hw _ (List.mem_of_getElem? (i := 7) rfl))) (mvT hZ (hw _ (List.mem_of_getElem? (i := 14) rfl))) (by decide) (backOf (W := 1) (rm4 l Z a0 hw [] pd pk h0 n0 Z0) hZ (hw _ (List.mem_of_getElem? (i := 14) rfl)) (hw _ (List.mem_of_getElem? (i := 7) rfl)) (by decide) (by decide)) (g := (mkF m 20 #[.val (.int pk), .val (.int pa), .val (.int pb), .val (.int pc0), .val (.int pd)] [(.int pk), (.int pd), (.int (((fn4 pa pk) + (fn4 pb pk)) + (fn4 pc0 pk)))])) rfl (by rw [hml]; rfl) (argsL := [(.int pd), (.int pk)]) (rest := [(.int (((fn4 pa pk) + (fn4 pb pk)) + (fn4 pc0 pk)))]) (lenOf pd_0 rfl) rfl (by show 2 * 0 + (1 + 0) ≤ _; decide) (hb hby d3_20) (fun _ _ => ⟨rfl, e3, (by decide : 0 + 0 ≤ _), (by decide : 0 + 0 ≤ _)⟩)
  dsimp only [Pt.U, Pt.locs, Pt.cells, Pt.slots] at X4 l4 y4 z4 st4 hQ4
  rw [l4, y4, z4] at X4
  obtain ⟨rfl, N4q, e4⟩ := hQ4
  have N4 := Fr.app N3 N4q
  refine Goes.by st4 ?_
  show Goes p.tables e below (T4.setTop (mkF m 23 #[.val (.int pk), .val (.int pa), .val (.int pb), .val (.int pc0), .val (.int pd)] [(.int (fn4 pd pk)), (.int (((fn4 pa pk) + (fn4 pb pk)) + (fn4 pc0 pk)))])) _
  refine Goes.by (fun _ k => XS.iadd X4.here hx rfl (hb hby d3_23) rfl k) ?_
  show Goes p.tables e below (T4.setTop (mkF m 24 #[.val (.int pk), .val (.int pa), .val (.int pb), .val (.int pc0), .val (.int pd)] [(.int ((((fn4 pa pk) + (fn4 pb pk)) + (fn4 pc0 pk)) + (fn4 pd pk)))])) _
  obtain ⟨fs, hr, hrun, hended, hW, hsame⟩ := X4.leave (v := some (.int ((((fn4 pa pk) + (fn4 pb pk)) + (fn4 pc0 pk)) + (fn4 pd pk)))) (fun h => by rw [Bd.returns] at h; cases h)
  refine ⟨_, _, retI X4 hx Bd.returns (hb hby d3_24) hr, hrun, hended, _, _, rfl, ?_, ⟨_, rfl⟩, hW, hsame.mono (by decide) (by decide)⟩
  show Q3 Z pk pa pb pc0 pd h0 n0 _ T4.heap _
  rw [e4]
  exact ⟨rfl, N4, rfl⟩
theorem d2_0 : decode method_5_code 0 = .ok (.iload_n 1, 1) := by decide +kernel
theorem d2_1 : decode method_5_code 1 = .ok (.iload_n 2, 1) := by decide +kernel
theorem d2_2 : decode method_5_code 2 = .ok (.if_icmp .le 5, 3) := by decide +kernel
theorem d2_5 : decode method_5_code 5 = .ok (.iconst 1, 1) := by decide +kernel
theorem d2_6 : decode method_5_code 6 = .ok (.ireturn, 1) := by decide +kernel
theorem d2_7 : decode method_5_code 7 = .ok (.aload_n 0, 1) := by decide +kernel
theorem d2_8 : decode method_5_code 8 = .ok (.iload_n 1, 1) := by decide +kernel
theorem d2_9 : decode method_5_code 9 = .ok (.iaload, 1) := by decide +kernel
theorem d2_10 : decode method_5_code 10 = .ok (.iload_n 1, 1) := by decide +kernel
theorem d2_11 : decode method_5_code 11 = .ok (.iload_n 3, 1) := by decide +kernel
theorem d2_12 : decode method_5_code 12 = .ok (.iload 4, 2) := by decide +kernel
theorem d2_14 : decode method_5_code 14 = .ok (.iload 5, 2) := by decide +kernel
theorem d2_16 : decode method_5_code 16 = .ok (.iload 6, 2) := by decide +kernel
theorem d2_18 : decode method_5_code 18 = .ok (.invokestatic 13, 3) := by decide +kernel
theorem pd_1 : parseMethodDescriptor "(IIIII)I" = some ⟨[.int, .int, .int, .int, .int], some .int⟩ := by decide +kernel
theorem d2_21 : decode method_5_code 21 = .ok (.if_icmp .ne 7, 3) := by decide +kernel
theorem d2_24 : decode method_5_code 24 = .ok (.iconst 1, 1) := by decide +kernel
theorem d2_25 : decode method_5_code 25 = .ok (.goto 4, 3) := by decide +kernel
theorem d2_29 : decode method_5_code 29 = .ok (.ireturn, 1) := by decide +kernel
theorem d2_28 : decode method_5_code 28 = .ok (.iconst 0, 1) := by decide +kernel
def fn2 (pk : Int32) (pm : Int32) (pa : Int32) (pb : Int32) (pc0 : Int32) (pd : Int32) (pg : Nat → Int32) (ni : Nat) (nl : Nat) : Int32 := (if pm < pk then (1 : Int32) else (if (pg ni) = (fn3 pk pa pb pc0 pd) then (1 : Int32) else (0 : Int32)))
theorem ef2 (m : MethodId) (oa : Addr) (pk : Int32) (pm : Int32) (pa : Int32) (pb : Int32) (pc0 : Int32) (pd : Int32) : entryFrame m #[(.ref oa), (.int pk), (.int pm), (.int pa), (.int pb), (.int pc0), (.int pd)] 7 = mkF m 0 #[.val (.ref oa), .val (.int pk), .val (.int pm), .val (.int pa), .val (.int pb), .val (.int pc0), .val (.int pd)] [] := by first | (simp [entryFrame, mkF, argsToLocals, Value.category]; done) | rfl
def Q2 (Z : State) (oa : Addr) (pk : Int32) (pm : Int32) (pa : Int32) (pb : Int32) (pc0 : Int32) (pd : Int32) (pg : Nat → Int32) (ni : Nat) (nl : Nat) (h0 : Heap) (n0 : Nat) (v : Option Value) (h : Heap) (L : List Loc) : Prop := v = some (.int (fn2 pk pm pa pb pc0 pd pg ni nl)) ∧ Fr n0 L ∧ h = h0
set_option maxRecDepth 65536 in
set_option maxHeartbeats 40000000 in
theorem rm2 (l : Launch) (Z : State) (a0 : Array Value) (hw : ∀ d ∈ tables_1, d.before a0 Z = true) (ws : List Jvm.Cond) (oa : Addr) (pk : Int32) (pm : Int32) (pa : Int32) (pb : Int32) (pc0 : Int32) (pd : Int32) (pg : Nat → Int32) (ni : Nat) (nl : Nat) (h0 : Heap) (n0 : Nat) (Z0 : n0 ≤ h0.size) (A_oa : AI Z h0 oa .int nl pg) (hj : pk.toInt = (ni : Int)) (hi : ¬ (pm < pk) → ni < nl) :
    MetFree l (⟨"com/example/xml_graph_join/xmlgraphjoin/graph/CountingSortSortPinLaw", "firstOk", "([IIIIIII)Z"⟩ : MethodName) (head1 (Jvm.Cond.code (⟨"com/example/xml_graph_join/xmlgraphjoin/graph/CountingSortSortPinLaw", "firstOk", "([IIIIIII)Z"⟩ : MethodName) method_5_code 7 (some .boolean) :: ws) ({ frames := 2, cells := 0, slots := 0, locals := 31 } : Room)) (fun a U => a = #[(.ref oa), (.int pk), (.int pm), (.int pa), (.int pb), (.int pc0), (.int pd)] ∧ Z.Warmed39 U.vm ∧ U.heap = h0) (fun _ _ _ _ _ => True) (fun _ U o U' => ∃ v L, o = .returned v ∧ Q2 Z oa pk pm pa pb pc0 pd pg ni nl h0 n0 v U'.heap L ∧ FrameEnd U o U' L ({ frames := 2, cells := 0, slots := 0, locals := 31 } : Room).cells ({ frames := 2, cells := 0, slots := 0, locals := 31 } : Room).slots) := by
  refine MetFree.of_bodySF (plainFor_of_name pn_1) hisR ?_
  intro p e s m args below meth c s₁ Bd hml0 hP hK
  obtain ⟨rfl, hZ, hh⟩ := hP
  have hx := Bd.exec
  have hby := Bd.bytes
  have hml : c.maxLocals = 7 := hml0
  have hown : s.vm.findClass "com/example/xml_graph_join/xmlgraphjoin/graph/CountingSortSortPinLaw" = some m.cls := findClass_of_methodNamed Bd.named
  have hnm := (name_of_methodNamed Bd.named Bd.method).1
  have X0 : Stand p l e ({ frames := 2, cells := 0, slots := 0, locals := 31 } : Room) s m #[(.ref oa), (.int pk), (.int pm), (.int pa), (.int pb), (.int pc0), (.int pd)] below meth c s₁ [] 0 0 := Stand.of_body Bd
  have e0 : s₁.heap = h0 := by rw [← hh, Bd.state]; rfl
  have N0 := Fr.nil n0
  refine Goes.by (fun _ k => castTop (ef2 m oa pk pm pa pb pc0 pd) k) ?_
  show Goes p.tables e below (s₁.setTop (mkF m 0 #[.val (.ref oa), .val (.int pk), .val (.int pm), .val (.int pa), .val (.int pb), .val (.int pc0), .val (.int pd)] [])) _
  refine Goes.by (fun _ k => XS.iloadN X0.here hx rfl (hb hby d2_0) rfl k) ?_
  show Goes p.tables e below (s₁.setTop (mkF m 1 #[.val (.ref oa), .val (.int pk), .val (.int pm), .val (.int pa), .val (.int pb), .val (.int pc0), .val (.int pd)] [(.int pk)])) _
  refine Goes.by (fun _ k => XS.iloadN X0.here hx rfl (hb hby d2_1) rfl k) ?_
  show Goes p.tables e below (s₁.setTop (mkF m 2 #[.val (.ref oa), .val (.int pk), .val (.int pm), .val (.int pa), .val (.int pb), .val (.int pc0), .val (.int pd)] [(.int pm), (.int pk)])) _
  by_cases hc1 : pm < pk
  · refine Goes.by (fun _ k => XS.icmpNo X0.here hx rfl (hb hby d2_2) rfl (tlt hc1).2.2.2 k) ?_
    show Goes p.tables e below (s₁.setTop (mkF m 5 #[.val (.ref oa), .val (.int pk), .val (.int pm), .val (.int pa), .val (.int pb), .val (.int pc0), .val (.int pd)] [])) _
    refine Goes.by (fun _ k => XS.iconst X0.here hx rfl (hb hby d2_5) k) ?_
    show Goes p.tables e below (s₁.setTop (mkF m 6 #[.val (.ref oa), .val (.int pk), .val (.int pm), .val (.int pa), .val (.int pb), .val (.int pc0), .val (.int pd)] [(.int (1 : Int32))])) _
    obtain ⟨fs, hr, hrun, hended, hW, hsame⟩ := X0.leave (v := some (.int (1 : Int32))) (fun h => by rw [Bd.returns] at h; cases h)
    refine ⟨_, _, retN X0 hx (t := .boolean) Bd.returns (by simp) (hb hby d2_6) hr, hrun, hended, _, _, rfl, ?_, ⟨_, rfl⟩, hW, hsame.mono (by decide) (by decide)⟩
    show Q2 Z oa pk pm pa pb pc0 pd pg ni nl h0 n0 _ s₁.heap _
    rw [e0]
    exact ⟨(by rw [fn2, if_pos hc1]), N0, rfl⟩
  · refine Goes.by (fun _ k => XS.icmpYes X0.here hx rfl (pc0 := 2) (pc' := 7) rfl (hb hby d2_2) rfl (flt hc1).2.2.2 (by decide) (by decide) k) ?_
    show Goes p.tables e below (s₁.setTop (mkF m 7 #[.val (.ref oa), .val (.int pk), .val (.int pm), .val (.int pa), .val (.int pb), .val (.int pc0), .val (.int pd)] [])) _
    refine Goes.by (fun _ k => XS.aloadN X0.here hx rfl (hb hby d2_7) rfl rfl k) ?_
    show Goes p.tables e below (s₁.setTop (mkF m 8 #[.val (.ref oa), .val (.int pk), .val (.int pm), .val (.int pa), .val (.int pb), .val (.int pc0), .val (.int pd)] [(.ref oa)])) _
    refine Goes.by (fun _ k => XS.iloadN X0.here hx rfl (hb hby d2_8) rfl k) ?_
    show Goes p.tables e below (s₁.setTop (mkF m 9 #[.val (.ref oa), .val (.int pk), .val (.int pm), .val (.int pa), .val (.int pb), .val (.int pc0), .val (.int pd)] [(.int pk), (.ref oa)])) _
    refine Goes.by (fun _ k => ldI (v := (pg ni)) (fr := (mkF m 9 #[.val (.ref oa), .val (.int pk), .val (.int pm), .val (.int pa), .val (.int pb), .val (.int pc0), .val (.int pd)] [(.int pk), (.ref oa)])) X0 hx hZ e0 A_oa (i := ni) hj (hi hc1) rfl rfl rfl (hb hby d2_9) k) ?_
    show Goes p.tables e below (s₁.setTop (mkF m 10 #[.val (.ref oa), .val (.int pk), .val (.int pm), .val (.int pa), .val (.int pb), .val (.int pc0), .val (.int pd)] [(.int (pg ni))])) _
    refine Goes.by (fun _ k => XS.iloadN X0.here hx rfl (hb hby d2_10) rfl k) ?_
    show Goes p.tables e below (s₁.setTop (mkF m 11 #[.val (.ref oa), .val (.int pk), .val (.int pm), .val (.int pa), .val (.int pb), .val (.int pc0), .val (.int pd)] [(.int pk), (.int (pg ni))])) _
    refine Goes.by (fun _ k => XS.iloadN X0.here hx rfl (hb hby d2_11) rfl k) ?_
    show Goes p.tables e below (s₁.setTop (mkF m 12 #[.val (.ref oa), .val (.int pk), .val (.int pm), .val (.int pa), .val (.int pb), .val (.int pc0), .val (.int pd)] [(.int pa), (.int pk), (.int (pg ni))])) _
    refine Goes.by (fun _ k => XS.iload X0.here hx rfl (hb hby d2_12) rfl k) ?_
    show Goes p.tables e below (s₁.setTop (mkF m 14 #[.val (.ref oa), .val (.int pk), .val (.int pm), .val (.int pa), .val (.int pb), .val (.int pc0), .val (.int pd)] [(.int pb), (.int pa), (.int pk), (.int (pg ni))])) _
    refine Goes.by (fun _ k => XS.iload X0.here hx rfl (hb hby d2_14) rfl k) ?_
    show Goes p.tables e below (s₁.setTop (mkF m 16 #[.val (.ref oa), .val (.int pk), .val (.int pm), .val (.int pa), .val (.int pb), .val (.int pc0), .val (.int pd)] [(.int pc0), (.int pb), (.int pa), (.int pk), (.int (pg ni))])) _
    refine Goes.by (fun _ k => XS.iload X0.here hx rfl (hb hby d2_16) rfl k) ?_
    show Goes p.tables e below (s₁.setTop (mkF m 18 #[.val (.ref oa), .val (.int pk), .val (.int pm), .val (.int pa), .val (.int pb), .val (.int pc0), .val (.int pd)] [(.int pd), (.int pc0), (.int pb), (.int pa), (.int pk), (.int (pg ni))])) _
    obtain ⟨_, _, ⟨T2, L2, k2, n2⟩, -, X2, ⟨Lc2, hQ2, l2, y2, z2⟩, st2⟩ := Jvm.LawKit.callS X0 hx (y := (⟨"com/example/xml_graph_join/xmlgraphjoin/graph/CountingSortSortPinLaw", "below", "(IIIII)I"⟩ : MethodName)) hown (mvT hZ (hw _ (List.mem_of_getElem? (i := 9) rfl))) (mvT hZ (hw _ (List.mem_of_getElem? (i := 10) rfl))) (mvT hZ (hw _ (List.mem_of_getElem? (i := 7) rfl))) (mvT hZ (hw _ (List.mem_of_getElem? (i := 11) rfl))) (by decide) (backOf (W := 1) (rm3 l Z a0 hw [] pk pa pb pc0 pd h0 n0 Z0) hZ (hw _ (List.mem_of_getElem? (i := 11) rfl)) (hw _ (List.mem_of_getElem? (i := 7) rfl)) (by decide) (by decide)) (g := (mkF m 18 #[.val (.ref oa), .val (.int pk), .val (.int pm), .val (.int pa), .val (.int pb), .val (.int pc0), .val (.int pd)] [(.int pd), (.int pc0), (.int pb), (.int pa), (.int pk), (.int (pg ni))])) rfl (by rw [hml]; rfl) (argsL := [(.int pk), (.int pa), (.int pb), (.int pc0), (.int pd)]) (rest := [(.int (pg ni))]) (lenOf pd_1 rfl) rfl (by show 2 * 0 + (1 + 0) ≤ _; decide) (hb hby d2_18) (fun _ _ => ⟨rfl, e0, (by decide : 0 + 0 ≤ _), (by decide : 0 + 0 ≤ _)⟩)
    dsimp only [Pt.U, Pt.locs, Pt.cells, Pt.slots] at X2 l2 y2 z2 st2 hQ2
    rw [l2, y2, z2] at X2
    obtain ⟨rfl, N2q, e2⟩ := hQ2
    have N2 := Fr.app N0 N2q
    refine Goes.by st2 ?_
    show Goes p.tables e below (T2.setTop (mkF m 21 #[.val (.ref oa), .val (.int pk), .val (.int pm), .val (.int pa), .val (.int pb), .val (.int pc0), .val (.int pd)] [(.int (fn3 pk pa pb pc0 pd)), (.int (pg ni))])) _
    by_cases hc3 : (pg ni) = (fn3 pk pa pb pc0 pd)
    · refine Goes.by (fun _ k => XS.icmpNo X2.here hx rfl (hb hby d2_21) rfl (teq hc3).2 k) ?_
      show Goes p.tables e below (T2.setTop (mkF m 24 #[.val (.ref oa), .val (.int pk), .val (.int pm), .val (.int pa), .val (.int pb), .val (.int pc0), .val (.int pd)] [])) _
      refine Goes.by (fun _ k => XS.iconst X2.here hx rfl (hb hby d2_24) k) ?_
      show Goes p.tables e below (T2.setTop (mkF m 25 #[.val (.ref oa), .val (.int pk), .val (.int pm), .val (.int pa), .val (.int pb), .val (.int pc0), .val (.int pd)] [(.int (1 : Int32))])) _
      refine Goes.by (fun _ k => XS.goto X2.here hx rfl (pc0 := 25) (pc' := 29) rfl (hb hby d2_25) (by decide) (by decide) k) ?_
      show Goes p.tables e below (T2.setTop (mkF m 29 #[.val (.ref oa), .val (.int pk), .val (.int pm), .val (.int pa), .val (.int pb), .val (.int pc0), .val (.int pd)] [(.int (1 : Int32))])) _
      obtain ⟨fs, hr, hrun, hended, hW, hsame⟩ := X2.leave (v := some (.int (1 : Int32))) (fun h => by rw [Bd.returns] at h; cases h)
      refine ⟨_, _, retN X2 hx (t := .boolean) Bd.returns (by simp) (hb hby d2_29) hr, hrun, hended, _, _, rfl, ?_, ⟨_, rfl⟩, hW, hsame.mono (by decide) (by decide)⟩
      show Q2 Z oa pk pm pa pb pc0 pd pg ni nl h0 n0 _ T2.heap _
      rw [e2]
      exact ⟨(by rw [fn2, if_neg hc1, if_pos hc3]), N2, rfl⟩
    · refine Goes.by (fun _ k => XS.icmpYes X2.here hx rfl (pc0 := 21) (pc' := 28) rfl (hb hby d2_21) rfl (feq hc3).2 (by decide) (by decide) k) ?_
      show Goes p.tables e below (T2.setTop (mkF m 28 #[.val (.ref oa), .val (.int pk), .val (.int pm), .val (.int pa), .val (.int pb), .val (.int pc0), .val (.int pd)] [])) _
      refine Goes.by (fun _ k => XS.iconst X2.here hx rfl (hb hby d2_28) k) ?_
      show Goes p.tables e below (T2.setTop (mkF m 29 #[.val (.ref oa), .val (.int pk), .val (.int pm), .val (.int pa), .val (.int pb), .val (.int pc0), .val (.int pd)] [(.int (0 : Int32))])) _
      obtain ⟨fs, hr, hrun, hended, hW, hsame⟩ := X2.leave (v := some (.int (0 : Int32))) (fun h => by rw [Bd.returns] at h; cases h)
      refine ⟨_, _, retN X2 hx (t := .boolean) Bd.returns (by simp) (hb hby d2_29) hr, hrun, hended, _, _, rfl, ?_, ⟨_, rfl⟩, hW, hsame.mono (by decide) (by decide)⟩
      show Q2 Z oa pk pm pa pb pc0 pd pg ni nl h0 n0 _ T2.heap _
      rw [e2]
      exact ⟨(by rw [fn2, if_neg hc1, if_neg hc3]), N2, rfl⟩
theorem own_dist : ∀ nk0 nk1 nk2 nk3 : Fin 4, own_rank0 nk0.val nk1.val nk2.val nk3.val ≠ own_rank1 nk0.val nk1.val nk2.val nk3.val ∧ own_rank0 nk0.val nk1.val nk2.val nk3.val ≠ own_rank2 nk0.val nk1.val nk2.val nk3.val ∧ own_rank0 nk0.val nk1.val nk2.val nk3.val ≠ own_rank3 nk0.val nk1.val nk2.val nk3.val ∧ own_rank1 nk0.val nk1.val nk2.val nk3.val ≠ own_rank2 nk0.val nk1.val nk2.val nk3.val ∧ own_rank1 nk0.val nk1.val nk2.val nk3.val ≠ own_rank3 nk0.val nk1.val nk2.val nk3.val ∧ own_rank2 nk0.val nk1.val nk2.val nk3.val ≠ own_rank3 nk0.val nk1.val nk2.val nk3.val := by decide +kernel
theorem own_S (f : Nat → Int32) (r0 r1 r2 r3 : Nat) (a b c d : Int32) (h : r0 ≠ r1 ∧ r0 ≠ r2 ∧ r0 ≠ r3 ∧ r1 ≠ r2 ∧ r1 ≠ r3 ∧ r2 ≠ r3) : up (up (up (up f r0 a) r1 b) r2 c) r3 d r0 = a ∧ up (up (up (up f r0 a) r1 b) r2 c) r3 d r1 = b ∧ up (up (up (up f r0 a) r1 b) r2 c) r3 d r2 = c ∧ up (up (up (up f r0 a) r1 b) r2 c) r3 d r3 = d := by
  obtain ⟨h1, h2, h3, h4, h5, h6⟩ := h
  refine ⟨?_, ?_, ?_, ?_⟩
  · rw [up_ne _ _ h3, up_ne _ _ h2, up_ne _ _ h1, up_at]
  · rw [up_ne _ _ h5, up_ne _ _ h4, up_at]
  · rw [up_ne _ _ h6, up_at]
  · rw [up_at]
theorem pd_2 : parseMethodDescriptor "([I[II[I)[I" = some ⟨[(.array .int), (.array .int), .int, (.array .int)], some (.array .int)⟩ := by decide +kernel
theorem pd_3 : parseMethodDescriptor "([IIIIIII)Z" = some ⟨[(.array .int), .int, .int, .int, .int, .int, .int], some .boolean⟩ := by decide +kernel
theorem own_fo0 : ∀ nK : Fin 4, ∀ nk0 nk1 nk2 nk3 : Fin 4, nk0.val < nK.val + 1 ∧ nk1.val < nK.val + 1 ∧ nk2.val < nK.val + 1 ∧ nk3.val < nK.val + 1 → ¬ ((fn2 (0 : Int32) (Int32.ofNat (nK.val + 1)) (Int32.ofNat nk0.val) (Int32.ofNat nk1.val) (Int32.ofNat nk2.val) (Int32.ofNat nk3.val) (own_pre (nK.val + 1) nk0.val nk1.val nk2.val nk3.val) 0 ((nK.val + 1) + 1)) = (0 : Int32)) := by decide +kernel
theorem own_fo1 : ∀ nK : Fin 4, ∀ nk0 nk1 nk2 nk3 : Fin 4, nk0.val < nK.val + 1 ∧ nk1.val < nK.val + 1 ∧ nk2.val < nK.val + 1 ∧ nk3.val < nK.val + 1 → ¬ ((fn2 (1 : Int32) (Int32.ofNat (nK.val + 1)) (Int32.ofNat nk0.val) (Int32.ofNat nk1.val) (Int32.ofNat nk2.val) (Int32.ofNat nk3.val) (own_pre (nK.val + 1) nk0.val nk1.val nk2.val nk3.val) 1 ((nK.val + 1) + 1)) = (0 : Int32)) := by decide +kernel
theorem own_fo2 : ∀ nK : Fin 4, ∀ nk0 nk1 nk2 nk3 : Fin 4, nk0.val < nK.val + 1 ∧ nk1.val < nK.val + 1 ∧ nk2.val < nK.val + 1 ∧ nk3.val < nK.val + 1 → ¬ ((fn2 (2 : Int32) (Int32.ofNat (nK.val + 1)) (Int32.ofNat nk0.val) (Int32.ofNat nk1.val) (Int32.ofNat nk2.val) (Int32.ofNat nk3.val) (own_pre (nK.val + 1) nk0.val nk1.val nk2.val nk3.val) 2 ((nK.val + 1) + 1)) = (0 : Int32)) := by decide +kernel
theorem own_fo3 : ∀ nK : Fin 4, ∀ nk0 nk1 nk2 nk3 : Fin 4, nk0.val < nK.val + 1 ∧ nk1.val < nK.val + 1 ∧ nk2.val < nK.val + 1 ∧ nk3.val < nK.val + 1 → ¬ ((fn2 (3 : Int32) (Int32.ofNat (nK.val + 1)) (Int32.ofNat nk0.val) (Int32.ofNat nk1.val) (Int32.ofNat nk2.val) (Int32.ofNat nk3.val) (own_pre (nK.val + 1) nk0.val nk1.val nk2.val nk3.val) 3 ((nK.val + 1) + 1)) = (0 : Int32)) := by decide +kernel
theorem own_fo4 : ∀ nK : Fin 4, ∀ nk0 nk1 nk2 nk3 : Fin 4, nk0.val < nK.val + 1 ∧ nk1.val < nK.val + 1 ∧ nk2.val < nK.val + 1 ∧ nk3.val < nK.val + 1 → ¬ ((fn2 (4 : Int32) (Int32.ofNat (nK.val + 1)) (Int32.ofNat nk0.val) (Int32.ofNat nk1.val) (Int32.ofNat nk2.val) (Int32.ofNat nk3.val) (own_pre (nK.val + 1) nk0.val nk1.val nk2.val nk3.val) 4 ((nK.val + 1) + 1)) = (0 : Int32)) := by decide +kernel
theorem own_rk0 : ∀ nk0 nk1 nk2 nk3 : Fin 4, (fn3 (Int32.ofNat nk0.val) (Int32.ofNat nk0.val) (Int32.ofNat nk1.val) (Int32.ofNat nk2.val) (Int32.ofNat nk3.val)).toInt = ((own_rank0 nk0.val nk1.val nk2.val nk3.val : Nat) : Int) ∧ own_rank0 nk0.val nk1.val nk2.val nk3.val < 4 := by decide +kernel
theorem own_rk1 : ∀ nk0 nk1 nk2 nk3 : Fin 4, ((fn3 (Int32.ofNat nk1.val) (Int32.ofNat nk0.val) (Int32.ofNat nk1.val) (Int32.ofNat nk2.val) (Int32.ofNat nk3.val)) + (fn5 (Int32.ofNat nk0.val) (Int32.ofNat nk1.val))).toInt = ((own_rank1 nk0.val nk1.val nk2.val nk3.val : Nat) : Int) ∧ own_rank1 nk0.val nk1.val nk2.val nk3.val < 4 := by decide +kernel
theorem own_rk2 : ∀ nk0 nk1 nk2 nk3 : Fin 4, (((fn3 (Int32.ofNat nk2.val) (Int32.ofNat nk0.val) (Int32.ofNat nk1.val) (Int32.ofNat nk2.val) (Int32.ofNat nk3.val)) + (fn5 (Int32.ofNat nk0.val) (Int32.ofNat nk2.val))) + (fn5 (Int32.ofNat nk1.val) (Int32.ofNat nk2.val))).toInt = ((own_rank2 nk0.val nk1.val nk2.val nk3.val : Nat) : Int) ∧ own_rank2 nk0.val nk1.val nk2.val nk3.val < 4 := by decide +kernel
theorem own_rk3 : ∀ nk0 nk1 nk2 nk3 : Fin 4, ((((fn3 (Int32.ofNat nk3.val) (Int32.ofNat nk0.val) (Int32.ofNat nk1.val) (Int32.ofNat nk2.val) (Int32.ofNat nk3.val)) + (fn5 (Int32.ofNat nk0.val) (Int32.ofNat nk3.val))) + (fn5 (Int32.ofNat nk1.val) (Int32.ofNat nk3.val))) + (fn5 (Int32.ofNat nk2.val) (Int32.ofNat nk3.val))).toInt = ((own_rank3 nk0.val nk1.val nk2.val nk3.val : Nat) : Int) ∧ own_rank3 nk0.val nk1.val nk2.val nk3.val < 4 := by decide +kernel
theorem ef0 (m : MethodId) (pa : Int32) (pb : Int32) (pc0 : Int32) (pd : Int32) (pp : Int32) (pk : Int32) : entryFrame m #[(.int pa), (.int pb), (.int pc0), (.int pd), (.int pp), (.int pk)] maxLocals = mkF m 0 #[.val (.int pa), .val (.int pb), .val (.int pc0), .val (.int pd), .val (.int pp), .val (.int pk), .unset, .unset, .unset, .unset, .unset, .unset, .unset, .unset, .unset, .unset, .unset, .unset, .unset, .unset] [] := by first | (simp [entryFrame, mkF, argsToLocals, Value.category, maxLocals]; done) | rfl
def Q0 (Z : State) (pa : Int32) (pb : Int32) (pc0 : Int32) (pd : Int32) (pp : Int32) (pk : Int32) (h0 : Heap) (n0 : Nat) (v : Option Value) (h : Heap) (L : List Loc) : Prop := v = some (.int (1 : Int32)) ∧ Fr n0 L
set_option maxRecDepth 65536 in
set_option maxHeartbeats 40000000 in
theorem rm0 (l : Launch) (Z : State) (a0 : Array Value) (hw : ∀ d ∈ tables_1, d.before a0 Z = true) (ws : List Jvm.Cond) (pa : Int32) (pb : Int32) (pc0 : Int32) (pd : Int32) (pp : Int32) (pk : Int32) (h0 : Heap) (n0 : Nat) (Z0 : n0 ≤ h0.size) :
    MetFree l x (head1 (Jvm.Cond.code x code maxLocals ret :: ws) room_1) (fun a U => a = #[(.int pa), (.int pb), (.int pc0), (.int pd), (.int pp), (.int pk)] ∧ Z.Warmed39 U.vm ∧ U.heap = h0) (fun _ _ _ _ _ => True) (fun _ U o U' => ∃ v L, o = .returned v ∧ Q0 Z pa pb pc0 pd pp pk h0 n0 v U'.heap L ∧ FrameEnd U o U' L room_1.cells room_1.slots) := by
  refine MetFree.of_bodySF (plainFor_of_name pn_1) hisR ?_
  intro p e s m args below meth c s₁ Bd hml0 hP hK
  obtain ⟨rfl, hZ, hh⟩ := hP
  have hx := Bd.exec
  have hby := Bd.bytes
  have hml : c.maxLocals = 20 := hml0
  have hown : s.vm.findClass "com/example/xml_graph_join/xmlgraphjoin/graph/CountingSortSortPinLaw" = some m.cls := findClass_of_methodNamed Bd.named
  have hnm := (name_of_methodNamed Bd.named Bd.method).1
  have X0 : Stand p l e room_1 s m #[(.int pa), (.int pb), (.int pc0), (.int pd), (.int pp), (.int pk)] below meth c s₁ [] 0 0 := Stand.of_body Bd
  have e0 : s₁.heap = h0 := by rw [← hh, Bd.state]; rfl
  have N0 := Fr.nil n0
  refine Goes.by (fun _ k => castTop (ef0 m pa pb pc0 pd pp pk) k) ?_
  show Goes p.tables e below (s₁.setTop (mkF m 0 #[.val (.int pa), .val (.int pb), .val (.int pc0), .val (.int pd), .val (.int pp), .val (.int pk), .unset, .unset, .unset, .unset, .unset, .unset, .unset, .unset, .unset, .unset, .unset, .unset, .unset, .unset] [])) _
  refine Goes.by (fun _ k => XS.iconst X0.here hx rfl (hb hby at_0) k) ?_
  show Goes p.tables e below (s₁.setTop (mkF m 1 #[.val (.int pa), .val (.int pb), .val (.int pc0), .val (.int pd), .val (.int pp), .val (.int pk), .unset, .unset, .unset, .unset, .unset, .unset, .unset, .unset, .unset, .unset, .unset, .unset, .unset, .unset] [(.int (1 : Int32))])) _
  refine Goes.by (fun _ k => XS.iload X0.here hx rfl (hb hby at_1) rfl k) ?_
  show Goes p.tables e below (s₁.setTop (mkF m 3 #[.val (.int pa), .val (.int pb), .val (.int pc0), .val (.int pd), .val (.int pp), .val (.int pk), .unset, .unset, .unset, .unset, .unset, .unset, .unset, .unset, .unset, .unset, .unset, .unset, .unset, .unset] [(.int pk), (.int (1 : Int32))])) _
  refine Goes.by (fun _ k => XS.iconst X0.here hx rfl (hb hby at_3) k) ?_
  show Goes p.tables e below (s₁.setTop (mkF m 4 #[.val (.int pa), .val (.int pb), .val (.int pc0), .val (.int pd), .val (.int pp), .val (.int pk), .unset, .unset, .unset, .unset, .unset, .unset, .unset, .unset, .unset, .unset, .unset, .unset, .unset, .unset] [(.int (3 : Int32)), (.int pk), (.int (1 : Int32))])) _
  refine Goes.by (fun _ k => XS.iand X0.here hx rfl (hb hby at_4) rfl k) ?_
  show Goes p.tables e below (s₁.setTop (mkF m 5 #[.val (.int pa), .val (.int pb), .val (.int pc0), .val (.int pd), .val (.int pp), .val (.int pk), .unset, .unset, .unset, .unset, .unset, .unset, .unset, .unset, .unset, .unset, .unset, .unset, .unset, .unset] [(.int (pk &&& (3 : Int32))), (.int (1 : Int32))])) _
  refine Goes.by (fun _ k => XS.iadd X0.here hx rfl (hb hby at_5) rfl k) ?_
  show Goes p.tables e below (s₁.setTop (mkF m 6 #[.val (.int pa), .val (.int pb), .val (.int pc0), .val (.int pd), .val (.int pp), .val (.int pk), .unset, .unset, .unset, .unset, .unset, .unset, .unset, .unset, .unset, .unset, .unset, .unset, .unset, .unset] [(.int ((1 : Int32) + (pk &&& (3 : Int32))))])) _
  obtain ⟨x1, hx1⟩ : ∃ z : Int32, z = ((1 : Int32) + (pk &&& (3 : Int32))) := ⟨_, rfl⟩
  refine Goes.by (fun _ k => XS.istore X0.here hx rfl (hb hby at_6) rfl (l' := #[.val (.int pa), .val (.int pb), .val (.int pc0), .val (.int pd), .val (.int pp), .val (.int pk), .val (.int x1), .unset, .unset, .unset, .unset, .unset, .unset, .unset, .unset, .unset, .unset, .unset, .unset, .unset]) (by rw [hx1]; rfl) k) ?_
  show Goes p.tables e below (s₁.setTop (mkF m 8 #[.val (.int pa), .val (.int pb), .val (.int pc0), .val (.int pd), .val (.int pp), .val (.int pk), .val (.int x1), .unset, .unset, .unset, .unset, .unset, .unset, .unset, .unset, .unset, .unset, .unset, .unset, .unset] [])) _
  refine Goes.by (fun _ k => XS.iload X0.here hx rfl (hb hby at_8) rfl k) ?_
  show Goes p.tables e below (s₁.setTop (mkF m 10 #[.val (.int pa), .val (.int pb), .val (.int pc0), .val (.int pd), .val (.int pp), .val (.int pk), .val (.int x1), .unset, .unset, .unset, .unset, .unset, .unset, .unset, .unset, .unset, .unset, .unset, .unset, .unset] [(.int pp)])) _
  refine Goes.by (fun _ k => XS.sipush X0.here hx rfl (hb hby at_10) k) ?_
  show Goes p.tables e below (s₁.setTop (mkF m 13 #[.val (.int pa), .val (.int pb), .val (.int pc0), .val (.int pd), .val (.int pp), .val (.int pk), .val (.int x1), .unset, .unset, .unset, .unset, .unset, .unset, .unset, .unset, .unset, .unset, .unset, .unset, .unset] [(.int (255 : Int32)), (.int pp)])) _
  refine Goes.by (fun _ k => XS.iand X0.here hx rfl (hb hby at_13) rfl k) ?_
  show Goes p.tables e below (s₁.setTop (mkF m 14 #[.val (.int pa), .val (.int pb), .val (.int pc0), .val (.int pd), .val (.int pp), .val (.int pk), .val (.int x1), .unset, .unset, .unset, .unset, .unset, .unset, .unset, .unset, .unset, .unset, .unset, .unset, .unset] [(.int (pp &&& (255 : Int32)))])) _
  refine Goes.by (fun _ k => XS.iload X0.here hx rfl (hb hby at_14) rfl k) ?_
  show Goes p.tables e below (s₁.setTop (mkF m 16 #[.val (.int pa), .val (.int pb), .val (.int pc0), .val (.int pd), .val (.int pp), .val (.int pk), .val (.int x1), .unset, .unset, .unset, .unset, .unset, .unset, .unset, .unset, .unset, .unset, .unset, .unset, .unset] [(.int x1), (.int (pp &&& (255 : Int32)))])) _
  refine Goes.by (fun _ k => iremM X0 hx rfl (hb hby at_16) rfl (own_nz pk _ hx1) k) ?_
  show Goes p.tables e below (s₁.setTop (mkF m 17 #[.val (.int pa), .val (.int pb), .val (.int pc0), .val (.int pd), .val (.int pp), .val (.int pk), .val (.int x1), .unset, .unset, .unset, .unset, .unset, .unset, .unset, .unset, .unset, .unset, .unset, .unset, .unset] [(.int ((pp &&& (255 : Int32)) % x1))])) _
  obtain ⟨x2, hx2⟩ : ∃ z : Int32, z = ((pp &&& (255 : Int32)) % x1) := ⟨_, rfl⟩
  refine Goes.by (fun _ k => XS.istore X0.here hx rfl (hb hby at_17) rfl (l' := #[.val (.int pa), .val (.int pb), .val (.int pc0), .val (.int pd), .val (.int pp), .val (.int pk), .val (.int x1), .val (.int x2), .unset, .unset, .unset, .unset, .unset, .unset, .unset, .unset, .unset, .unset, .unset, .unset]) (by rw [hx2]; rfl) k) ?_
  show Goes p.tables e below (s₁.setTop (mkF m 19 #[.val (.int pa), .val (.int pb), .val (.int pc0), .val (.int pd), .val (.int pp), .val (.int pk), .val (.int x1), .val (.int x2), .unset, .unset, .unset, .unset, .unset, .unset, .unset, .unset, .unset, .unset, .unset, .unset] [])) _
  refine Goes.by (fun _ k => XS.iload X0.here hx rfl (hb hby at_19) rfl k) ?_
  show Goes p.tables e below (s₁.setTop (mkF m 21 #[.val (.int pa), .val (.int pb), .val (.int pc0), .val (.int pd), .val (.int pp), .val (.int pk), .val (.int x1), .val (.int x2), .unset, .unset, .unset, .unset, .unset, .unset, .unset, .unset, .unset, .unset, .unset, .unset] [(.int pp)])) _
  refine Goes.by (fun _ k => XS.bipush X0.here hx rfl (hb hby at_21) k) ?_
  show Goes p.tables e below (s₁.setTop (mkF m 23 #[.val (.int pa), .val (.int pb), .val (.int pc0), .val (.int pd), .val (.int pp), .val (.int pk), .val (.int x1), .val (.int x2), .unset, .unset, .unset, .unset, .unset, .unset, .unset, .unset, .unset, .unset, .unset, .unset] [(.int (8 : Int32)), (.int pp)])) _
  refine Goes.by (fun _ k => XS.iushr X0.here hx rfl (hb hby at_23) rfl k) ?_
  show Goes p.tables e below (s₁.setTop (mkF m 24 #[.val (.int pa), .val (.int pb), .val (.int pc0), .val (.int pd), .val (.int pp), .val (.int pk), .val (.int x1), .val (.int x2), .unset, .unset, .unset, .unset, .unset, .unset, .unset, .unset, .unset, .unset, .unset, .unset] [(.int ((pp.toUInt32 >>> ((8 : Int32) &&& 31).toUInt32).toInt32))])) _
  refine Goes.by (fun _ k => XS.sipush X0.here hx rfl (hb hby at_24) k) ?_
  show Goes p.tables e below (s₁.setTop (mkF m 27 #[.val (.int pa), .val (.int pb), .val (.int pc0), .val (.int pd), .val (.int pp), .val (.int pk), .val (.int x1), .val (.int x2), .unset, .unset, .unset, .unset, .unset, .unset, .unset, .unset, .unset, .unset, .unset, .unset] [(.int (255 : Int32)), (.int ((pp.toUInt32 >>> ((8 : Int32) &&& 31).toUInt32).toInt32))])) _
  refine Goes.by (fun _ k => XS.iand X0.here hx rfl (hb hby at_27) rfl k) ?_
  show Goes p.tables e below (s₁.setTop (mkF m 28 #[.val (.int pa), .val (.int pb), .val (.int pc0), .val (.int pd), .val (.int pp), .val (.int pk), .val (.int x1), .val (.int x2), .unset, .unset, .unset, .unset, .unset, .unset, .unset, .unset, .unset, .unset, .unset, .unset] [(.int (((pp.toUInt32 >>> ((8 : Int32) &&& 31).toUInt32).toInt32) &&& (255 : Int32)))])) _
  refine Goes.by (fun _ k => XS.iload X0.here hx rfl (hb hby at_28) rfl k) ?_
  show Goes p.tables e below (s₁.setTop (mkF m 30 #[.val (.int pa), .val (.int pb), .val (.int pc0), .val (.int pd), .val (.int pp), .val (.int pk), .val (.int x1), .val (.int x2), .unset, .unset, .unset, .unset, .unset, .unset, .unset, .unset, .unset, .unset, .unset, .unset] [(.int x1), (.int (((pp.toUInt32 >>> ((8 : Int32) &&& 31).toUInt32).toInt32) &&& (255 : Int32)))])) _
  refine Goes.by (fun _ k => iremM X0 hx rfl (hb hby at_30) rfl (own_nz pk _ hx1) k) ?_
  show Goes p.tables e below (s₁.setTop (mkF m 31 #[.val (.int pa), .val (.int pb), .val (.int pc0), .val (.int pd), .val (.int pp), .val (.int pk), .val (.int x1), .val (.int x2), .unset, .unset, .unset, .unset, .unset, .unset, .unset, .unset, .unset, .unset, .unset, .unset] [(.int ((((pp.toUInt32 >>> ((8 : Int32) &&& 31).toUInt32).toInt32) &&& (255 : Int32)) % x1))])) _
  obtain ⟨x3, hx3⟩ : ∃ z : Int32, z = ((((pp.toUInt32 >>> ((8 : Int32) &&& 31).toUInt32).toInt32) &&& (255 : Int32)) % x1) := ⟨_, rfl⟩
  refine Goes.by (fun _ k => XS.istore X0.here hx rfl (hb hby at_31) rfl (l' := #[.val (.int pa), .val (.int pb), .val (.int pc0), .val (.int pd), .val (.int pp), .val (.int pk), .val (.int x1), .val (.int x2), .val (.int x3), .unset, .unset, .unset, .unset, .unset, .unset, .unset, .unset, .unset, .unset, .unset]) (by rw [hx3]; rfl) k) ?_
  show Goes p.tables e below (s₁.setTop (mkF m 33 #[.val (.int pa), .val (.int pb), .val (.int pc0), .val (.int pd), .val (.int pp), .val (.int pk), .val (.int x1), .val (.int x2), .val (.int x3), .unset, .unset, .unset, .unset, .unset, .unset, .unset, .unset, .unset, .unset, .unset] [])) _
  refine Goes.by (fun _ k => XS.iload X0.here hx rfl (hb hby at_33) rfl k) ?_
  show Goes p.tables e below (s₁.setTop (mkF m 35 #[.val (.int pa), .val (.int pb), .val (.int pc0), .val (.int pd), .val (.int pp), .val (.int pk), .val (.int x1), .val (.int x2), .val (.int x3), .unset, .unset, .unset, .unset, .unset, .unset, .unset, .unset, .unset, .unset, .unset] [(.int pp)])) _
  refine Goes.by (fun _ k => XS.bipush X0.here hx rfl (hb hby at_35) k) ?_
  show Goes p.tables e below (s₁.setTop (mkF m 37 #[.val (.int pa), .val (.int pb), .val (.int pc0), .val (.int pd), .val (.int pp), .val (.int pk), .val (.int x1), .val (.int x2), .val (.int x3), .unset, .unset, .unset, .unset, .unset, .unset, .unset, .unset, .unset, .unset, .unset] [(.int (16 : Int32)), (.int pp)])) _
  refine Goes.by (fun _ k => XS.iushr X0.here hx rfl (hb hby at_37) rfl k) ?_
  show Goes p.tables e below (s₁.setTop (mkF m 38 #[.val (.int pa), .val (.int pb), .val (.int pc0), .val (.int pd), .val (.int pp), .val (.int pk), .val (.int x1), .val (.int x2), .val (.int x3), .unset, .unset, .unset, .unset, .unset, .unset, .unset, .unset, .unset, .unset, .unset] [(.int ((pp.toUInt32 >>> ((16 : Int32) &&& 31).toUInt32).toInt32))])) _
  refine Goes.by (fun _ k => XS.sipush X0.here hx rfl (hb hby at_38) k) ?_
  show Goes p.tables e below (s₁.setTop (mkF m 41 #[.val (.int pa), .val (.int pb), .val (.int pc0), .val (.int pd), .val (.int pp), .val (.int pk), .val (.int x1), .val (.int x2), .val (.int x3), .unset, .unset, .unset, .unset, .unset, .unset, .unset, .unset, .unset, .unset, .unset] [(.int (255 : Int32)), (.int ((pp.toUInt32 >>> ((16 : Int32) &&& 31).toUInt32).toInt32))])) _
  refine Goes.by (fun _ k => XS.iand X0.here hx rfl (hb hby at_41) rfl k) ?_
  show Goes p.tables e below (s₁.setTop (mkF m 42 #[.val (.int pa), .val (.int pb), .val (.int pc0), .val (.int pd), .val (.int pp), .val (.int pk), .val (.int x1), .val (.int x2), .val (.int x3), .unset, .unset, .unset, .unset, .unset, .unset, .unset, .unset, .unset, .unset, .unset] [(.int (((pp.toUInt32 >>> ((16 : Int32) &&& 31).toUInt32).toInt32) &&& (255 : Int32)))])) _
  refine Goes.by (fun _ k => XS.iload X0.here hx rfl (hb hby at_42) rfl k) ?_
  show Goes p.tables e below (s₁.setTop (mkF m 44 #[.val (.int pa), .val (.int pb), .val (.int pc0), .val (.int pd), .val (.int pp), .val (.int pk), .val (.int x1), .val (.int x2), .val (.int x3), .unset, .unset, .unset, .unset, .unset, .unset, .unset, .unset, .unset, .unset, .unset] [(.int x1), (.int (((pp.toUInt32 >>> ((16 : Int32) &&& 31).toUInt32).toInt32) &&& (255 : Int32)))])) _
  refine Goes.by (fun _ k => iremM X0 hx rfl (hb hby at_44) rfl (own_nz pk _ hx1) k) ?_
  show Goes p.tables e below (s₁.setTop (mkF m 45 #[.val (.int pa), .val (.int pb), .val (.int pc0), .val (.int pd), .val (.int pp), .val (.int pk), .val (.int x1), .val (.int x2), .val (.int x3), .unset, .unset, .unset, .unset, .unset, .unset, .unset, .unset, .unset, .unset, .unset] [(.int ((((pp.toUInt32 >>> ((16 : Int32) &&& 31).toUInt32).toInt32) &&& (255 : Int32)) % x1))])) _
  obtain ⟨x4, hx4⟩ : ∃ z : Int32, z = ((((pp.toUInt32 >>> ((16 : Int32) &&& 31).toUInt32).toInt32) &&& (255 : Int32)) % x1) := ⟨_, rfl⟩
  refine Goes.by (fun _ k => XS.istore X0.here hx rfl (hb hby at_45) rfl (l' := #[.val (.int pa), .val (.int pb), .val (.int pc0), .val (.int pd), .val (.int pp), .val (.int pk), .val (.int x1), .val (.int x2), .val (.int x3), .val (.int x4), .unset, .unset, .unset, .unset, .unset, .unset, .unset, .unset, .unset, .unset]) (by rw [hx4]; rfl) k) ?_
  show Goes p.tables e below (s₁.setTop (mkF m 47 #[.val (.int pa), .val (.int pb), .val (.int pc0), .val (.int pd), .val (.int pp), .val (.int pk), .val (.int x1), .val (.int x2), .val (.int x3), .val (.int x4), .unset, .unset, .unset, .unset, .unset, .unset, .unset, .unset, .unset, .unset] [])) _
  refine Goes.by (fun _ k => XS.iload X0.here hx rfl (hb hby at_47) rfl k) ?_
  show Goes p.tables e below (s₁.setTop (mkF m 49 #[.val (.int pa), .val (.int pb), .val (.int pc0), .val (.int pd), .val (.int pp), .val (.int pk), .val (.int x1), .val (.int x2), .val (.int x3), .val (.int x4), .unset, .unset, .unset, .unset, .unset, .unset, .unset, .unset, .unset, .unset] [(.int pp)])) _
  refine Goes.by (fun _ k => XS.bipush X0.here hx rfl (hb hby at_49) k) ?_
  show Goes p.tables e below (s₁.setTop (mkF m 51 #[.val (.int pa), .val (.int pb), .val (.int pc0), .val (.int pd), .val (.int pp), .val (.int pk), .val (.int x1), .val (.int x2), .val (.int x3), .val (.int x4), .unset, .unset, .unset, .unset, .unset, .unset, .unset, .unset, .unset, .unset] [(.int (24 : Int32)), (.int pp)])) _
  refine Goes.by (fun _ k => XS.iushr X0.here hx rfl (hb hby at_51) rfl k) ?_
  show Goes p.tables e below (s₁.setTop (mkF m 52 #[.val (.int pa), .val (.int pb), .val (.int pc0), .val (.int pd), .val (.int pp), .val (.int pk), .val (.int x1), .val (.int x2), .val (.int x3), .val (.int x4), .unset, .unset, .unset, .unset, .unset, .unset, .unset, .unset, .unset, .unset] [(.int ((pp.toUInt32 >>> ((24 : Int32) &&& 31).toUInt32).toInt32))])) _
  refine Goes.by (fun _ k => XS.sipush X0.here hx rfl (hb hby at_52) k) ?_
  show Goes p.tables e below (s₁.setTop (mkF m 55 #[.val (.int pa), .val (.int pb), .val (.int pc0), .val (.int pd), .val (.int pp), .val (.int pk), .val (.int x1), .val (.int x2), .val (.int x3), .val (.int x4), .unset, .unset, .unset, .unset, .unset, .unset, .unset, .unset, .unset, .unset] [(.int (255 : Int32)), (.int ((pp.toUInt32 >>> ((24 : Int32) &&& 31).toUInt32).toInt32))])) _
  refine Goes.by (fun _ k => XS.iand X0.here hx rfl (hb hby at_55) rfl k) ?_
  show Goes p.tables e below (s₁.setTop (mkF m 56 #[.val (.int pa), .val (.int pb), .val (.int pc0), .val (.int pd), .val (.int pp), .val (.int pk), .val (.int x1), .val (.int x2), .val (.int x3), .val (.int x4), .unset, .unset, .unset, .unset, .unset, .unset, .unset, .unset, .unset, .unset] [(.int (((pp.toUInt32 >>> ((24 : Int32) &&& 31).toUInt32).toInt32) &&& (255 : Int32)))])) _
  refine Goes.by (fun _ k => XS.iload X0.here hx rfl (hb hby at_56) rfl k) ?_
  show Goes p.tables e below (s₁.setTop (mkF m 58 #[.val (.int pa), .val (.int pb), .val (.int pc0), .val (.int pd), .val (.int pp), .val (.int pk), .val (.int x1), .val (.int x2), .val (.int x3), .val (.int x4), .unset, .unset, .unset, .unset, .unset, .unset, .unset, .unset, .unset, .unset] [(.int x1), (.int (((pp.toUInt32 >>> ((24 : Int32) &&& 31).toUInt32).toInt32) &&& (255 : Int32)))])) _
  refine Goes.by (fun _ k => iremM X0 hx rfl (hb hby at_58) rfl (own_nz pk _ hx1) k) ?_
  show Goes p.tables e below (s₁.setTop (mkF m 59 #[.val (.int pa), .val (.int pb), .val (.int pc0), .val (.int pd), .val (.int pp), .val (.int pk), .val (.int x1), .val (.int x2), .val (.int x3), .val (.int x4), .unset, .unset, .unset, .unset, .unset, .unset, .unset, .unset, .unset, .unset] [(.int ((((pp.toUInt32 >>> ((24 : Int32) &&& 31).toUInt32).toInt32) &&& (255 : Int32)) % x1))])) _
  obtain ⟨x5, hx5⟩ : ∃ z : Int32, z = ((((pp.toUInt32 >>> ((24 : Int32) &&& 31).toUInt32).toInt32) &&& (255 : Int32)) % x1) := ⟨_, rfl⟩
  refine Goes.by (fun _ k => XS.istore X0.here hx rfl (hb hby at_59) rfl (l' := #[.val (.int pa), .val (.int pb), .val (.int pc0), .val (.int pd), .val (.int pp), .val (.int pk), .val (.int x1), .val (.int x2), .val (.int x3), .val (.int x4), .val (.int x5), .unset, .unset, .unset, .unset, .unset, .unset, .unset, .unset, .unset]) (by rw [hx5]; rfl) k) ?_
  show Goes p.tables e below (s₁.setTop (mkF m 61 #[.val (.int pa), .val (.int pb), .val (.int pc0), .val (.int pd), .val (.int pp), .val (.int pk), .val (.int x1), .val (.int x2), .val (.int x3), .val (.int x4), .val (.int x5), .unset, .unset, .unset, .unset, .unset, .unset, .unset, .unset, .unset] [])) _
  obtain ⟨nK, hK, hxK⟩ := own_kc pk x1 hx1
  have hK1 : x1.toInt = (nK : Int) := by rw [hxK]; exact own_i0 nK (by omega)
  obtain ⟨nk0, hnk0, rfl⟩ : ∃ n : Nat, n < nK ∧ x2 = Int32.ofNat n := own_nat nK (by omega) (by omega) _ _ _ hK1 hx2
  obtain ⟨nk1, hnk1, rfl⟩ : ∃ n : Nat, n < nK ∧ x3 = Int32.ofNat n := own_nat nK (by omega) (by omega) _ _ _ hK1 hx3
  obtain ⟨nk2, hnk2, rfl⟩ : ∃ n : Nat, n < nK ∧ x4 = Int32.ofNat n := own_nat nK (by omega) (by omega) _ _ _ hK1 hx4
  obtain ⟨nk3, hnk3, rfl⟩ : ∃ n : Nat, n < nK ∧ x5 = Int32.ofNat n := own_nat nK (by omega) (by omega) _ _ _ hK1 hx5
  have hb0 : nk0 < 4 := by omega
  have hb1 : nk1 < 4 := by omega
  have hb2 : nk2 < 4 := by omega
  have hb3 : nk3 < 4 := by omega
  have hK4 : nK - 1 < 4 := by omega
  have hK8 : nK < 8 := by omega
  have hKe : nK - 1 + 1 = nK := by omega
  have hKp : nk0 < nK - 1 + 1 ∧ nk1 < nK - 1 + 1 ∧ nk2 < nK - 1 + 1 ∧ nk3 < nK - 1 + 1 := by omega
  show Goes p.tables e below (s₁.setTop (mkF m 61 #[.val (.int pa), .val (.int pb), .val (.int pc0), .val (.int pd), .val (.int pp), .val (.int pk), .val (.int x1), .val (.int (Int32.ofNat nk0)), .val (.int (Int32.ofNat nk1)), .val (.int (Int32.ofNat nk2)), .val (.int (Int32.ofNat nk3)), .unset, .unset, .unset, .unset, .unset, .unset, .unset, .unset, .unset] [])) _
  refine Goes.by (fun _ k => XS.iconst X0.here hx rfl (hb hby at_61) k) ?_
  show Goes p.tables e below (s₁.setTop (mkF m 62 #[.val (.int pa), .val (.int pb), .val (.int pc0), .val (.int pd), .val (.int pp), .val (.int pk), .val (.int x1), .val (.int (Int32.ofNat nk0)), .val (.int (Int32.ofNat nk1)), .val (.int (Int32.ofNat nk2)), .val (.int (Int32.ofNat nk3)), .unset, .unset, .unset, .unset, .unset, .unset, .unset, .unset, .unset] [(.int (4 : Int32))])) _
  obtain ⟨T6, h6, X6, e6, E6, A6, st6⟩ := nwA (n := 4) (cap := 4) (fr := (mkF m 62 #[.val (.int pa), .val (.int pb), .val (.int pc0), .val (.int pd), .val (.int pp), .val (.int pk), .val (.int x1), .val (.int (Int32.ofNat nk0)), .val (.int (Int32.ofNat nk1)), .val (.int (Int32.ofNat nk2)), .val (.int (Int32.ofNat nk3)), .unset, .unset, .unset, .unset, .unset, .unset, .unset, .unset, .unset] [(.int (4 : Int32))])) X0 hx hZ (hw _ (List.mem_of_getElem? (i := 0) rfl)) e0 (by decide) (by decide) (by decide) (by decide) (by decide) rfl rfl (hb hby at_62)
  obtain ⟨b6, g6⟩ : ∃ z, z = h0.size := ⟨_, rfl⟩
  rw [← g6] at A6 st6
  have g_b6 : n0 ≤ b6 := Nat.le_trans Z0 (Nat.le_of_eq g6.symm)
  have sz_b6 : h0.size ≤ b6 := Nat.le_trans (Keep.refl h0 []).1 (Nat.le_of_eq g6.symm)
  have Zs6 : n0 ≤ h6.size := Nat.le_trans Z0 E6.1
  have K6 : Keep h0 h6 [] := (Keep.refl h0 []).ext E6
  refine Goes.by st6 ?_
  have A_b6 : AI Z h6 b6 .int 4 (fun _ => (0 : Int32)) := A6
  show Goes p.tables e below (T6.setTop (mkF m 64 #[.val (.int pa), .val (.int pb), .val (.int pc0), .val (.int pd), .val (.int pp), .val (.int pk), .val (.int x1), .val (.int (Int32.ofNat nk0)), .val (.int (Int32.ofNat nk1)), .val (.int (Int32.ofNat nk2)), .val (.int (Int32.ofNat nk3)), .unset, .unset, .unset, .unset, .unset, .unset, .unset, .unset, .unset] [(.ref b6)])) _
  refine Goes.by (fun _ k => XS.dup X6.here hx rfl (hb hby at_64) rfl rfl k) ?_
  show Goes p.tables e below (T6.setTop (mkF m 65 #[.val (.int pa), .val (.int pb), .val (.int pc0), .val (.int pd), .val (.int pp), .val (.int pk), .val (.int x1), .val (.int (Int32.ofNat nk0)), .val (.int (Int32.ofNat nk1)), .val (.int (Int32.ofNat nk2)), .val (.int (Int32.ofNat nk3)), .unset, .unset, .unset, .unset, .unset, .unset, .unset, .unset, .unset] [(.ref b6), (.ref b6)])) _
  refine Goes.by (fun _ k => XS.iconst X6.here hx rfl (hb hby at_65) k) ?_
  show Goes p.tables e below (T6.setTop (mkF m 66 #[.val (.int pa), .val (.int pb), .val (.int pc0), .val (.int pd), .val (.int pp), .val (.int pk), .val (.int x1), .val (.int (Int32.ofNat nk0)), .val (.int (Int32.ofNat nk1)), .val (.int (Int32.ofNat nk2)), .val (.int (Int32.ofNat nk3)), .unset, .unset, .unset, .unset, .unset, .unset, .unset, .unset, .unset] [(.int (0 : Int32)), (.ref b6), (.ref b6)])) _
  refine Goes.by (fun _ k => XS.iloadN X6.here hx rfl (hb hby at_66) rfl k) ?_
  show Goes p.tables e below (T6.setTop (mkF m 67 #[.val (.int pa), .val (.int pb), .val (.int pc0), .val (.int pd), .val (.int pp), .val (.int pk), .val (.int x1), .val (.int (Int32.ofNat nk0)), .val (.int (Int32.ofNat nk1)), .val (.int (Int32.ofNat nk2)), .val (.int (Int32.ofNat nk3)), .unset, .unset, .unset, .unset, .unset, .unset, .unset, .unset, .unset] [(.int pa), (.int (0 : Int32)), (.ref b6), (.ref b6)])) _
  obtain ⟨T7, h7, X7, e7, W7, A7, st7⟩ := stAI (fr := (mkF m 67 #[.val (.int pa), .val (.int pb), .val (.int pc0), .val (.int pd), .val (.int pp), .val (.int pk), .val (.int x1), .val (.int (Int32.ofNat nk0)), .val (.int (Int32.ofNat nk1)), .val (.int (Int32.ofNat nk2)), .val (.int (Int32.ofNat nk3)), .unset, .unset, .unset, .unset, .unset, .unset, .unset, .unset, .unset] [(.int pa), (.int (0 : Int32)), (.ref b6), (.ref b6)])) X6 hx hZ e6 A_b6 (i := 0) (by decide) (by decide) rfl rfl (hb hby at_67)
  refine Goes.by st7 ?_
  have A_b6 : AI Z h7 b6 .int 4 (up (fun _ => (0 : Int32)) 0 pa) := A7
  have N7 := Fr.snoc X7 N0 g_b6
  have Zs7 : n0 ≤ h7.size := Nat.le_trans Zs6 (Keep.of_wr W7).1
  have K7 : Keep h0 h7 [] := K6.wr W7 (Or.inr sz_b6)
  show Goes p.tables e below (T7.setTop (mkF m 68 #[.val (.int pa), .val (.int pb), .val (.int pc0), .val (.int pd), .val (.int pp), .val (.int pk), .val (.int x1), .val (.int (Int32.ofNat nk0)), .val (.int (Int32.ofNat nk1)), .val (.int (Int32.ofNat nk2)), .val (.int (Int32.ofNat nk3)), .unset, .unset, .unset, .unset, .unset, .unset, .unset, .unset, .unset] [(.ref b6)])) _
  refine Goes.by (fun _ k => XS.dup X7.here hx rfl (hb hby at_68) rfl rfl k) ?_
  show Goes p.tables e below (T7.setTop (mkF m 69 #[.val (.int pa), .val (.int pb), .val (.int pc0), .val (.int pd), .val (.int pp), .val (.int pk), .val (.int x1), .val (.int (Int32.ofNat nk0)), .val (.int (Int32.ofNat nk1)), .val (.int (Int32.ofNat nk2)), .val (.int (Int32.ofNat nk3)), .unset, .unset, .unset, .unset, .unset, .unset, .unset, .unset, .unset] [(.ref b6), (.ref b6)])) _
  refine Goes.by (fun _ k => XS.iconst X7.here hx rfl (hb hby at_69) k) ?_
  show Goes p.tables e below (T7.setTop (mkF m 70 #[.val (.int pa), .val (.int pb), .val (.int pc0), .val (.int pd), .val (.int pp), .val (.int pk), .val (.int x1), .val (.int (Int32.ofNat nk0)), .val (.int (Int32.ofNat nk1)), .val (.int (Int32.ofNat nk2)), .val (.int (Int32.ofNat nk3)), .unset, .unset, .unset, .unset, .unset, .unset, .unset, .unset, .unset] [(.int (1 : Int32)), (.ref b6), (.ref b6)])) _
  refine Goes.by (fun _ k => XS.iloadN X7.here hx rfl (hb hby at_70) rfl k) ?_
  show Goes p.tables e below (T7.setTop (mkF m 71 #[.val (.int pa), .val (.int pb), .val (.int pc0), .val (.int pd), .val (.int pp), .val (.int pk), .val (.int x1), .val (.int (Int32.ofNat nk0)), .val (.int (Int32.ofNat nk1)), .val (.int (Int32.ofNat nk2)), .val (.int (Int32.ofNat nk3)), .unset, .unset, .unset, .unset, .unset, .unset, .unset, .unset, .unset] [(.int pb), (.int (1 : Int32)), (.ref b6), (.ref b6)])) _
  obtain ⟨T8, h8, X8, e8, W8, A8, st8⟩ := stAI (fr := (mkF m 71 #[.val (.int pa), .val (.int pb), .val (.int pc0), .val (.int pd), .val (.int pp), .val (.int pk), .val (.int x1), .val (.int (Int32.ofNat nk0)), .val (.int (Int32.ofNat nk1)), .val (.int (Int32.ofNat nk2)), .val (.int (Int32.ofNat nk3)), .unset, .unset, .unset, .unset, .unset, .unset, .unset, .unset, .unset] [(.int pb), (.int (1 : Int32)), (.ref b6), (.ref b6)])) X7 hx hZ e7 A_b6 (i := 1) (by decide) (by decide) rfl rfl (hb hby at_71)
  refine Goes.by st8 ?_
  have A_b6 : AI Z h8 b6 .int 4 (up (up (fun _ => (0 : Int32)) 0 pa) 1 pb) := A8
  have N8 := Fr.snoc X8 N7 g_b6
  have Zs8 : n0 ≤ h8.size := Nat.le_trans Zs7 (Keep.of_wr W8).1
  have K8 : Keep h0 h8 [] := K7.wr W8 (Or.inr sz_b6)
  show Goes p.tables e below (T8.setTop (mkF m 72 #[.val (.int pa), .val (.int pb), .val (.int pc0), .val (.int pd), .val (.int pp), .val (.int pk), .val (.int x1), .val (.int (Int32.ofNat nk0)), .val (.int (Int32.ofNat nk1)), .val (.int (Int32.ofNat nk2)), .val (.int (Int32.ofNat nk3)), .unset, .unset, .unset, .unset, .unset, .unset, .unset, .unset, .unset] [(.ref b6)])) _
  refine Goes.by (fun _ k => XS.dup X8.here hx rfl (hb hby at_72) rfl rfl k) ?_
  show Goes p.tables e below (T8.setTop (mkF m 73 #[.val (.int pa), .val (.int pb), .val (.int pc0), .val (.int pd), .val (.int pp), .val (.int pk), .val (.int x1), .val (.int (Int32.ofNat nk0)), .val (.int (Int32.ofNat nk1)), .val (.int (Int32.ofNat nk2)), .val (.int (Int32.ofNat nk3)), .unset, .unset, .unset, .unset, .unset, .unset, .unset, .unset, .unset] [(.ref b6), (.ref b6)])) _
  refine Goes.by (fun _ k => XS.iconst X8.here hx rfl (hb hby at_73) k) ?_
  show Goes p.tables e below (T8.setTop (mkF m 74 #[.val (.int pa), .val (.int pb), .val (.int pc0), .val (.int pd), .val (.int pp), .val (.int pk), .val (.int x1), .val (.int (Int32.ofNat nk0)), .val (.int (Int32.ofNat nk1)), .val (.int (Int32.ofNat nk2)), .val (.int (Int32.ofNat nk3)), .unset, .unset, .unset, .unset, .unset, .unset, .unset, .unset, .unset] [(.int (2 : Int32)), (.ref b6), (.ref b6)])) _
  refine Goes.by (fun _ k => XS.iloadN X8.here hx rfl (hb hby at_74) rfl k) ?_
  show Goes p.tables e below (T8.setTop (mkF m 75 #[.val (.int pa), .val (.int pb), .val (.int pc0), .val (.int pd), .val (.int pp), .val (.int pk), .val (.int x1), .val (.int (Int32.ofNat nk0)), .val (.int (Int32.ofNat nk1)), .val (.int (Int32.ofNat nk2)), .val (.int (Int32.ofNat nk3)), .unset, .unset, .unset, .unset, .unset, .unset, .unset, .unset, .unset] [(.int pc0), (.int (2 : Int32)), (.ref b6), (.ref b6)])) _
  obtain ⟨T9, h9, X9, e9, W9, A9, st9⟩ := stAI (fr := (mkF m 75 #[.val (.int pa), .val (.int pb), .val (.int pc0), .val (.int pd), .val (.int pp), .val (.int pk), .val (.int x1), .val (.int (Int32.ofNat nk0)), .val (.int (Int32.ofNat nk1)), .val (.int (Int32.ofNat nk2)), .val (.int (Int32.ofNat nk3)), .unset, .unset, .unset, .unset, .unset, .unset, .unset, .unset, .unset] [(.int pc0), (.int (2 : Int32)), (.ref b6), (.ref b6)])) X8 hx hZ e8 A_b6 (i := 2) (by decide) (by decide) rfl rfl (hb hby at_75)
  refine Goes.by st9 ?_
  have A_b6 : AI Z h9 b6 .int 4 (up (up (up (fun _ => (0 : Int32)) 0 pa) 1 pb) 2 pc0) := A9
  have N9 := Fr.snoc X9 N8 g_b6
  have Zs9 : n0 ≤ h9.size := Nat.le_trans Zs8 (Keep.of_wr W9).1
  have K9 : Keep h0 h9 [] := K8.wr W9 (Or.inr sz_b6)
  show Goes p.tables e below (T9.setTop (mkF m 76 #[.val (.int pa), .val (.int pb), .val (.int pc0), .val (.int pd), .val (.int pp), .val (.int pk), .val (.int x1), .val (.int (Int32.ofNat nk0)), .val (.int (Int32.ofNat nk1)), .val (.int (Int32.ofNat nk2)), .val (.int (Int32.ofNat nk3)), .unset, .unset, .unset, .unset, .unset, .unset, .unset, .unset, .unset] [(.ref b6)])) _
  refine Goes.by (fun _ k => XS.dup X9.here hx rfl (hb hby at_76) rfl rfl k) ?_
  show Goes p.tables e below (T9.setTop (mkF m 77 #[.val (.int pa), .val (.int pb), .val (.int pc0), .val (.int pd), .val (.int pp), .val (.int pk), .val (.int x1), .val (.int (Int32.ofNat nk0)), .val (.int (Int32.ofNat nk1)), .val (.int (Int32.ofNat nk2)), .val (.int (Int32.ofNat nk3)), .unset, .unset, .unset, .unset, .unset, .unset, .unset, .unset, .unset] [(.ref b6), (.ref b6)])) _
  refine Goes.by (fun _ k => XS.iconst X9.here hx rfl (hb hby at_77) k) ?_
  show Goes p.tables e below (T9.setTop (mkF m 78 #[.val (.int pa), .val (.int pb), .val (.int pc0), .val (.int pd), .val (.int pp), .val (.int pk), .val (.int x1), .val (.int (Int32.ofNat nk0)), .val (.int (Int32.ofNat nk1)), .val (.int (Int32.ofNat nk2)), .val (.int (Int32.ofNat nk3)), .unset, .unset, .unset, .unset, .unset, .unset, .unset, .unset, .unset] [(.int (3 : Int32)), (.ref b6), (.ref b6)])) _
  refine Goes.by (fun _ k => XS.iloadN X9.here hx rfl (hb hby at_78) rfl k) ?_
  show Goes p.tables e below (T9.setTop (mkF m 79 #[.val (.int pa), .val (.int pb), .val (.int pc0), .val (.int pd), .val (.int pp), .val (.int pk), .val (.int x1), .val (.int (Int32.ofNat nk0)), .val (.int (Int32.ofNat nk1)), .val (.int (Int32.ofNat nk2)), .val (.int (Int32.ofNat nk3)), .unset, .unset, .unset, .unset, .unset, .unset, .unset, .unset, .unset] [(.int pd), (.int (3 : Int32)), (.ref b6), (.ref b6)])) _
  obtain ⟨T10, h10, X10, e10, W10, A10, st10⟩ := stAI (fr := (mkF m 79 #[.val (.int pa), .val (.int pb), .val (.int pc0), .val (.int pd), .val (.int pp), .val (.int pk), .val (.int x1), .val (.int (Int32.ofNat nk0)), .val (.int (Int32.ofNat nk1)), .val (.int (Int32.ofNat nk2)), .val (.int (Int32.ofNat nk3)), .unset, .unset, .unset, .unset, .unset, .unset, .unset, .unset, .unset] [(.int pd), (.int (3 : Int32)), (.ref b6), (.ref b6)])) X9 hx hZ e9 A_b6 (i := 3) (by decide) (by decide) rfl rfl (hb hby at_79)
  refine Goes.by st10 ?_
  have A_b6 : AI Z h10 b6 .int 4 (up (up (up (up (fun _ => (0 : Int32)) 0 pa) 1 pb) 2 pc0) 3 pd) := A10
  have N10 := Fr.snoc X10 N9 g_b6
  have Zs10 : n0 ≤ h10.size := Nat.le_trans Zs9 (Keep.of_wr W10).1
  have K10 : Keep h0 h10 [] := K9.wr W10 (Or.inr sz_b6)
  show Goes p.tables e below (T10.setTop (mkF m 80 #[.val (.int pa), .val (.int pb), .val (.int pc0), .val (.int pd), .val (.int pp), .val (.int pk), .val (.int x1), .val (.int (Int32.ofNat nk0)), .val (.int (Int32.ofNat nk1)), .val (.int (Int32.ofNat nk2)), .val (.int (Int32.ofNat nk3)), .unset, .unset, .unset, .unset, .unset, .unset, .unset, .unset, .unset] [(.ref b6)])) _
  refine Goes.by (fun _ k => XS.astore X10.here hx rfl (hb hby at_80) rfl rfl (l' := #[.val (.int pa), .val (.int pb), .val (.int pc0), .val (.int pd), .val (.int pp), .val (.int pk), .val (.int x1), .val (.int (Int32.ofNat nk0)), .val (.int (Int32.ofNat nk1)), .val (.int (Int32.ofNat nk2)), .val (.int (Int32.ofNat nk3)), .val (.ref b6), .unset, .unset, .unset, .unset, .unset, .unset, .unset, .unset]) rfl k) ?_
  show Goes p.tables e below (T10.setTop (mkF m 82 #[.val (.int pa), .val (.int pb), .val (.int pc0), .val (.int pd), .val (.int pp), .val (.int pk), .val (.int x1), .val (.int (Int32.ofNat nk0)), .val (.int (Int32.ofNat nk1)), .val (.int (Int32.ofNat nk2)), .val (.int (Int32.ofNat nk3)), .val (.ref b6), .unset, .unset, .unset, .unset, .unset, .unset, .unset, .unset] [])) _
  refine Goes.by (fun _ k => XS.iconst X10.here hx rfl (hb hby at_82) k) ?_
  show Goes p.tables e below (T10.setTop (mkF m 83 #[.val (.int pa), .val (.int pb), .val (.int pc0), .val (.int pd), .val (.int pp), .val (.int pk), .val (.int x1), .val (.int (Int32.ofNat nk0)), .val (.int (Int32.ofNat nk1)), .val (.int (Int32.ofNat nk2)), .val (.int (Int32.ofNat nk3)), .val (.ref b6), .unset, .unset, .unset, .unset, .unset, .unset, .unset, .unset] [(.int (4 : Int32))])) _
  obtain ⟨T11, h11, X11, e11, E11, A11, st11⟩ := nwA (n := 4) (cap := 4) (fr := (mkF m 83 #[.val (.int pa), .val (.int pb), .val (.int pc0), .val (.int pd), .val (.int pp), .val (.int pk), .val (.int x1), .val (.int (Int32.ofNat nk0)), .val (.int (Int32.ofNat nk1)), .val (.int (Int32.ofNat nk2)), .val (.int (Int32.ofNat nk3)), .val (.ref b6), .unset, .unset, .unset, .unset, .unset, .unset, .unset, .unset] [(.int (4 : Int32))])) X10 hx hZ (hw _ (List.mem_of_getElem? (i := 0) rfl)) e10 (by decide) (by decide) (by decide) (by decide) (by decide) rfl rfl (hb hby at_83)
  obtain ⟨b11, g11⟩ : ∃ z, z = h10.size := ⟨_, rfl⟩
  rw [← g11] at A11 st11
  have g_b11 : n0 ≤ b11 := Nat.le_trans Zs10 (Nat.le_of_eq g11.symm)
  have sz_b11 : h0.size ≤ b11 := Nat.le_trans K10.1 (Nat.le_of_eq g11.symm)
  have ne_b6_b11 : b6 ≠ b11 := Nat.ne_of_lt (Nat.lt_of_lt_of_le A_b6.lt (Nat.le_of_eq g11.symm))
  have Zs11 : n0 ≤ h11.size := Nat.le_trans Zs10 E11.1
  have K11 : Keep h0 h11 [] := K10.ext E11
  refine Goes.by st11 ?_
  have A_b6 : AI Z h11 b6 .int 4 (up (up (up (up (fun _ => (0 : Int32)) 0 pa) 1 pb) 2 pc0) 3 pd) := A_b6.ext E11
  have A_b11 : AI Z h11 b11 .int 4 (fun _ => (0 : Int32)) := A11
  show Goes p.tables e below (T11.setTop (mkF m 85 #[.val (.int pa), .val (.int pb), .val (.int pc0), .val (.int pd), .val (.int pp), .val (.int pk), .val (.int x1), .val (.int (Int32.ofNat nk0)), .val (.int (Int32.ofNat nk1)), .val (.int (Int32.ofNat nk2)), .val (.int (Int32.ofNat nk3)), .val (.ref b6), .unset, .unset, .unset, .unset, .unset, .unset, .unset, .unset] [(.ref b11)])) _
  refine Goes.by (fun _ k => XS.dup X11.here hx rfl (hb hby at_85) rfl rfl k) ?_
  show Goes p.tables e below (T11.setTop (mkF m 86 #[.val (.int pa), .val (.int pb), .val (.int pc0), .val (.int pd), .val (.int pp), .val (.int pk), .val (.int x1), .val (.int (Int32.ofNat nk0)), .val (.int (Int32.ofNat nk1)), .val (.int (Int32.ofNat nk2)), .val (.int (Int32.ofNat nk3)), .val (.ref b6), .unset, .unset, .unset, .unset, .unset, .unset, .unset, .unset] [(.ref b11), (.ref b11)])) _
  refine Goes.by (fun _ k => XS.iconst X11.here hx rfl (hb hby at_86) k) ?_
  show Goes p.tables e below (T11.setTop (mkF m 87 #[.val (.int pa), .val (.int pb), .val (.int pc0), .val (.int pd), .val (.int pp), .val (.int pk), .val (.int x1), .val (.int (Int32.ofNat nk0)), .val (.int (Int32.ofNat nk1)), .val (.int (Int32.ofNat nk2)), .val (.int (Int32.ofNat nk3)), .val (.ref b6), .unset, .unset, .unset, .unset, .unset, .unset, .unset, .unset] [(.int (0 : Int32)), (.ref b11), (.ref b11)])) _
  refine Goes.by (fun _ k => XS.iload X11.here hx rfl (hb hby at_87) rfl k) ?_
  show Goes p.tables e below (T11.setTop (mkF m 89 #[.val (.int pa), .val (.int pb), .val (.int pc0), .val (.int pd), .val (.int pp), .val (.int pk), .val (.int x1), .val (.int (Int32.ofNat nk0)), .val (.int (Int32.ofNat nk1)), .val (.int (Int32.ofNat nk2)), .val (.int (Int32.ofNat nk3)), .val (.ref b6), .unset, .unset, .unset, .unset, .unset, .unset, .unset, .unset] [(.int (Int32.ofNat nk0)), (.int (0 : Int32)), (.ref b11), (.ref b11)])) _
  obtain ⟨T12, h12, X12, e12, W12, A12, st12⟩ := stAI (fr := (mkF m 89 #[.val (.int pa), .val (.int pb), .val (.int pc0), .val (.int pd), .val (.int pp), .val (.int pk), .val (.int x1), .val (.int (Int32.ofNat nk0)), .val (.int (Int32.ofNat nk1)), .val (.int (Int32.ofNat nk2)), .val (.int (Int32.ofNat nk3)), .val (.ref b6), .unset, .unset, .unset, .unset, .unset, .unset, .unset, .unset] [(.int (Int32.ofNat nk0)), (.int (0 : Int32)), (.ref b11), (.ref b11)])) X11 hx hZ e11 A_b11 (i := 0) (by decide) (by decide) rfl rfl (hb hby at_89)
  refine Goes.by st12 ?_
  have A_b11 : AI Z h12 b11 .int 4 (up (fun _ => (0 : Int32)) 0 (Int32.ofNat nk0)) := A12
  have N12 := Fr.snoc X12 N10 g_b11
  have Zs12 : n0 ≤ h12.size := Nat.le_trans Zs11 (Keep.of_wr W12).1
  have K12 : Keep h0 h12 [] := K11.wr W12 (Or.inr sz_b11)
  have A_b6 : AI Z h12 b6 .int 4 (up (up (up (up (fun _ => (0 : Int32)) 0 pa) 1 pb) 2 pc0) 3 pd) := A_b6.other W12 ne_b6_b11
  show Goes p.tables e below (T12.setTop (mkF m 90 #[.val (.int pa), .val (.int pb), .val (.int pc0), .val (.int pd), .val (.int pp), .val (.int pk), .val (.int x1), .val (.int (Int32.ofNat nk0)), .val (.int (Int32.ofNat nk1)), .val (.int (Int32.ofNat nk2)), .val (.int (Int32.ofNat nk3)), .val (.ref b6), .unset, .unset, .unset, .unset, .unset, .unset, .unset, .unset] [(.ref b11)])) _
  refine Goes.by (fun _ k => XS.dup X12.here hx rfl (hb hby at_90) rfl rfl k) ?_
  show Goes p.tables e below (T12.setTop (mkF m 91 #[.val (.int pa), .val (.int pb), .val (.int pc0), .val (.int pd), .val (.int pp), .val (.int pk), .val (.int x1), .val (.int (Int32.ofNat nk0)), .val (.int (Int32.ofNat nk1)), .val (.int (Int32.ofNat nk2)), .val (.int (Int32.ofNat nk3)), .val (.ref b6), .unset, .unset, .unset, .unset, .unset, .unset, .unset, .unset] [(.ref b11), (.ref b11)])) _
  refine Goes.by (fun _ k => XS.iconst X12.here hx rfl (hb hby at_91) k) ?_
  show Goes p.tables e below (T12.setTop (mkF m 92 #[.val (.int pa), .val (.int pb), .val (.int pc0), .val (.int pd), .val (.int pp), .val (.int pk), .val (.int x1), .val (.int (Int32.ofNat nk0)), .val (.int (Int32.ofNat nk1)), .val (.int (Int32.ofNat nk2)), .val (.int (Int32.ofNat nk3)), .val (.ref b6), .unset, .unset, .unset, .unset, .unset, .unset, .unset, .unset] [(.int (1 : Int32)), (.ref b11), (.ref b11)])) _
  refine Goes.by (fun _ k => XS.iload X12.here hx rfl (hb hby at_92) rfl k) ?_
  show Goes p.tables e below (T12.setTop (mkF m 94 #[.val (.int pa), .val (.int pb), .val (.int pc0), .val (.int pd), .val (.int pp), .val (.int pk), .val (.int x1), .val (.int (Int32.ofNat nk0)), .val (.int (Int32.ofNat nk1)), .val (.int (Int32.ofNat nk2)), .val (.int (Int32.ofNat nk3)), .val (.ref b6), .unset, .unset, .unset, .unset, .unset, .unset, .unset, .unset] [(.int (Int32.ofNat nk1)), (.int (1 : Int32)), (.ref b11), (.ref b11)])) _
  obtain ⟨T13, h13, X13, e13, W13, A13, st13⟩ := stAI (fr := (mkF m 94 #[.val (.int pa), .val (.int pb), .val (.int pc0), .val (.int pd), .val (.int pp), .val (.int pk), .val (.int x1), .val (.int (Int32.ofNat nk0)), .val (.int (Int32.ofNat nk1)), .val (.int (Int32.ofNat nk2)), .val (.int (Int32.ofNat nk3)), .val (.ref b6), .unset, .unset, .unset, .unset, .unset, .unset, .unset, .unset] [(.int (Int32.ofNat nk1)), (.int (1 : Int32)), (.ref b11), (.ref b11)])) X12 hx hZ e12 A_b11 (i := 1) (by decide) (by decide) rfl rfl (hb hby at_94)
  refine Goes.by st13 ?_
  have A_b11 : AI Z h13 b11 .int 4 (up (up (fun _ => (0 : Int32)) 0 (Int32.ofNat nk0)) 1 (Int32.ofNat nk1)) := A13
  have N13 := Fr.snoc X13 N12 g_b11
  have Zs13 : n0 ≤ h13.size := Nat.le_trans Zs12 (Keep.of_wr W13).1
  have K13 : Keep h0 h13 [] := K12.wr W13 (Or.inr sz_b11)
  have A_b6 : AI Z h13 b6 .int 4 (up (up (up (up (fun _ => (0 : Int32)) 0 pa) 1 pb) 2 pc0) 3 pd) := A_b6.other W13 ne_b6_b11
  show Goes p.tables e below (T13.setTop (mkF m 95 #[.val (.int pa), .val (.int pb), .val (.int pc0), .val (.int pd), .val (.int pp), .val (.int pk), .val (.int x1), .val (.int (Int32.ofNat nk0)), .val (.int (Int32.ofNat nk1)), .val (.int (Int32.ofNat nk2)), .val (.int (Int32.ofNat nk3)), .val (.ref b6), .unset, .unset, .unset, .unset, .unset, .unset, .unset, .unset] [(.ref b11)])) _
  refine Goes.by (fun _ k => XS.dup X13.here hx rfl (hb hby at_95) rfl rfl k) ?_
  show Goes p.tables e below (T13.setTop (mkF m 96 #[.val (.int pa), .val (.int pb), .val (.int pc0), .val (.int pd), .val (.int pp), .val (.int pk), .val (.int x1), .val (.int (Int32.ofNat nk0)), .val (.int (Int32.ofNat nk1)), .val (.int (Int32.ofNat nk2)), .val (.int (Int32.ofNat nk3)), .val (.ref b6), .unset, .unset, .unset, .unset, .unset, .unset, .unset, .unset] [(.ref b11), (.ref b11)])) _
  refine Goes.by (fun _ k => XS.iconst X13.here hx rfl (hb hby at_96) k) ?_
  show Goes p.tables e below (T13.setTop (mkF m 97 #[.val (.int pa), .val (.int pb), .val (.int pc0), .val (.int pd), .val (.int pp), .val (.int pk), .val (.int x1), .val (.int (Int32.ofNat nk0)), .val (.int (Int32.ofNat nk1)), .val (.int (Int32.ofNat nk2)), .val (.int (Int32.ofNat nk3)), .val (.ref b6), .unset, .unset, .unset, .unset, .unset, .unset, .unset, .unset] [(.int (2 : Int32)), (.ref b11), (.ref b11)])) _
  refine Goes.by (fun _ k => XS.iload X13.here hx rfl (hb hby at_97) rfl k) ?_
  show Goes p.tables e below (T13.setTop (mkF m 99 #[.val (.int pa), .val (.int pb), .val (.int pc0), .val (.int pd), .val (.int pp), .val (.int pk), .val (.int x1), .val (.int (Int32.ofNat nk0)), .val (.int (Int32.ofNat nk1)), .val (.int (Int32.ofNat nk2)), .val (.int (Int32.ofNat nk3)), .val (.ref b6), .unset, .unset, .unset, .unset, .unset, .unset, .unset, .unset] [(.int (Int32.ofNat nk2)), (.int (2 : Int32)), (.ref b11), (.ref b11)])) _
  obtain ⟨T14, h14, X14, e14, W14, A14, st14⟩ := stAI (fr := (mkF m 99 #[.val (.int pa), .val (.int pb), .val (.int pc0), .val (.int pd), .val (.int pp), .val (.int pk), .val (.int x1), .val (.int (Int32.ofNat nk0)), .val (.int (Int32.ofNat nk1)), .val (.int (Int32.ofNat nk2)), .val (.int (Int32.ofNat nk3)), .val (.ref b6), .unset, .unset, .unset, .unset, .unset, .unset, .unset, .unset] [(.int (Int32.ofNat nk2)), (.int (2 : Int32)), (.ref b11), (.ref b11)])) X13 hx hZ e13 A_b11 (i := 2) (by decide) (by decide) rfl rfl (hb hby at_99)
  refine Goes.by st14 ?_
  have A_b11 : AI Z h14 b11 .int 4 (up (up (up (fun _ => (0 : Int32)) 0 (Int32.ofNat nk0)) 1 (Int32.ofNat nk1)) 2 (Int32.ofNat nk2)) := A14
  have N14 := Fr.snoc X14 N13 g_b11
  have Zs14 : n0 ≤ h14.size := Nat.le_trans Zs13 (Keep.of_wr W14).1
  have K14 : Keep h0 h14 [] := K13.wr W14 (Or.inr sz_b11)
  have A_b6 : AI Z h14 b6 .int 4 (up (up (up (up (fun _ => (0 : Int32)) 0 pa) 1 pb) 2 pc0) 3 pd) := A_b6.other W14 ne_b6_b11
  show Goes p.tables e below (T14.setTop (mkF m 100 #[.val (.int pa), .val (.int pb), .val (.int pc0), .val (.int pd), .val (.int pp), .val (.int pk), .val (.int x1), .val (.int (Int32.ofNat nk0)), .val (.int (Int32.ofNat nk1)), .val (.int (Int32.ofNat nk2)), .val (.int (Int32.ofNat nk3)), .val (.ref b6), .unset, .unset, .unset, .unset, .unset, .unset, .unset, .unset] [(.ref b11)])) _
  refine Goes.by (fun _ k => XS.dup X14.here hx rfl (hb hby at_100) rfl rfl k) ?_
  show Goes p.tables e below (T14.setTop (mkF m 101 #[.val (.int pa), .val (.int pb), .val (.int pc0), .val (.int pd), .val (.int pp), .val (.int pk), .val (.int x1), .val (.int (Int32.ofNat nk0)), .val (.int (Int32.ofNat nk1)), .val (.int (Int32.ofNat nk2)), .val (.int (Int32.ofNat nk3)), .val (.ref b6), .unset, .unset, .unset, .unset, .unset, .unset, .unset, .unset] [(.ref b11), (.ref b11)])) _
  refine Goes.by (fun _ k => XS.iconst X14.here hx rfl (hb hby at_101) k) ?_
  show Goes p.tables e below (T14.setTop (mkF m 102 #[.val (.int pa), .val (.int pb), .val (.int pc0), .val (.int pd), .val (.int pp), .val (.int pk), .val (.int x1), .val (.int (Int32.ofNat nk0)), .val (.int (Int32.ofNat nk1)), .val (.int (Int32.ofNat nk2)), .val (.int (Int32.ofNat nk3)), .val (.ref b6), .unset, .unset, .unset, .unset, .unset, .unset, .unset, .unset] [(.int (3 : Int32)), (.ref b11), (.ref b11)])) _
  refine Goes.by (fun _ k => XS.iload X14.here hx rfl (hb hby at_102) rfl k) ?_
  show Goes p.tables e below (T14.setTop (mkF m 104 #[.val (.int pa), .val (.int pb), .val (.int pc0), .val (.int pd), .val (.int pp), .val (.int pk), .val (.int x1), .val (.int (Int32.ofNat nk0)), .val (.int (Int32.ofNat nk1)), .val (.int (Int32.ofNat nk2)), .val (.int (Int32.ofNat nk3)), .val (.ref b6), .unset, .unset, .unset, .unset, .unset, .unset, .unset, .unset] [(.int (Int32.ofNat nk3)), (.int (3 : Int32)), (.ref b11), (.ref b11)])) _
  obtain ⟨T15, h15, X15, e15, W15, A15, st15⟩ := stAI (fr := (mkF m 104 #[.val (.int pa), .val (.int pb), .val (.int pc0), .val (.int pd), .val (.int pp), .val (.int pk), .val (.int x1), .val (.int (Int32.ofNat nk0)), .val (.int (Int32.ofNat nk1)), .val (.int (Int32.ofNat nk2)), .val (.int (Int32.ofNat nk3)), .val (.ref b6), .unset, .unset, .unset, .unset, .unset, .unset, .unset, .unset] [(.int (Int32.ofNat nk3)), (.int (3 : Int32)), (.ref b11), (.ref b11)])) X14 hx hZ e14 A_b11 (i := 3) (by decide) (by decide) rfl rfl (hb hby at_104)
  refine Goes.by st15 ?_
  have A_b11 : AI Z h15 b11 .int 4 (up (up (up (up (fun _ => (0 : Int32)) 0 (Int32.ofNat nk0)) 1 (Int32.ofNat nk1)) 2 (Int32.ofNat nk2)) 3 (Int32.ofNat nk3)) := A15
  have N15 := Fr.snoc X15 N14 g_b11
  have Zs15 : n0 ≤ h15.size := Nat.le_trans Zs14 (Keep.of_wr W15).1
  have K15 : Keep h0 h15 [] := K14.wr W15 (Or.inr sz_b11)
  have A_b6 : AI Z h15 b6 .int 4 (up (up (up (up (fun _ => (0 : Int32)) 0 pa) 1 pb) 2 pc0) 3 pd) := A_b6.other W15 ne_b6_b11
  show Goes p.tables e below (T15.setTop (mkF m 105 #[.val (.int pa), .val (.int pb), .val (.int pc0), .val (.int pd), .val (.int pp), .val (.int pk), .val (.int x1), .val (.int (Int32.ofNat nk0)), .val (.int (Int32.ofNat nk1)), .val (.int (Int32.ofNat nk2)), .val (.int (Int32.ofNat nk3)), .val (.ref b6), .unset, .unset, .unset, .unset, .unset, .unset, .unset, .unset] [(.ref b11)])) _
  refine Goes.by (fun _ k => XS.astore X15.here hx rfl (hb hby at_105) rfl rfl (l' := #[.val (.int pa), .val (.int pb), .val (.int pc0), .val (.int pd), .val (.int pp), .val (.int pk), .val (.int x1), .val (.int (Int32.ofNat nk0)), .val (.int (Int32.ofNat nk1)), .val (.int (Int32.ofNat nk2)), .val (.int (Int32.ofNat nk3)), .val (.ref b6), .val (.ref b11), .unset, .unset, .unset, .unset, .unset, .unset, .unset]) rfl k) ?_
  show Goes p.tables e below (T15.setTop (mkF m 107 #[.val (.int pa), .val (.int pb), .val (.int pc0), .val (.int pd), .val (.int pp), .val (.int pk), .val (.int x1), .val (.int (Int32.ofNat nk0)), .val (.int (Int32.ofNat nk1)), .val (.int (Int32.ofNat nk2)), .val (.int (Int32.ofNat nk3)), .val (.ref b6), .val (.ref b11), .unset, .unset, .unset, .unset, .unset, .unset, .unset] [])) _
  refine Goes.by (fun _ k => XS.iconst X15.here hx rfl (hb hby at_107) k) ?_
  show Goes p.tables e below (T15.setTop (mkF m 108 #[.val (.int pa), .val (.int pb), .val (.int pc0), .val (.int pd), .val (.int pp), .val (.int pk), .val (.int x1), .val (.int (Int32.ofNat nk0)), .val (.int (Int32.ofNat nk1)), .val (.int (Int32.ofNat nk2)), .val (.int (Int32.ofNat nk3)), .val (.ref b6), .val (.ref b11), .unset, .unset, .unset, .unset, .unset, .unset, .unset] [(.int (4 : Int32))])) _
  obtain ⟨T16, h16, X16, e16, E16, A16, st16⟩ := nwA (n := 4) (cap := 4) (fr := (mkF m 108 #[.val (.int pa), .val (.int pb), .val (.int pc0), .val (.int pd), .val (.int pp), .val (.int pk), .val (.int x1), .val (.int (Int32.ofNat nk0)), .val (.int (Int32.ofNat nk1)), .val (.int (Int32.ofNat nk2)), .val (.int (Int32.ofNat nk3)), .val (.ref b6), .val (.ref b11), .unset, .unset, .unset, .unset, .unset, .unset, .unset] [(.int (4 : Int32))])) X15 hx hZ (hw _ (List.mem_of_getElem? (i := 0) rfl)) e15 (by decide) (by decide) (by decide) (by decide) (by decide) rfl rfl (hb hby at_108)
  obtain ⟨b16, g16⟩ : ∃ z, z = h15.size := ⟨_, rfl⟩
  rw [← g16] at A16 st16
  have g_b16 : n0 ≤ b16 := Nat.le_trans Zs15 (Nat.le_of_eq g16.symm)
  have sz_b16 : h0.size ≤ b16 := Nat.le_trans K15.1 (Nat.le_of_eq g16.symm)
  have ne_b6_b16 : b6 ≠ b16 := Nat.ne_of_lt (Nat.lt_of_lt_of_le A_b6.lt (Nat.le_of_eq g16.symm))
  have ne_b11_b16 : b11 ≠ b16 := Nat.ne_of_lt (Nat.lt_of_lt_of_le A_b11.lt (Nat.le_of_eq g16.symm))
  have Zs16 : n0 ≤ h16.size := Nat.le_trans Zs15 E16.1
  have K16 : Keep h0 h16 [] := K15.ext E16
  refine Goes.by st16 ?_
  have A_b6 : AI Z h16 b6 .int 4 (up (up (up (up (fun _ => (0 : Int32)) 0 pa) 1 pb) 2 pc0) 3 pd) := A_b6.ext E16
  have A_b11 : AI Z h16 b11 .int 4 (up (up (up (up (fun _ => (0 : Int32)) 0 (Int32.ofNat nk0)) 1 (Int32.ofNat nk1)) 2 (Int32.ofNat nk2)) 3 (Int32.ofNat nk3)) := A_b11.ext E16
  have A_b16 : AI Z h16 b16 .int 4 (fun _ => (0 : Int32)) := A16
  show Goes p.tables e below (T16.setTop (mkF m 110 #[.val (.int pa), .val (.int pb), .val (.int pc0), .val (.int pd), .val (.int pp), .val (.int pk), .val (.int x1), .val (.int (Int32.ofNat nk0)), .val (.int (Int32.ofNat nk1)), .val (.int (Int32.ofNat nk2)), .val (.int (Int32.ofNat nk3)), .val (.ref b6), .val (.ref b11), .unset, .unset, .unset, .unset, .unset, .unset, .unset] [(.ref b16)])) _
  refine Goes.by (fun _ k => XS.astore X16.here hx rfl (hb hby at_110) rfl rfl (l' := #[.val (.int pa), .val (.int pb), .val (.int pc0), .val (.int pd), .val (.int pp), .val (.int pk), .val (.int x1), .val (.int (Int32.ofNat nk0)), .val (.int (Int32.ofNat nk1)), .val (.int (Int32.ofNat nk2)), .val (.int (Int32.ofNat nk3)), .val (.ref b6), .val (.ref b11), .val (.ref b16), .unset, .unset, .unset, .unset, .unset, .unset]) rfl k) ?_
  show Goes p.tables e below (T16.setTop (mkF m 112 #[.val (.int pa), .val (.int pb), .val (.int pc0), .val (.int pd), .val (.int pp), .val (.int pk), .val (.int x1), .val (.int (Int32.ofNat nk0)), .val (.int (Int32.ofNat nk1)), .val (.int (Int32.ofNat nk2)), .val (.int (Int32.ofNat nk3)), .val (.ref b6), .val (.ref b11), .val (.ref b16), .unset, .unset, .unset, .unset, .unset, .unset] [])) _
  refine Goes.by (fun _ k => XS.aload X16.here hx rfl (hb hby at_112) rfl rfl k) ?_
  show Goes p.tables e below (T16.setTop (mkF m 114 #[.val (.int pa), .val (.int pb), .val (.int pc0), .val (.int pd), .val (.int pp), .val (.int pk), .val (.int x1), .val (.int (Int32.ofNat nk0)), .val (.int (Int32.ofNat nk1)), .val (.int (Int32.ofNat nk2)), .val (.int (Int32.ofNat nk3)), .val (.ref b6), .val (.ref b11), .val (.ref b16), .unset, .unset, .unset, .unset, .unset, .unset] [(.ref b6)])) _
  refine Goes.by (fun _ k => XS.aload X16.here hx rfl (hb hby at_114) rfl rfl k) ?_
  show Goes p.tables e below (T16.setTop (mkF m 116 #[.val (.int pa), .val (.int pb), .val (.int pc0), .val (.int pd), .val (.int pp), .val (.int pk), .val (.int x1), .val (.int (Int32.ofNat nk0)), .val (.int (Int32.ofNat nk1)), .val (.int (Int32.ofNat nk2)), .val (.int (Int32.ofNat nk3)), .val (.ref b6), .val (.ref b11), .val (.ref b16), .unset, .unset, .unset, .unset, .unset, .unset] [(.ref b11), (.ref b6)])) _
  refine Goes.by (fun _ k => XS.iload X16.here hx rfl (hb hby at_116) rfl k) ?_
  show Goes p.tables e below (T16.setTop (mkF m 118 #[.val (.int pa), .val (.int pb), .val (.int pc0), .val (.int pd), .val (.int pp), .val (.int pk), .val (.int x1), .val (.int (Int32.ofNat nk0)), .val (.int (Int32.ofNat nk1)), .val (.int (Int32.ofNat nk2)), .val (.int (Int32.ofNat nk3)), .val (.ref b6), .val (.ref b11), .val (.ref b16), .unset, .unset, .unset, .unset, .unset, .unset] [(.int x1), (.ref b11), (.ref b6)])) _
  refine Goes.by (fun _ k => XS.aload X16.here hx rfl (hb hby at_118) rfl rfl k) ?_
  show Goes p.tables e below (T16.setTop (mkF m 120 #[.val (.int pa), .val (.int pb), .val (.int pc0), .val (.int pd), .val (.int pp), .val (.int pk), .val (.int x1), .val (.int (Int32.ofNat nk0)), .val (.int (Int32.ofNat nk1)), .val (.int (Int32.ofNat nk2)), .val (.int (Int32.ofNat nk3)), .val (.ref b6), .val (.ref b11), .val (.ref b16), .unset, .unset, .unset, .unset, .unset, .unset] [(.ref b16), (.int x1), (.ref b11), (.ref b6)])) _
  obtain ⟨_, _, ⟨T17, L17, k17, n17⟩, -, X17, ⟨Lc17, hQ17, l17, y17, z17⟩, st17⟩ := Jvm.LawKit.callS X16 hx (y := (⟨"com/example/xml_graph_join/xmlgraphjoin/graph/CountingSort", "sort", "([I[II[I)[I"⟩ : MethodName)) hown (mvT hZ (hw _ (List.mem_of_getElem? (i := 1) rfl))) (mvT hZ (hw _ (List.mem_of_getElem? (i := 2) rfl))) (mvT hZ (hw _ (List.mem_of_getElem? (i := 3) rfl))) (mvT hZ (hw _ (List.mem_of_getElem? (i := 4) rfl))) (by decide) (backOf (W := 0) (rm1w l Z a0 hw [] b6 b11 x1 b16 (up (up (up (up (fun _ => (0 : Int32)) 0 pa) 1 pb) 2 pc0) 3 pd) nk0 nk1 nk2 nk3 nK h16 n0 Zs16 A_b6 A_b11 A_b16 ne_b6_b16 ne_b11_b16 g_b16 (hnk0) (hnk1) (hnk2) (hnk3) (hK) (hxK)) hZ (hw _ (List.mem_of_getElem? (i := 4) rfl)) (hw _ (List.mem_of_getElem? (i := 3) rfl)) (by decide) (by decide)) (g := (mkF m 120 #[.val (.int pa), .val (.int pb), .val (.int pc0), .val (.int pd), .val (.int pp), .val (.int pk), .val (.int x1), .val (.int (Int32.ofNat nk0)), .val (.int (Int32.ofNat nk1)), .val (.int (Int32.ofNat nk2)), .val (.int (Int32.ofNat nk3)), .val (.ref b6), .val (.ref b11), .val (.ref b16), .unset, .unset, .unset, .unset, .unset, .unset] [(.ref b16), (.int x1), (.ref b11), (.ref b6)])) rfl (by rw [hml]; rfl) (argsL := [(.ref b6), (.ref b11), (.int x1), (.ref b16)]) (rest := []) (lenOf pd_2 rfl) rfl (by show 2 * 0 + _ ≤ _; exact Nat.le_of_eq rfl) (hb hby at_120) (fun _ _ => ⟨rfl, e16, (by decide : 3 + 2 ≤ _), (by decide : 12 + 9 ≤ _)⟩)
  dsimp only [Pt.U, Pt.locs, Pt.cells, Pt.slots] at X17 l17 y17 z17 st17 hQ17
  rw [l17, y17, z17] at X17
  obtain ⟨oz_17, rfl, N17q, Kq17, po17_0, po17_1, po17_2⟩ := hQ17
  have N17 := Fr.app N15 N17q
  refine Goes.by st17 ?_
  have Zs17 : n0 ≤ T17.heap.size := Nat.le_trans Zs16 Kq17.1
  have K17 : Keep h0 T17.heap [] := K16.trans Kq17 (allS (Or.inr sz_b16) all0)
  have lt17_b6 := A_b6.lt
  have lt17_b11 := A_b11.lt
  have lt17_b16 := A_b16.lt
  have sz_oz_17 : h0.size ≤ oz_17 := Nat.le_trans K16.1 po17_2
  have g_oz_17 : n0 ≤ oz_17 := Nat.le_trans Zs16 po17_2
  have ne_b6_oz_17 : b6 ≠ oz_17 := Nat.ne_of_lt (Nat.lt_of_lt_of_le lt17_b6 po17_2)
  have ne_b11_oz_17 : b11 ≠ oz_17 := Nat.ne_of_lt (Nat.lt_of_lt_of_le lt17_b11 po17_2)
  have ne_b16_oz_17 : b16 ≠ oz_17 := Nat.ne_of_lt (Nat.lt_of_lt_of_le lt17_b16 po17_2)
  have A_b6 : AI Z T17.heap b6 .int 4 (up (up (up (up (fun _ => (0 : Int32)) 0 pa) 1 pb) 2 pc0) 3 pd) := A_b6.keep Kq17 (ninS ne_b6_b16 nin0)
  have A_b11 : AI Z T17.heap b11 .int 4 (up (up (up (up (fun _ => (0 : Int32)) 0 (Int32.ofNat nk0)) 1 (Int32.ofNat nk1)) 2 (Int32.ofNat nk2)) 3 (Int32.ofNat nk3)) := A_b11.keep Kq17 (ninS ne_b11_b16 nin0)
  have A_oz_17 : AI Z T17.heap oz_17 .int (nK + 1) (own_pre nK nk0 nk1 nk2 nk3) := po17_0
  have A_b16 : AI Z T17.heap b16 .int 4 (up (up (up (up (fun _ => (0 : Int32)) (own_rank0 nk0 nk1 nk2 nk3) pa) (own_rank1 nk0 nk1 nk2 nk3) pb) (own_rank2 nk0 nk1 nk2 nk3) pc0) (own_rank3 nk0 nk1 nk2 nk3) pd) := po17_1
  show Goes p.tables e below (T17.setTop (mkF m 123 #[.val (.int pa), .val (.int pb), .val (.int pc0), .val (.int pd), .val (.int pp), .val (.int pk), .val (.int x1), .val (.int (Int32.ofNat nk0)), .val (.int (Int32.ofNat nk1)), .val (.int (Int32.ofNat nk2)), .val (.int (Int32.ofNat nk3)), .val (.ref b6), .val (.ref b11), .val (.ref b16), .unset, .unset, .unset, .unset, .unset, .unset] [(.ref oz_17)])) _
  refine Goes.by (fun _ k => XS.astore X17.here hx rfl (hb hby at_123) rfl rfl (l' := #[.val (.int pa), .val (.int pb), .val (.int pc0), .val (.int pd), .val (.int pp), .val (.int pk), .val (.int x1), .val (.int (Int32.ofNat nk0)), .val (.int (Int32.ofNat nk1)), .val (.int (Int32.ofNat nk2)), .val (.int (Int32.ofNat nk3)), .val (.ref b6), .val (.ref b11), .val (.ref b16), .val (.ref oz_17), .unset, .unset, .unset, .unset, .unset]) rfl k) ?_
  show Goes p.tables e below (T17.setTop (mkF m 125 #[.val (.int pa), .val (.int pb), .val (.int pc0), .val (.int pd), .val (.int pp), .val (.int pk), .val (.int x1), .val (.int (Int32.ofNat nk0)), .val (.int (Int32.ofNat nk1)), .val (.int (Int32.ofNat nk2)), .val (.int (Int32.ofNat nk3)), .val (.ref b6), .val (.ref b11), .val (.ref b16), .val (.ref oz_17), .unset, .unset, .unset, .unset, .unset] [])) _
  refine Goes.by (fun _ k => XS.aload X17.here hx rfl (hb hby at_125) rfl rfl k) ?_
  show Goes p.tables e below (T17.setTop (mkF m 127 #[.val (.int pa), .val (.int pb), .val (.int pc0), .val (.int pd), .val (.int pp), .val (.int pk), .val (.int x1), .val (.int (Int32.ofNat nk0)), .val (.int (Int32.ofNat nk1)), .val (.int (Int32.ofNat nk2)), .val (.int (Int32.ofNat nk3)), .val (.ref b6), .val (.ref b11), .val (.ref b16), .val (.ref oz_17), .unset, .unset, .unset, .unset, .unset] [(.ref oz_17)])) _
  refine Goes.by (fun _ k => XS.ifnullNo X17.here hx rfl (hb hby at_127) rfl k) ?_
  show Goes p.tables e below (T17.setTop (mkF m 130 #[.val (.int pa), .val (.int pb), .val (.int pc0), .val (.int pd), .val (.int pp), .val (.int pk), .val (.int x1), .val (.int (Int32.ofNat nk0)), .val (.int (Int32.ofNat nk1)), .val (.int (Int32.ofNat nk2)), .val (.int (Int32.ofNat nk3)), .val (.ref b6), .val (.ref b11), .val (.ref b16), .val (.ref oz_17), .unset, .unset, .unset, .unset, .unset] [])) _
  refine Goes.by (fun _ k => XS.aload X17.here hx rfl (hb hby at_130) rfl rfl k) ?_
  show Goes p.tables e below (T17.setTop (mkF m 132 #[.val (.int pa), .val (.int pb), .val (.int pc0), .val (.int pd), .val (.int pp), .val (.int pk), .val (.int x1), .val (.int (Int32.ofNat nk0)), .val (.int (Int32.ofNat nk1)), .val (.int (Int32.ofNat nk2)), .val (.int (Int32.ofNat nk3)), .val (.ref b6), .val (.ref b11), .val (.ref b16), .val (.ref oz_17), .unset, .unset, .unset, .unset, .unset] [(.ref oz_17)])) _
  refine Goes.by (fun _ k => alen (z := (x1 + (1 : Int32))) (fr := (mkF m 132 #[.val (.int pa), .val (.int pb), .val (.int pc0), .val (.int pd), .val (.int pp), .val (.int pk), .val (.int x1), .val (.int (Int32.ofNat nk0)), .val (.int (Int32.ofNat nk1)), .val (.int (Int32.ofNat nk2)), .val (.int (Int32.ofNat nk3)), .val (.ref b6), .val (.ref b11), .val (.ref b16), .val (.ref oz_17), .unset, .unset, .unset, .unset, .unset] [(.ref oz_17)])) X17 hx hZ rfl A_oz_17 (by rw [hxK]; exact own_i1 nK hK8) rfl rfl (hb hby at_132) k) ?_
  show Goes p.tables e below (T17.setTop (mkF m 133 #[.val (.int pa), .val (.int pb), .val (.int pc0), .val (.int pd), .val (.int pp), .val (.int pk), .val (.int x1), .val (.int (Int32.ofNat nk0)), .val (.int (Int32.ofNat nk1)), .val (.int (Int32.ofNat nk2)), .val (.int (Int32.ofNat nk3)), .val (.ref b6), .val (.ref b11), .val (.ref b16), .val (.ref oz_17), .unset, .unset, .unset, .unset, .unset] [(.int (x1 + (1 : Int32)))])) _
  refine Goes.by (fun _ k => XS.iload X17.here hx rfl (hb hby at_133) rfl k) ?_
  show Goes p.tables e below (T17.setTop (mkF m 135 #[.val (.int pa), .val (.int pb), .val (.int pc0), .val (.int pd), .val (.int pp), .val (.int pk), .val (.int x1), .val (.int (Int32.ofNat nk0)), .val (.int (Int32.ofNat nk1)), .val (.int (Int32.ofNat nk2)), .val (.int (Int32.ofNat nk3)), .val (.ref b6), .val (.ref b11), .val (.ref b16), .val (.ref oz_17), .unset, .unset, .unset, .unset, .unset] [(.int x1), (.int (x1 + (1 : Int32)))])) _
  refine Goes.by (fun _ k => XS.iconst X17.here hx rfl (hb hby at_135) k) ?_
  show Goes p.tables e below (T17.setTop (mkF m 136 #[.val (.int pa), .val (.int pb), .val (.int pc0), .val (.int pd), .val (.int pp), .val (.int pk), .val (.int x1), .val (.int (Int32.ofNat nk0)), .val (.int (Int32.ofNat nk1)), .val (.int (Int32.ofNat nk2)), .val (.int (Int32.ofNat nk3)), .val (.ref b6), .val (.ref b11), .val (.ref b16), .val (.ref oz_17), .unset, .unset, .unset, .unset, .unset] [(.int (1 : Int32)), (.int x1), (.int (x1 + (1 : Int32)))])) _
  refine Goes.by (fun _ k => XS.iadd X17.here hx rfl (hb hby at_136) rfl k) ?_
  show Goes p.tables e below (T17.setTop (mkF m 137 #[.val (.int pa), .val (.int pb), .val (.int pc0), .val (.int pd), .val (.int pp), .val (.int pk), .val (.int x1), .val (.int (Int32.ofNat nk0)), .val (.int (Int32.ofNat nk1)), .val (.int (Int32.ofNat nk2)), .val (.int (Int32.ofNat nk3)), .val (.ref b6), .val (.ref b11), .val (.ref b16), .val (.ref oz_17), .unset, .unset, .unset, .unset, .unset] [(.int (x1 + (1 : Int32))), (.int (x1 + (1 : Int32)))])) _
  refine Goes.by (fun _ k => XS.icmpYes X17.here hx rfl (pc0 := 137) (pc' := 142) rfl (hb hby at_137) rfl (teq (rfl : (x1 + (1 : Int32)) = (x1 + (1 : Int32)))).1 (by decide) (by decide) k) ?_
  show Goes p.tables e below (T17.setTop (mkF m 142 #[.val (.int pa), .val (.int pb), .val (.int pc0), .val (.int pd), .val (.int pp), .val (.int pk), .val (.int x1), .val (.int (Int32.ofNat nk0)), .val (.int (Int32.ofNat nk1)), .val (.int (Int32.ofNat nk2)), .val (.int (Int32.ofNat nk3)), .val (.ref b6), .val (.ref b11), .val (.ref b16), .val (.ref oz_17), .unset, .unset, .unset, .unset, .unset] [])) _
  refine Goes.by (fun _ k => XS.aload X17.here hx rfl (hb hby at_142) rfl rfl k) ?_
  show Goes p.tables e below (T17.setTop (mkF m 144 #[.val (.int pa), .val (.int pb), .val (.int pc0), .val (.int pd), .val (.int pp), .val (.int pk), .val (.int x1), .val (.int (Int32.ofNat nk0)), .val (.int (Int32.ofNat nk1)), .val (.int (Int32.ofNat nk2)), .val (.int (Int32.ofNat nk3)), .val (.ref b6), .val (.ref b11), .val (.ref b16), .val (.ref oz_17), .unset, .unset, .unset, .unset, .unset] [(.ref oz_17)])) _
  refine Goes.by (fun _ k => XS.iconst X17.here hx rfl (hb hby at_144) k) ?_
  show Goes p.tables e below (T17.setTop (mkF m 145 #[.val (.int pa), .val (.int pb), .val (.int pc0), .val (.int pd), .val (.int pp), .val (.int pk), .val (.int x1), .val (.int (Int32.ofNat nk0)), .val (.int (Int32.ofNat nk1)), .val (.int (Int32.ofNat nk2)), .val (.int (Int32.ofNat nk3)), .val (.ref b6), .val (.ref b11), .val (.ref b16), .val (.ref oz_17), .unset, .unset, .unset, .unset, .unset] [(.int (0 : Int32)), (.ref oz_17)])) _
  refine Goes.by (fun _ k => XS.iload X17.here hx rfl (hb hby at_145) rfl k) ?_
  show Goes p.tables e below (T17.setTop (mkF m 147 #[.val (.int pa), .val (.int pb), .val (.int pc0), .val (.int pd), .val (.int pp), .val (.int pk), .val (.int x1), .val (.int (Int32.ofNat nk0)), .val (.int (Int32.ofNat nk1)), .val (.int (Int32.ofNat nk2)), .val (.int (Int32.ofNat nk3)), .val (.ref b6), .val (.ref b11), .val (.ref b16), .val (.ref oz_17), .unset, .unset, .unset, .unset, .unset] [(.int x1), (.int (0 : Int32)), (.ref oz_17)])) _
  refine Goes.by (fun _ k => XS.iload X17.here hx rfl (hb hby at_147) rfl k) ?_
  show Goes p.tables e below (T17.setTop (mkF m 149 #[.val (.int pa), .val (.int pb), .val (.int pc0), .val (.int pd), .val (.int pp), .val (.int pk), .val (.int x1), .val (.int (Int32.ofNat nk0)), .val (.int (Int32.ofNat nk1)), .val (.int (Int32.ofNat nk2)), .val (.int (Int32.ofNat nk3)), .val (.ref b6), .val (.ref b11), .val (.ref b16), .val (.ref oz_17), .unset, .unset, .unset, .unset, .unset] [(.int (Int32.ofNat nk0)), (.int x1), (.int (0 : Int32)), (.ref oz_17)])) _
  refine Goes.by (fun _ k => XS.iload X17.here hx rfl (hb hby at_149) rfl k) ?_
  show Goes p.tables e below (T17.setTop (mkF m 151 #[.val (.int pa), .val (.int pb), .val (.int pc0), .val (.int pd), .val (.int pp), .val (.int pk), .val (.int x1), .val (.int (Int32.ofNat nk0)), .val (.int (Int32.ofNat nk1)), .val (.int (Int32.ofNat nk2)), .val (.int (Int32.ofNat nk3)), .val (.ref b6), .val (.ref b11), .val (.ref b16), .val (.ref oz_17), .unset, .unset, .unset, .unset, .unset] [(.int (Int32.ofNat nk1)), (.int (Int32.ofNat nk0)), (.int x1), (.int (0 : Int32)), (.ref oz_17)])) _
  refine Goes.by (fun _ k => XS.iload X17.here hx rfl (hb hby at_151) rfl k) ?_
  show Goes p.tables e below (T17.setTop (mkF m 153 #[.val (.int pa), .val (.int pb), .val (.int pc0), .val (.int pd), .val (.int pp), .val (.int pk), .val (.int x1), .val (.int (Int32.ofNat nk0)), .val (.int (Int32.ofNat nk1)), .val (.int (Int32.ofNat nk2)), .val (.int (Int32.ofNat nk3)), .val (.ref b6), .val (.ref b11), .val (.ref b16), .val (.ref oz_17), .unset, .unset, .unset, .unset, .unset] [(.int (Int32.ofNat nk2)), (.int (Int32.ofNat nk1)), (.int (Int32.ofNat nk0)), (.int x1), (.int (0 : Int32)), (.ref oz_17)])) _
  refine Goes.by (fun _ k => XS.iload X17.here hx rfl (hb hby at_153) rfl k) ?_
  show Goes p.tables e below (T17.setTop (mkF m 155 #[.val (.int pa), .val (.int pb), .val (.int pc0), .val (.int pd), .val (.int pp), .val (.int pk), .val (.int x1), .val (.int (Int32.ofNat nk0)), .val (.int (Int32.ofNat nk1)), .val (.int (Int32.ofNat nk2)), .val (.int (Int32.ofNat nk3)), .val (.ref b6), .val (.ref b11), .val (.ref b16), .val (.ref oz_17), .unset, .unset, .unset, .unset, .unset] [(.int (Int32.ofNat nk3)), (.int (Int32.ofNat nk2)), (.int (Int32.ofNat nk1)), (.int (Int32.ofNat nk0)), (.int x1), (.int (0 : Int32)), (.ref oz_17)])) _
  obtain ⟨_, _, ⟨T18, L18, k18, n18⟩, -, X18, ⟨Lc18, hQ18, l18, y18, z18⟩, st18⟩ := Jvm.LawKit.callS X17 hx (y := (⟨"com/example/xml_graph_join/xmlgraphjoin/graph/CountingSortSortPinLaw", "firstOk", "([IIIIIII)Z"⟩ : MethodName)) hown (mvT hZ (hw _ (List.mem_of_getElem? (i := 5) rfl))) (mvT hZ (hw _ (List.mem_of_getElem? (i := 6) rfl))) (mvT hZ (hw _ (List.mem_of_getElem? (i := 7) rfl))) (mvT hZ (hw _ (List.mem_of_getElem? (i := 8) rfl))) (by decide) (backOf (W := 0) (rm2 l Z a0 hw [] oz_17 (0 : Int32) x1 (Int32.ofNat nk0) (Int32.ofNat nk1) (Int32.ofNat nk2) (Int32.ofNat nk3) (own_pre nK nk0 nk1 nk2 nk3) 0 (nK + 1) T17.heap n0 Zs17 A_oz_17 (by decide) (fun z => own_hi _ _ nK 0 hK1 (by decide) z)) hZ (hw _ (List.mem_of_getElem? (i := 8) rfl)) (hw _ (List.mem_of_getElem? (i := 7) rfl)) (by decide) (by decide)) (g := (mkF m 155 #[.val (.int pa), .val (.int pb), .val (.int pc0), .val (.int pd), .val (.int pp), .val (.int pk), .val (.int x1), .val (.int (Int32.ofNat nk0)), .val (.int (Int32.ofNat nk1)), .val (.int (Int32.ofNat nk2)), .val (.int (Int32.ofNat nk3)), .val (.ref b6), .val (.ref b11), .val (.ref b16), .val (.ref oz_17), .unset, .unset, .unset, .unset, .unset] [(.int (Int32.ofNat nk3)), (.int (Int32.ofNat nk2)), (.int (Int32.ofNat nk1)), (.int (Int32.ofNat nk0)), (.int x1), (.int (0 : Int32)), (.ref oz_17)])) rfl (by rw [hml]; rfl) (argsL := [(.ref oz_17), (.int (0 : Int32)), (.int x1), (.int (Int32.ofNat nk0)), (.int (Int32.ofNat nk1)), (.int (Int32.ofNat nk2)), (.int (Int32.ofNat nk3))]) (rest := []) (lenOf pd_3 rfl) rfl (by show 2 * 0 + _ ≤ _; exact Nat.le_of_eq rfl) (hb hby at_155) (fun _ _ => ⟨rfl, rfl, (by decide : 5 + 0 ≤ _), (by decide : 21 + 0 ≤ _)⟩)
  dsimp only [Pt.U, Pt.locs, Pt.cells, Pt.slots] at X18 l18 y18 z18 st18 hQ18
  rw [l18, y18, z18] at X18
  obtain ⟨rfl, N18q, e18⟩ := hQ18
  have N18 := Fr.app N17 N18q
  refine Goes.by st18 ?_
  show Goes p.tables e below (T18.setTop (mkF m 158 #[.val (.int pa), .val (.int pb), .val (.int pc0), .val (.int pd), .val (.int pp), .val (.int pk), .val (.int x1), .val (.int (Int32.ofNat nk0)), .val (.int (Int32.ofNat nk1)), .val (.int (Int32.ofNat nk2)), .val (.int (Int32.ofNat nk3)), .val (.ref b6), .val (.ref b11), .val (.ref b16), .val (.ref oz_17), .unset, .unset, .unset, .unset, .unset] [(.int (fn2 (0 : Int32) x1 (Int32.ofNat nk0) (Int32.ofNat nk1) (Int32.ofNat nk2) (Int32.ofNat nk3) (own_pre nK nk0 nk1 nk2 nk3) 0 (nK + 1)))])) _
  refine Goes.by (fun _ k => XS.ifNo X18.here hx rfl (hb hby at_158) rfl ((if0 _ _).trans (feq (by rw [hxK]; have q := own_fo0 ⟨nK - 1, hK4⟩ ⟨nk0, hb0⟩ ⟨nk1, hb1⟩ ⟨nk2, hb2⟩ ⟨nk3, hb3⟩ hKp; dsimp only at q; rw [hKe] at q; exact q : ¬ ((fn2 (0 : Int32) x1 (Int32.ofNat nk0) (Int32.ofNat nk1) (Int32.ofNat nk2) (Int32.ofNat nk3) (own_pre nK nk0 nk1 nk2 nk3) 0 (nK + 1)) = (0 : Int32)))).1) k) ?_
  show Goes p.tables e below (T18.setTop (mkF m 161 #[.val (.int pa), .val (.int pb), .val (.int pc0), .val (.int pd), .val (.int pp), .val (.int pk), .val (.int x1), .val (.int (Int32.ofNat nk0)), .val (.int (Int32.ofNat nk1)), .val (.int (Int32.ofNat nk2)), .val (.int (Int32.ofNat nk3)), .val (.ref b6), .val (.ref b11), .val (.ref b16), .val (.ref oz_17), .unset, .unset, .unset, .unset, .unset] [])) _
  refine Goes.by (fun _ k => XS.aload X18.here hx rfl (hb hby at_161) rfl rfl k) ?_
  show Goes p.tables e below (T18.setTop (mkF m 163 #[.val (.int pa), .val (.int pb), .val (.int pc0), .val (.int pd), .val (.int pp), .val (.int pk), .val (.int x1), .val (.int (Int32.ofNat nk0)), .val (.int (Int32.ofNat nk1)), .val (.int (Int32.ofNat nk2)), .val (.int (Int32.ofNat nk3)), .val (.ref b6), .val (.ref b11), .val (.ref b16), .val (.ref oz_17), .unset, .unset, .unset, .unset, .unset] [(.ref oz_17)])) _
  refine Goes.by (fun _ k => XS.iconst X18.here hx rfl (hb hby at_163) k) ?_
  show Goes p.tables e below (T18.setTop (mkF m 164 #[.val (.int pa), .val (.int pb), .val (.int pc0), .val (.int pd), .val (.int pp), .val (.int pk), .val (.int x1), .val (.int (Int32.ofNat nk0)), .val (.int (Int32.ofNat nk1)), .val (.int (Int32.ofNat nk2)), .val (.int (Int32.ofNat nk3)), .val (.ref b6), .val (.ref b11), .val (.ref b16), .val (.ref oz_17), .unset, .unset, .unset, .unset, .unset] [(.int (1 : Int32)), (.ref oz_17)])) _
  refine Goes.by (fun _ k => XS.iload X18.here hx rfl (hb hby at_164) rfl k) ?_
  show Goes p.tables e below (T18.setTop (mkF m 166 #[.val (.int pa), .val (.int pb), .val (.int pc0), .val (.int pd), .val (.int pp), .val (.int pk), .val (.int x1), .val (.int (Int32.ofNat nk0)), .val (.int (Int32.ofNat nk1)), .val (.int (Int32.ofNat nk2)), .val (.int (Int32.ofNat nk3)), .val (.ref b6), .val (.ref b11), .val (.ref b16), .val (.ref oz_17), .unset, .unset, .unset, .unset, .unset] [(.int x1), (.int (1 : Int32)), (.ref oz_17)])) _
  refine Goes.by (fun _ k => XS.iload X18.here hx rfl (hb hby at_166) rfl k) ?_
  show Goes p.tables e below (T18.setTop (mkF m 168 #[.val (.int pa), .val (.int pb), .val (.int pc0), .val (.int pd), .val (.int pp), .val (.int pk), .val (.int x1), .val (.int (Int32.ofNat nk0)), .val (.int (Int32.ofNat nk1)), .val (.int (Int32.ofNat nk2)), .val (.int (Int32.ofNat nk3)), .val (.ref b6), .val (.ref b11), .val (.ref b16), .val (.ref oz_17), .unset, .unset, .unset, .unset, .unset] [(.int (Int32.ofNat nk0)), (.int x1), (.int (1 : Int32)), (.ref oz_17)])) _
  refine Goes.by (fun _ k => XS.iload X18.here hx rfl (hb hby at_168) rfl k) ?_
  show Goes p.tables e below (T18.setTop (mkF m 170 #[.val (.int pa), .val (.int pb), .val (.int pc0), .val (.int pd), .val (.int pp), .val (.int pk), .val (.int x1), .val (.int (Int32.ofNat nk0)), .val (.int (Int32.ofNat nk1)), .val (.int (Int32.ofNat nk2)), .val (.int (Int32.ofNat nk3)), .val (.ref b6), .val (.ref b11), .val (.ref b16), .val (.ref oz_17), .unset, .unset, .unset, .unset, .unset] [(.int (Int32.ofNat nk1)), (.int (Int32.ofNat nk0)), (.int x1), (.int (1 : Int32)), (.ref oz_17)])) _
  refine Goes.by (fun _ k => XS.iload X18.here hx rfl (hb hby at_170) rfl k) ?_
  show Goes p.tables e below (T18.setTop (mkF m 172 #[.val (.int pa), .val (.int pb), .val (.int pc0), .val (.int pd), .val (.int pp), .val (.int pk), .val (.int x1), .val (.int (Int32.ofNat nk0)), .val (.int (Int32.ofNat nk1)), .val (.int (Int32.ofNat nk2)), .val (.int (Int32.ofNat nk3)), .val (.ref b6), .val (.ref b11), .val (.ref b16), .val (.ref oz_17), .unset, .unset, .unset, .unset, .unset] [(.int (Int32.ofNat nk2)), (.int (Int32.ofNat nk1)), (.int (Int32.ofNat nk0)), (.int x1), (.int (1 : Int32)), (.ref oz_17)])) _
  refine Goes.by (fun _ k => XS.iload X18.here hx rfl (hb hby at_172) rfl k) ?_
  show Goes p.tables e below (T18.setTop (mkF m 174 #[.val (.int pa), .val (.int pb), .val (.int pc0), .val (.int pd), .val (.int pp), .val (.int pk), .val (.int x1), .val (.int (Int32.ofNat nk0)), .val (.int (Int32.ofNat nk1)), .val (.int (Int32.ofNat nk2)), .val (.int (Int32.ofNat nk3)), .val (.ref b6), .val (.ref b11), .val (.ref b16), .val (.ref oz_17), .unset, .unset, .unset, .unset, .unset] [(.int (Int32.ofNat nk3)), (.int (Int32.ofNat nk2)), (.int (Int32.ofNat nk1)), (.int (Int32.ofNat nk0)), (.int x1), (.int (1 : Int32)), (.ref oz_17)])) _
  obtain ⟨_, _, ⟨T19, L19, k19, n19⟩, -, X19, ⟨Lc19, hQ19, l19, y19, z19⟩, st19⟩ := Jvm.LawKit.callS X18 hx (y := (⟨"com/example/xml_graph_join/xmlgraphjoin/graph/CountingSortSortPinLaw", "firstOk", "([IIIIIII)Z"⟩ : MethodName)) hown (mvT hZ (hw _ (List.mem_of_getElem? (i := 5) rfl))) (mvT hZ (hw _ (List.mem_of_getElem? (i := 6) rfl))) (mvT hZ (hw _ (List.mem_of_getElem? (i := 7) rfl))) (mvT hZ (hw _ (List.mem_of_getElem? (i := 8) rfl))) (by decide) (backOf (W := 0) (rm2 l Z a0 hw [] oz_17 (1 : Int32) x1 (Int32.ofNat nk0) (Int32.ofNat nk1) (Int32.ofNat nk2) (Int32.ofNat nk3) (own_pre nK nk0 nk1 nk2 nk3) 1 (nK + 1) T17.heap n0 Zs17 A_oz_17 (by decide) (fun z => own_hi _ _ nK 1 hK1 (by decide) z)) hZ (hw _ (List.mem_of_getElem? (i := 8) rfl)) (hw _ (List.mem_of_getElem? (i := 7) rfl)) (by decide) (by decide)) (g := (mkF m 174 #[.val (.int pa), .val (.int pb), .val (.int pc0), .val (.int pd), .val (.int pp), .val (.int pk), .val (.int x1), .val (.int (Int32.ofNat nk0)), .val (.int (Int32.ofNat nk1)), .val (.int (Int32.ofNat nk2)), .val (.int (Int32.ofNat nk3)), .val (.ref b6), .val (.ref b11), .val (.ref b16), .val (.ref oz_17), .unset, .unset, .unset, .unset, .unset] [(.int (Int32.ofNat nk3)), (.int (Int32.ofNat nk2)), (.int (Int32.ofNat nk1)), (.int (Int32.ofNat nk0)), (.int x1), (.int (1 : Int32)), (.ref oz_17)])) rfl (by rw [hml]; rfl) (argsL := [(.ref oz_17), (.int (1 : Int32)), (.int x1), (.int (Int32.ofNat nk0)), (.int (Int32.ofNat nk1)), (.int (Int32.ofNat nk2)), (.int (Int32.ofNat nk3))]) (rest := []) (lenOf pd_3 rfl) rfl (by show 2 * 0 + _ ≤ _; exact Nat.le_of_eq rfl) (hb hby at_174) (fun _ _ => ⟨rfl, e18, (by decide : 5 + 0 ≤ _), (by decide : 21 + 0 ≤ _)⟩)
  dsimp only [Pt.U, Pt.locs, Pt.cells, Pt.slots] at X19 l19 y19 z19 st19 hQ19
  rw [l19, y19, z19] at X19
  obtain ⟨rfl, N19q, e19⟩ := hQ19
  have N19 := Fr.app N18 N19q
  refine Goes.by st19 ?_
  show Goes p.tables e below (T19.setTop (mkF m 177 #[.val (.int pa), .val (.int pb), .val (.int pc0), .val (.int pd), .val (.int pp), .val (.int pk), .val (.int x1), .val (.int (Int32.ofNat nk0)), .val (.int (Int32.ofNat nk1)), .val (.int (Int32.ofNat nk2)), .val (.int (Int32.ofNat nk3)), .val (.ref b6), .val (.ref b11), .val (.ref b16), .val (.ref oz_17), .unset, .unset, .unset, .unset, .unset] [(.int (fn2 (1 : Int32) x1 (Int32.ofNat nk0) (Int32.ofNat nk1) (Int32.ofNat nk2) (Int32.ofNat nk3) (own_pre nK nk0 nk1 nk2 nk3) 1 (nK + 1)))])) _
  refine Goes.by (fun _ k => XS.ifNo X19.here hx rfl (hb hby at_177) rfl ((if0 _ _).trans (feq (by rw [hxK]; have q := own_fo1 ⟨nK - 1, hK4⟩ ⟨nk0, hb0⟩ ⟨nk1, hb1⟩ ⟨nk2, hb2⟩ ⟨nk3, hb3⟩ hKp; dsimp only at q; rw [hKe] at q; exact q : ¬ ((fn2 (1 : Int32) x1 (Int32.ofNat nk0) (Int32.ofNat nk1) (Int32.ofNat nk2) (Int32.ofNat nk3) (own_pre nK nk0 nk1 nk2 nk3) 1 (nK + 1)) = (0 : Int32)))).1) k) ?_
  show Goes p.tables e below (T19.setTop (mkF m 180 #[.val (.int pa), .val (.int pb), .val (.int pc0), .val (.int pd), .val (.int pp), .val (.int pk), .val (.int x1), .val (.int (Int32.ofNat nk0)), .val (.int (Int32.ofNat nk1)), .val (.int (Int32.ofNat nk2)), .val (.int (Int32.ofNat nk3)), .val (.ref b6), .val (.ref b11), .val (.ref b16), .val (.ref oz_17), .unset, .unset, .unset, .unset, .unset] [])) _
  refine Goes.by (fun _ k => XS.aload X19.here hx rfl (hb hby at_180) rfl rfl k) ?_
  show Goes p.tables e below (T19.setTop (mkF m 182 #[.val (.int pa), .val (.int pb), .val (.int pc0), .val (.int pd), .val (.int pp), .val (.int pk), .val (.int x1), .val (.int (Int32.ofNat nk0)), .val (.int (Int32.ofNat nk1)), .val (.int (Int32.ofNat nk2)), .val (.int (Int32.ofNat nk3)), .val (.ref b6), .val (.ref b11), .val (.ref b16), .val (.ref oz_17), .unset, .unset, .unset, .unset, .unset] [(.ref oz_17)])) _
  refine Goes.by (fun _ k => XS.iconst X19.here hx rfl (hb hby at_182) k) ?_
  show Goes p.tables e below (T19.setTop (mkF m 183 #[.val (.int pa), .val (.int pb), .val (.int pc0), .val (.int pd), .val (.int pp), .val (.int pk), .val (.int x1), .val (.int (Int32.ofNat nk0)), .val (.int (Int32.ofNat nk1)), .val (.int (Int32.ofNat nk2)), .val (.int (Int32.ofNat nk3)), .val (.ref b6), .val (.ref b11), .val (.ref b16), .val (.ref oz_17), .unset, .unset, .unset, .unset, .unset] [(.int (2 : Int32)), (.ref oz_17)])) _
  refine Goes.by (fun _ k => XS.iload X19.here hx rfl (hb hby at_183) rfl k) ?_
  show Goes p.tables e below (T19.setTop (mkF m 185 #[.val (.int pa), .val (.int pb), .val (.int pc0), .val (.int pd), .val (.int pp), .val (.int pk), .val (.int x1), .val (.int (Int32.ofNat nk0)), .val (.int (Int32.ofNat nk1)), .val (.int (Int32.ofNat nk2)), .val (.int (Int32.ofNat nk3)), .val (.ref b6), .val (.ref b11), .val (.ref b16), .val (.ref oz_17), .unset, .unset, .unset, .unset, .unset] [(.int x1), (.int (2 : Int32)), (.ref oz_17)])) _
  refine Goes.by (fun _ k => XS.iload X19.here hx rfl (hb hby at_185) rfl k) ?_
  show Goes p.tables e below (T19.setTop (mkF m 187 #[.val (.int pa), .val (.int pb), .val (.int pc0), .val (.int pd), .val (.int pp), .val (.int pk), .val (.int x1), .val (.int (Int32.ofNat nk0)), .val (.int (Int32.ofNat nk1)), .val (.int (Int32.ofNat nk2)), .val (.int (Int32.ofNat nk3)), .val (.ref b6), .val (.ref b11), .val (.ref b16), .val (.ref oz_17), .unset, .unset, .unset, .unset, .unset] [(.int (Int32.ofNat nk0)), (.int x1), (.int (2 : Int32)), (.ref oz_17)])) _
  refine Goes.by (fun _ k => XS.iload X19.here hx rfl (hb hby at_187) rfl k) ?_
  show Goes p.tables e below (T19.setTop (mkF m 189 #[.val (.int pa), .val (.int pb), .val (.int pc0), .val (.int pd), .val (.int pp), .val (.int pk), .val (.int x1), .val (.int (Int32.ofNat nk0)), .val (.int (Int32.ofNat nk1)), .val (.int (Int32.ofNat nk2)), .val (.int (Int32.ofNat nk3)), .val (.ref b6), .val (.ref b11), .val (.ref b16), .val (.ref oz_17), .unset, .unset, .unset, .unset, .unset] [(.int (Int32.ofNat nk1)), (.int (Int32.ofNat nk0)), (.int x1), (.int (2 : Int32)), (.ref oz_17)])) _
  refine Goes.by (fun _ k => XS.iload X19.here hx rfl (hb hby at_189) rfl k) ?_
  show Goes p.tables e below (T19.setTop (mkF m 191 #[.val (.int pa), .val (.int pb), .val (.int pc0), .val (.int pd), .val (.int pp), .val (.int pk), .val (.int x1), .val (.int (Int32.ofNat nk0)), .val (.int (Int32.ofNat nk1)), .val (.int (Int32.ofNat nk2)), .val (.int (Int32.ofNat nk3)), .val (.ref b6), .val (.ref b11), .val (.ref b16), .val (.ref oz_17), .unset, .unset, .unset, .unset, .unset] [(.int (Int32.ofNat nk2)), (.int (Int32.ofNat nk1)), (.int (Int32.ofNat nk0)), (.int x1), (.int (2 : Int32)), (.ref oz_17)])) _
  refine Goes.by (fun _ k => XS.iload X19.here hx rfl (hb hby at_191) rfl k) ?_
  show Goes p.tables e below (T19.setTop (mkF m 193 #[.val (.int pa), .val (.int pb), .val (.int pc0), .val (.int pd), .val (.int pp), .val (.int pk), .val (.int x1), .val (.int (Int32.ofNat nk0)), .val (.int (Int32.ofNat nk1)), .val (.int (Int32.ofNat nk2)), .val (.int (Int32.ofNat nk3)), .val (.ref b6), .val (.ref b11), .val (.ref b16), .val (.ref oz_17), .unset, .unset, .unset, .unset, .unset] [(.int (Int32.ofNat nk3)), (.int (Int32.ofNat nk2)), (.int (Int32.ofNat nk1)), (.int (Int32.ofNat nk0)), (.int x1), (.int (2 : Int32)), (.ref oz_17)])) _
  obtain ⟨_, _, ⟨T20, L20, k20, n20⟩, -, X20, ⟨Lc20, hQ20, l20, y20, z20⟩, st20⟩ := Jvm.LawKit.callS X19 hx (y := (⟨"com/example/xml_graph_join/xmlgraphjoin/graph/CountingSortSortPinLaw", "firstOk", "([IIIIIII)Z"⟩ : MethodName)) hown (mvT hZ (hw _ (List.mem_of_getElem? (i := 5) rfl))) (mvT hZ (hw _ (List.mem_of_getElem? (i := 6) rfl))) (mvT hZ (hw _ (List.mem_of_getElem? (i := 7) rfl))) (mvT hZ (hw _ (List.mem_of_getElem? (i := 8) rfl))) (by decide) (backOf (W := 0) (rm2 l Z a0 hw [] oz_17 (2 : Int32) x1 (Int32.ofNat nk0) (Int32.ofNat nk1) (Int32.ofNat nk2) (Int32.ofNat nk3) (own_pre nK nk0 nk1 nk2 nk3) 2 (nK + 1) T17.heap n0 Zs17 A_oz_17 (by decide) (fun z => own_hi _ _ nK 2 hK1 (by decide) z)) hZ (hw _ (List.mem_of_getElem? (i := 8) rfl)) (hw _ (List.mem_of_getElem? (i := 7) rfl)) (by decide) (by decide)) (g := (mkF m 193 #[.val (.int pa), .val (.int pb), .val (.int pc0), .val (.int pd), .val (.int pp), .val (.int pk), .val (.int x1), .val (.int (Int32.ofNat nk0)), .val (.int (Int32.ofNat nk1)), .val (.int (Int32.ofNat nk2)), .val (.int (Int32.ofNat nk3)), .val (.ref b6), .val (.ref b11), .val (.ref b16), .val (.ref oz_17), .unset, .unset, .unset, .unset, .unset] [(.int (Int32.ofNat nk3)), (.int (Int32.ofNat nk2)), (.int (Int32.ofNat nk1)), (.int (Int32.ofNat nk0)), (.int x1), (.int (2 : Int32)), (.ref oz_17)])) rfl (by rw [hml]; rfl) (argsL := [(.ref oz_17), (.int (2 : Int32)), (.int x1), (.int (Int32.ofNat nk0)), (.int (Int32.ofNat nk1)), (.int (Int32.ofNat nk2)), (.int (Int32.ofNat nk3))]) (rest := []) (lenOf pd_3 rfl) rfl (by show 2 * 0 + _ ≤ _; exact Nat.le_of_eq rfl) (hb hby at_193) (fun _ _ => ⟨rfl, e19, (by decide : 5 + 0 ≤ _), (by decide : 21 + 0 ≤ _)⟩)
  dsimp only [Pt.U, Pt.locs, Pt.cells, Pt.slots] at X20 l20 y20 z20 st20 hQ20
  rw [l20, y20, z20] at X20
  obtain ⟨rfl, N20q, e20⟩ := hQ20
  have N20 := Fr.app N19 N20q
  refine Goes.by st20 ?_
  show Goes p.tables e below (T20.setTop (mkF m 196 #[.val (.int pa), .val (.int pb), .val (.int pc0), .val (.int pd), .val (.int pp), .val (.int pk), .val (.int x1), .val (.int (Int32.ofNat nk0)), .val (.int (Int32.ofNat nk1)), .val (.int (Int32.ofNat nk2)), .val (.int (Int32.ofNat nk3)), .val (.ref b6), .val (.ref b11), .val (.ref b16), .val (.ref oz_17), .unset, .unset, .unset, .unset, .unset] [(.int (fn2 (2 : Int32) x1 (Int32.ofNat nk0) (Int32.ofNat nk1) (Int32.ofNat nk2) (Int32.ofNat nk3) (own_pre nK nk0 nk1 nk2 nk3) 2 (nK + 1)))])) _
  refine Goes.by (fun _ k => XS.ifNo X20.here hx rfl (hb hby at_196) rfl ((if0 _ _).trans (feq (by rw [hxK]; have q := own_fo2 ⟨nK - 1, hK4⟩ ⟨nk0, hb0⟩ ⟨nk1, hb1⟩ ⟨nk2, hb2⟩ ⟨nk3, hb3⟩ hKp; dsimp only at q; rw [hKe] at q; exact q : ¬ ((fn2 (2 : Int32) x1 (Int32.ofNat nk0) (Int32.ofNat nk1) (Int32.ofNat nk2) (Int32.ofNat nk3) (own_pre nK nk0 nk1 nk2 nk3) 2 (nK + 1)) = (0 : Int32)))).1) k) ?_
  show Goes p.tables e below (T20.setTop (mkF m 199 #[.val (.int pa), .val (.int pb), .val (.int pc0), .val (.int pd), .val (.int pp), .val (.int pk), .val (.int x1), .val (.int (Int32.ofNat nk0)), .val (.int (Int32.ofNat nk1)), .val (.int (Int32.ofNat nk2)), .val (.int (Int32.ofNat nk3)), .val (.ref b6), .val (.ref b11), .val (.ref b16), .val (.ref oz_17), .unset, .unset, .unset, .unset, .unset] [])) _
  refine Goes.by (fun _ k => XS.aload X20.here hx rfl (hb hby at_199) rfl rfl k) ?_
  show Goes p.tables e below (T20.setTop (mkF m 201 #[.val (.int pa), .val (.int pb), .val (.int pc0), .val (.int pd), .val (.int pp), .val (.int pk), .val (.int x1), .val (.int (Int32.ofNat nk0)), .val (.int (Int32.ofNat nk1)), .val (.int (Int32.ofNat nk2)), .val (.int (Int32.ofNat nk3)), .val (.ref b6), .val (.ref b11), .val (.ref b16), .val (.ref oz_17), .unset, .unset, .unset, .unset, .unset] [(.ref oz_17)])) _
  refine Goes.by (fun _ k => XS.iconst X20.here hx rfl (hb hby at_201) k) ?_
  show Goes p.tables e below (T20.setTop (mkF m 202 #[.val (.int pa), .val (.int pb), .val (.int pc0), .val (.int pd), .val (.int pp), .val (.int pk), .val (.int x1), .val (.int (Int32.ofNat nk0)), .val (.int (Int32.ofNat nk1)), .val (.int (Int32.ofNat nk2)), .val (.int (Int32.ofNat nk3)), .val (.ref b6), .val (.ref b11), .val (.ref b16), .val (.ref oz_17), .unset, .unset, .unset, .unset, .unset] [(.int (3 : Int32)), (.ref oz_17)])) _
  refine Goes.by (fun _ k => XS.iload X20.here hx rfl (hb hby at_202) rfl k) ?_
  show Goes p.tables e below (T20.setTop (mkF m 204 #[.val (.int pa), .val (.int pb), .val (.int pc0), .val (.int pd), .val (.int pp), .val (.int pk), .val (.int x1), .val (.int (Int32.ofNat nk0)), .val (.int (Int32.ofNat nk1)), .val (.int (Int32.ofNat nk2)), .val (.int (Int32.ofNat nk3)), .val (.ref b6), .val (.ref b11), .val (.ref b16), .val (.ref oz_17), .unset, .unset, .unset, .unset, .unset] [(.int x1), (.int (3 : Int32)), (.ref oz_17)])) _
  refine Goes.by (fun _ k => XS.iload X20.here hx rfl (hb hby at_204) rfl k) ?_
  show Goes p.tables e below (T20.setTop (mkF m 206 #[.val (.int pa), .val (.int pb), .val (.int pc0), .val (.int pd), .val (.int pp), .val (.int pk), .val (.int x1), .val (.int (Int32.ofNat nk0)), .val (.int (Int32.ofNat nk1)), .val (.int (Int32.ofNat nk2)), .val (.int (Int32.ofNat nk3)), .val (.ref b6), .val (.ref b11), .val (.ref b16), .val (.ref oz_17), .unset, .unset, .unset, .unset, .unset] [(.int (Int32.ofNat nk0)), (.int x1), (.int (3 : Int32)), (.ref oz_17)])) _
  refine Goes.by (fun _ k => XS.iload X20.here hx rfl (hb hby at_206) rfl k) ?_
  show Goes p.tables e below (T20.setTop (mkF m 208 #[.val (.int pa), .val (.int pb), .val (.int pc0), .val (.int pd), .val (.int pp), .val (.int pk), .val (.int x1), .val (.int (Int32.ofNat nk0)), .val (.int (Int32.ofNat nk1)), .val (.int (Int32.ofNat nk2)), .val (.int (Int32.ofNat nk3)), .val (.ref b6), .val (.ref b11), .val (.ref b16), .val (.ref oz_17), .unset, .unset, .unset, .unset, .unset] [(.int (Int32.ofNat nk1)), (.int (Int32.ofNat nk0)), (.int x1), (.int (3 : Int32)), (.ref oz_17)])) _
  refine Goes.by (fun _ k => XS.iload X20.here hx rfl (hb hby at_208) rfl k) ?_
  show Goes p.tables e below (T20.setTop (mkF m 210 #[.val (.int pa), .val (.int pb), .val (.int pc0), .val (.int pd), .val (.int pp), .val (.int pk), .val (.int x1), .val (.int (Int32.ofNat nk0)), .val (.int (Int32.ofNat nk1)), .val (.int (Int32.ofNat nk2)), .val (.int (Int32.ofNat nk3)), .val (.ref b6), .val (.ref b11), .val (.ref b16), .val (.ref oz_17), .unset, .unset, .unset, .unset, .unset] [(.int (Int32.ofNat nk2)), (.int (Int32.ofNat nk1)), (.int (Int32.ofNat nk0)), (.int x1), (.int (3 : Int32)), (.ref oz_17)])) _
  refine Goes.by (fun _ k => XS.iload X20.here hx rfl (hb hby at_210) rfl k) ?_
  show Goes p.tables e below (T20.setTop (mkF m 212 #[.val (.int pa), .val (.int pb), .val (.int pc0), .val (.int pd), .val (.int pp), .val (.int pk), .val (.int x1), .val (.int (Int32.ofNat nk0)), .val (.int (Int32.ofNat nk1)), .val (.int (Int32.ofNat nk2)), .val (.int (Int32.ofNat nk3)), .val (.ref b6), .val (.ref b11), .val (.ref b16), .val (.ref oz_17), .unset, .unset, .unset, .unset, .unset] [(.int (Int32.ofNat nk3)), (.int (Int32.ofNat nk2)), (.int (Int32.ofNat nk1)), (.int (Int32.ofNat nk0)), (.int x1), (.int (3 : Int32)), (.ref oz_17)])) _
  obtain ⟨_, _, ⟨T21, L21, k21, n21⟩, -, X21, ⟨Lc21, hQ21, l21, y21, z21⟩, st21⟩ := Jvm.LawKit.callS X20 hx (y := (⟨"com/example/xml_graph_join/xmlgraphjoin/graph/CountingSortSortPinLaw", "firstOk", "([IIIIIII)Z"⟩ : MethodName)) hown (mvT hZ (hw _ (List.mem_of_getElem? (i := 5) rfl))) (mvT hZ (hw _ (List.mem_of_getElem? (i := 6) rfl))) (mvT hZ (hw _ (List.mem_of_getElem? (i := 7) rfl))) (mvT hZ (hw _ (List.mem_of_getElem? (i := 8) rfl))) (by decide) (backOf (W := 0) (rm2 l Z a0 hw [] oz_17 (3 : Int32) x1 (Int32.ofNat nk0) (Int32.ofNat nk1) (Int32.ofNat nk2) (Int32.ofNat nk3) (own_pre nK nk0 nk1 nk2 nk3) 3 (nK + 1) T17.heap n0 Zs17 A_oz_17 (by decide) (fun z => own_hi _ _ nK 3 hK1 (by decide) z)) hZ (hw _ (List.mem_of_getElem? (i := 8) rfl)) (hw _ (List.mem_of_getElem? (i := 7) rfl)) (by decide) (by decide)) (g := (mkF m 212 #[.val (.int pa), .val (.int pb), .val (.int pc0), .val (.int pd), .val (.int pp), .val (.int pk), .val (.int x1), .val (.int (Int32.ofNat nk0)), .val (.int (Int32.ofNat nk1)), .val (.int (Int32.ofNat nk2)), .val (.int (Int32.ofNat nk3)), .val (.ref b6), .val (.ref b11), .val (.ref b16), .val (.ref oz_17), .unset, .unset, .unset, .unset, .unset] [(.int (Int32.ofNat nk3)), (.int (Int32.ofNat nk2)), (.int (Int32.ofNat nk1)), (.int (Int32.ofNat nk0)), (.int x1), (.int (3 : Int32)), (.ref oz_17)])) rfl (by rw [hml]; rfl) (argsL := [(.ref oz_17), (.int (3 : Int32)), (.int x1), (.int (Int32.ofNat nk0)), (.int (Int32.ofNat nk1)), (.int (Int32.ofNat nk2)), (.int (Int32.ofNat nk3))]) (rest := []) (lenOf pd_3 rfl) rfl (by show 2 * 0 + _ ≤ _; exact Nat.le_of_eq rfl) (hb hby at_212) (fun _ _ => ⟨rfl, e20, (by decide : 5 + 0 ≤ _), (by decide : 21 + 0 ≤ _)⟩)
  dsimp only [Pt.U, Pt.locs, Pt.cells, Pt.slots] at X21 l21 y21 z21 st21 hQ21
  rw [l21, y21, z21] at X21
  obtain ⟨rfl, N21q, e21⟩ := hQ21
  have N21 := Fr.app N20 N21q
  refine Goes.by st21 ?_
  show Goes p.tables e below (T21.setTop (mkF m 215 #[.val (.int pa), .val (.int pb), .val (.int pc0), .val (.int pd), .val (.int pp), .val (.int pk), .val (.int x1), .val (.int (Int32.ofNat nk0)), .val (.int (Int32.ofNat nk1)), .val (.int (Int32.ofNat nk2)), .val (.int (Int32.ofNat nk3)), .val (.ref b6), .val (.ref b11), .val (.ref b16), .val (.ref oz_17), .unset, .unset, .unset, .unset, .unset] [(.int (fn2 (3 : Int32) x1 (Int32.ofNat nk0) (Int32.ofNat nk1) (Int32.ofNat nk2) (Int32.ofNat nk3) (own_pre nK nk0 nk1 nk2 nk3) 3 (nK + 1)))])) _
  refine Goes.by (fun _ k => XS.ifNo X21.here hx rfl (hb hby at_215) rfl ((if0 _ _).trans (feq (by rw [hxK]; have q := own_fo3 ⟨nK - 1, hK4⟩ ⟨nk0, hb0⟩ ⟨nk1, hb1⟩ ⟨nk2, hb2⟩ ⟨nk3, hb3⟩ hKp; dsimp only at q; rw [hKe] at q; exact q : ¬ ((fn2 (3 : Int32) x1 (Int32.ofNat nk0) (Int32.ofNat nk1) (Int32.ofNat nk2) (Int32.ofNat nk3) (own_pre nK nk0 nk1 nk2 nk3) 3 (nK + 1)) = (0 : Int32)))).1) k) ?_
  show Goes p.tables e below (T21.setTop (mkF m 218 #[.val (.int pa), .val (.int pb), .val (.int pc0), .val (.int pd), .val (.int pp), .val (.int pk), .val (.int x1), .val (.int (Int32.ofNat nk0)), .val (.int (Int32.ofNat nk1)), .val (.int (Int32.ofNat nk2)), .val (.int (Int32.ofNat nk3)), .val (.ref b6), .val (.ref b11), .val (.ref b16), .val (.ref oz_17), .unset, .unset, .unset, .unset, .unset] [])) _
  refine Goes.by (fun _ k => XS.aload X21.here hx rfl (hb hby at_218) rfl rfl k) ?_
  show Goes p.tables e below (T21.setTop (mkF m 220 #[.val (.int pa), .val (.int pb), .val (.int pc0), .val (.int pd), .val (.int pp), .val (.int pk), .val (.int x1), .val (.int (Int32.ofNat nk0)), .val (.int (Int32.ofNat nk1)), .val (.int (Int32.ofNat nk2)), .val (.int (Int32.ofNat nk3)), .val (.ref b6), .val (.ref b11), .val (.ref b16), .val (.ref oz_17), .unset, .unset, .unset, .unset, .unset] [(.ref oz_17)])) _
  refine Goes.by (fun _ k => XS.iconst X21.here hx rfl (hb hby at_220) k) ?_
  show Goes p.tables e below (T21.setTop (mkF m 221 #[.val (.int pa), .val (.int pb), .val (.int pc0), .val (.int pd), .val (.int pp), .val (.int pk), .val (.int x1), .val (.int (Int32.ofNat nk0)), .val (.int (Int32.ofNat nk1)), .val (.int (Int32.ofNat nk2)), .val (.int (Int32.ofNat nk3)), .val (.ref b6), .val (.ref b11), .val (.ref b16), .val (.ref oz_17), .unset, .unset, .unset, .unset, .unset] [(.int (4 : Int32)), (.ref oz_17)])) _
  refine Goes.by (fun _ k => XS.iload X21.here hx rfl (hb hby at_221) rfl k) ?_
  show Goes p.tables e below (T21.setTop (mkF m 223 #[.val (.int pa), .val (.int pb), .val (.int pc0), .val (.int pd), .val (.int pp), .val (.int pk), .val (.int x1), .val (.int (Int32.ofNat nk0)), .val (.int (Int32.ofNat nk1)), .val (.int (Int32.ofNat nk2)), .val (.int (Int32.ofNat nk3)), .val (.ref b6), .val (.ref b11), .val (.ref b16), .val (.ref oz_17), .unset, .unset, .unset, .unset, .unset] [(.int x1), (.int (4 : Int32)), (.ref oz_17)])) _
  refine Goes.by (fun _ k => XS.iload X21.here hx rfl (hb hby at_223) rfl k) ?_
  show Goes p.tables e below (T21.setTop (mkF m 225 #[.val (.int pa), .val (.int pb), .val (.int pc0), .val (.int pd), .val (.int pp), .val (.int pk), .val (.int x1), .val (.int (Int32.ofNat nk0)), .val (.int (Int32.ofNat nk1)), .val (.int (Int32.ofNat nk2)), .val (.int (Int32.ofNat nk3)), .val (.ref b6), .val (.ref b11), .val (.ref b16), .val (.ref oz_17), .unset, .unset, .unset, .unset, .unset] [(.int (Int32.ofNat nk0)), (.int x1), (.int (4 : Int32)), (.ref oz_17)])) _
  refine Goes.by (fun _ k => XS.iload X21.here hx rfl (hb hby at_225) rfl k) ?_
  show Goes p.tables e below (T21.setTop (mkF m 227 #[.val (.int pa), .val (.int pb), .val (.int pc0), .val (.int pd), .val (.int pp), .val (.int pk), .val (.int x1), .val (.int (Int32.ofNat nk0)), .val (.int (Int32.ofNat nk1)), .val (.int (Int32.ofNat nk2)), .val (.int (Int32.ofNat nk3)), .val (.ref b6), .val (.ref b11), .val (.ref b16), .val (.ref oz_17), .unset, .unset, .unset, .unset, .unset] [(.int (Int32.ofNat nk1)), (.int (Int32.ofNat nk0)), (.int x1), (.int (4 : Int32)), (.ref oz_17)])) _
  refine Goes.by (fun _ k => XS.iload X21.here hx rfl (hb hby at_227) rfl k) ?_
  show Goes p.tables e below (T21.setTop (mkF m 229 #[.val (.int pa), .val (.int pb), .val (.int pc0), .val (.int pd), .val (.int pp), .val (.int pk), .val (.int x1), .val (.int (Int32.ofNat nk0)), .val (.int (Int32.ofNat nk1)), .val (.int (Int32.ofNat nk2)), .val (.int (Int32.ofNat nk3)), .val (.ref b6), .val (.ref b11), .val (.ref b16), .val (.ref oz_17), .unset, .unset, .unset, .unset, .unset] [(.int (Int32.ofNat nk2)), (.int (Int32.ofNat nk1)), (.int (Int32.ofNat nk0)), (.int x1), (.int (4 : Int32)), (.ref oz_17)])) _
  refine Goes.by (fun _ k => XS.iload X21.here hx rfl (hb hby at_229) rfl k) ?_
  show Goes p.tables e below (T21.setTop (mkF m 231 #[.val (.int pa), .val (.int pb), .val (.int pc0), .val (.int pd), .val (.int pp), .val (.int pk), .val (.int x1), .val (.int (Int32.ofNat nk0)), .val (.int (Int32.ofNat nk1)), .val (.int (Int32.ofNat nk2)), .val (.int (Int32.ofNat nk3)), .val (.ref b6), .val (.ref b11), .val (.ref b16), .val (.ref oz_17), .unset, .unset, .unset, .unset, .unset] [(.int (Int32.ofNat nk3)), (.int (Int32.ofNat nk2)), (.int (Int32.ofNat nk1)), (.int (Int32.ofNat nk0)), (.int x1), (.int (4 : Int32)), (.ref oz_17)])) _
  obtain ⟨_, _, ⟨T22, L22, k22, n22⟩, -, X22, ⟨Lc22, hQ22, l22, y22, z22⟩, st22⟩ := Jvm.LawKit.callS X21 hx (y := (⟨"com/example/xml_graph_join/xmlgraphjoin/graph/CountingSortSortPinLaw", "firstOk", "([IIIIIII)Z"⟩ : MethodName)) hown (mvT hZ (hw _ (List.mem_of_getElem? (i := 5) rfl))) (mvT hZ (hw _ (List.mem_of_getElem? (i := 6) rfl))) (mvT hZ (hw _ (List.mem_of_getElem? (i := 7) rfl))) (mvT hZ (hw _ (List.mem_of_getElem? (i := 8) rfl))) (by decide) (backOf (W := 0) (rm2 l Z a0 hw [] oz_17 (4 : Int32) x1 (Int32.ofNat nk0) (Int32.ofNat nk1) (Int32.ofNat nk2) (Int32.ofNat nk3) (own_pre nK nk0 nk1 nk2 nk3) 4 (nK + 1) T17.heap n0 Zs17 A_oz_17 (by decide) (fun z => own_hi _ _ nK 4 hK1 (by decide) z)) hZ (hw _ (List.mem_of_getElem? (i := 8) rfl)) (hw _ (List.mem_of_getElem? (i := 7) rfl)) (by decide) (by decide)) (g := (mkF m 231 #[.val (.int pa), .val (.int pb), .val (.int pc0), .val (.int pd), .val (.int pp), .val (.int pk), .val (.int x1), .val (.int (Int32.ofNat nk0)), .val (.int (Int32.ofNat nk1)), .val (.int (Int32.ofNat nk2)), .val (.int (Int32.ofNat nk3)), .val (.ref b6), .val (.ref b11), .val (.ref b16), .val (.ref oz_17), .unset, .unset, .unset, .unset, .unset] [(.int (Int32.ofNat nk3)), (.int (Int32.ofNat nk2)), (.int (Int32.ofNat nk1)), (.int (Int32.ofNat nk0)), (.int x1), (.int (4 : Int32)), (.ref oz_17)])) rfl (by rw [hml]; rfl) (argsL := [(.ref oz_17), (.int (4 : Int32)), (.int x1), (.int (Int32.ofNat nk0)), (.int (Int32.ofNat nk1)), (.int (Int32.ofNat nk2)), (.int (Int32.ofNat nk3))]) (rest := []) (lenOf pd_3 rfl) rfl (by show 2 * 0 + _ ≤ _; exact Nat.le_of_eq rfl) (hb hby at_231) (fun _ _ => ⟨rfl, e21, (by decide : 5 + 0 ≤ _), (by decide : 21 + 0 ≤ _)⟩)
  dsimp only [Pt.U, Pt.locs, Pt.cells, Pt.slots] at X22 l22 y22 z22 st22 hQ22
  rw [l22, y22, z22] at X22
  obtain ⟨rfl, N22q, e22⟩ := hQ22
  have N22 := Fr.app N21 N22q
  refine Goes.by st22 ?_
  show Goes p.tables e below (T22.setTop (mkF m 234 #[.val (.int pa), .val (.int pb), .val (.int pc0), .val (.int pd), .val (.int pp), .val (.int pk), .val (.int x1), .val (.int (Int32.ofNat nk0)), .val (.int (Int32.ofNat nk1)), .val (.int (Int32.ofNat nk2)), .val (.int (Int32.ofNat nk3)), .val (.ref b6), .val (.ref b11), .val (.ref b16), .val (.ref oz_17), .unset, .unset, .unset, .unset, .unset] [(.int (fn2 (4 : Int32) x1 (Int32.ofNat nk0) (Int32.ofNat nk1) (Int32.ofNat nk2) (Int32.ofNat nk3) (own_pre nK nk0 nk1 nk2 nk3) 4 (nK + 1)))])) _
  refine Goes.by (fun _ k => XS.ifNo X22.here hx rfl (hb hby at_234) rfl ((if0 _ _).trans (feq (by rw [hxK]; have q := own_fo4 ⟨nK - 1, hK4⟩ ⟨nk0, hb0⟩ ⟨nk1, hb1⟩ ⟨nk2, hb2⟩ ⟨nk3, hb3⟩ hKp; dsimp only at q; rw [hKe] at q; exact q : ¬ ((fn2 (4 : Int32) x1 (Int32.ofNat nk0) (Int32.ofNat nk1) (Int32.ofNat nk2) (Int32.ofNat nk3) (own_pre nK nk0 nk1 nk2 nk3) 4 (nK + 1)) = (0 : Int32)))).1) k) ?_
  show Goes p.tables e below (T22.setTop (mkF m 237 #[.val (.int pa), .val (.int pb), .val (.int pc0), .val (.int pd), .val (.int pp), .val (.int pk), .val (.int x1), .val (.int (Int32.ofNat nk0)), .val (.int (Int32.ofNat nk1)), .val (.int (Int32.ofNat nk2)), .val (.int (Int32.ofNat nk3)), .val (.ref b6), .val (.ref b11), .val (.ref b16), .val (.ref oz_17), .unset, .unset, .unset, .unset, .unset] [])) _
  refine Goes.by (fun _ k => XS.iconst X22.here hx rfl (hb hby at_237) k) ?_
  show Goes p.tables e below (T22.setTop (mkF m 238 #[.val (.int pa), .val (.int pb), .val (.int pc0), .val (.int pd), .val (.int pp), .val (.int pk), .val (.int x1), .val (.int (Int32.ofNat nk0)), .val (.int (Int32.ofNat nk1)), .val (.int (Int32.ofNat nk2)), .val (.int (Int32.ofNat nk3)), .val (.ref b6), .val (.ref b11), .val (.ref b16), .val (.ref oz_17), .unset, .unset, .unset, .unset, .unset] [(.int (1 : Int32))])) _
  refine Goes.by (fun _ k => XS.goto X22.here hx rfl (pc0 := 238) (pc' := 242) rfl (hb hby at_238) (by decide) (by decide) k) ?_
  show Goes p.tables e below (T22.setTop (mkF m 242 #[.val (.int pa), .val (.int pb), .val (.int pc0), .val (.int pd), .val (.int pp), .val (.int pk), .val (.int x1), .val (.int (Int32.ofNat nk0)), .val (.int (Int32.ofNat nk1)), .val (.int (Int32.ofNat nk2)), .val (.int (Int32.ofNat nk3)), .val (.ref b6), .val (.ref b11), .val (.ref b16), .val (.ref oz_17), .unset, .unset, .unset, .unset, .unset] [(.int (1 : Int32))])) _
  refine Goes.by (fun _ k => XS.istore X22.here hx rfl (hb hby at_242) rfl (l' := #[.val (.int pa), .val (.int pb), .val (.int pc0), .val (.int pd), .val (.int pp), .val (.int pk), .val (.int x1), .val (.int (Int32.ofNat nk0)), .val (.int (Int32.ofNat nk1)), .val (.int (Int32.ofNat nk2)), .val (.int (Int32.ofNat nk3)), .val (.ref b6), .val (.ref b11), .val (.ref b16), .val (.ref oz_17), .val (.int (1 : Int32)), .unset, .unset, .unset, .unset]) rfl k) ?_
  show Goes p.tables e below (T22.setTop (mkF m 244 #[.val (.int pa), .val (.int pb), .val (.int pc0), .val (.int pd), .val (.int pp), .val (.int pk), .val (.int x1), .val (.int (Int32.ofNat nk0)), .val (.int (Int32.ofNat nk1)), .val (.int (Int32.ofNat nk2)), .val (.int (Int32.ofNat nk3)), .val (.ref b6), .val (.ref b11), .val (.ref b16), .val (.ref oz_17), .val (.int (1 : Int32)), .unset, .unset, .unset, .unset] [])) _
  refine Goes.by (fun _ k => XS.iload X22.here hx rfl (hb hby at_244) rfl k) ?_
  show Goes p.tables e below (T22.setTop (mkF m 246 #[.val (.int pa), .val (.int pb), .val (.int pc0), .val (.int pd), .val (.int pp), .val (.int pk), .val (.int x1), .val (.int (Int32.ofNat nk0)), .val (.int (Int32.ofNat nk1)), .val (.int (Int32.ofNat nk2)), .val (.int (Int32.ofNat nk3)), .val (.ref b6), .val (.ref b11), .val (.ref b16), .val (.ref oz_17), .val (.int (1 : Int32)), .unset, .unset, .unset, .unset] [(.int (Int32.ofNat nk0))])) _
  refine Goes.by (fun _ k => XS.iload X22.here hx rfl (hb hby at_246) rfl k) ?_
  show Goes p.tables e below (T22.setTop (mkF m 248 #[.val (.int pa), .val (.int pb), .val (.int pc0), .val (.int pd), .val (.int pp), .val (.int pk), .val (.int x1), .val (.int (Int32.ofNat nk0)), .val (.int (Int32.ofNat nk1)), .val (.int (Int32.ofNat nk2)), .val (.int (Int32.ofNat nk3)), .val (.ref b6), .val (.ref b11), .val (.ref b16), .val (.ref oz_17), .val (.int (1 : Int32)), .unset, .unset, .unset, .unset] [(.int (Int32.ofNat nk0)), (.int (Int32.ofNat nk0))])) _
  refine Goes.by (fun _ k => XS.iload X22.here hx rfl (hb hby at_248) rfl k) ?_
  show Goes p.tables e below (T22.setTop (mkF m 250 #[.val (.int pa), .val (.int pb), .val (.int pc0), .val (.int pd), .val (.int pp), .val (.int pk), .val (.int x1), .val (.int (Int32.ofNat nk0)), .val (.int (Int32.ofNat nk1)), .val (.int (Int32.ofNat nk2)), .val (.int (Int32.ofNat nk3)), .val (.ref b6), .val (.ref b11), .val (.ref b16), .val (.ref oz_17), .val (.int (1 : Int32)), .unset, .unset, .unset, .unset] [(.int (Int32.ofNat nk1)), (.int (Int32.ofNat nk0)), (.int (Int32.ofNat nk0))])) _
  refine Goes.by (fun _ k => XS.iload X22.here hx rfl (hb hby at_250) rfl k) ?_
  show Goes p.tables e below (T22.setTop (mkF m 252 #[.val (.int pa), .val (.int pb), .val (.int pc0), .val (.int pd), .val (.int pp), .val (.int pk), .val (.int x1), .val (.int (Int32.ofNat nk0)), .val (.int (Int32.ofNat nk1)), .val (.int (Int32.ofNat nk2)), .val (.int (Int32.ofNat nk3)), .val (.ref b6), .val (.ref b11), .val (.ref b16), .val (.ref oz_17), .val (.int (1 : Int32)), .unset, .unset, .unset, .unset] [(.int (Int32.ofNat nk2)), (.int (Int32.ofNat nk1)), (.int (Int32.ofNat nk0)), (.int (Int32.ofNat nk0))])) _
  refine Goes.by (fun _ k => XS.iload X22.here hx rfl (hb hby at_252) rfl k) ?_
  show Goes p.tables e below (T22.setTop (mkF m 254 #[.val (.int pa), .val (.int pb), .val (.int pc0), .val (.int pd), .val (.int pp), .val (.int pk), .val (.int x1), .val (.int (Int32.ofNat nk0)), .val (.int (Int32.ofNat nk1)), .val (.int (Int32.ofNat nk2)), .val (.int (Int32.ofNat nk3)), .val (.ref b6), .val (.ref b11), .val (.ref b16), .val (.ref oz_17), .val (.int (1 : Int32)), .unset, .unset, .unset, .unset] [(.int (Int32.ofNat nk3)), (.int (Int32.ofNat nk2)), (.int (Int32.ofNat nk1)), (.int (Int32.ofNat nk0)), (.int (Int32.ofNat nk0))])) _
  obtain ⟨_, _, ⟨T23, L23, k23, n23⟩, -, X23, ⟨Lc23, hQ23, l23, y23, z23⟩, st23⟩ := Jvm.LawKit.callS X22 hx (y := (⟨"com/example/xml_graph_join/xmlgraphjoin/graph/CountingSortSortPinLaw", "below", "(IIIII)I"⟩ : MethodName)) hown (mvT hZ (hw _ (List.mem_of_getElem? (i := 9) rfl))) (mvT hZ (hw _ (List.mem_of_getElem? (i := 10) rfl))) (mvT hZ (hw _ (List.mem_of_getElem? (i := 7) rfl))) (mvT hZ (hw _ (List.mem_of_getElem? (i := 11) rfl))) (by decide) (backOf (W := 0) (rm3 l Z a0 hw [] (Int32.ofNat nk0) (Int32.ofNat nk0) (Int32.ofNat nk1) (Int32.ofNat nk2) (Int32.ofNat nk3) T17.heap n0 Zs17) hZ (hw _ (List.mem_of_getElem? (i := 11) rfl)) (hw _ (List.mem_of_getElem? (i := 7) rfl)) (by decide) (by decide)) (g := (mkF m 254 #[.val (.int pa), .val (.int pb), .val (.int pc0), .val (.int pd), .val (.int pp), .val (.int pk), .val (.int x1), .val (.int (Int32.ofNat nk0)), .val (.int (Int32.ofNat nk1)), .val (.int (Int32.ofNat nk2)), .val (.int (Int32.ofNat nk3)), .val (.ref b6), .val (.ref b11), .val (.ref b16), .val (.ref oz_17), .val (.int (1 : Int32)), .unset, .unset, .unset, .unset] [(.int (Int32.ofNat nk3)), (.int (Int32.ofNat nk2)), (.int (Int32.ofNat nk1)), (.int (Int32.ofNat nk0)), (.int (Int32.ofNat nk0))])) rfl (by rw [hml]; rfl) (argsL := [(.int (Int32.ofNat nk0)), (.int (Int32.ofNat nk0)), (.int (Int32.ofNat nk1)), (.int (Int32.ofNat nk2)), (.int (Int32.ofNat nk3))]) (rest := []) (lenOf pd_1 rfl) rfl (by show 2 * 0 + _ ≤ _; exact Nat.le_of_eq rfl) (hb hby at_254) (fun _ _ => ⟨rfl, e22, (by decide : 5 + 0 ≤ _), (by decide : 21 + 0 ≤ _)⟩)
  dsimp only [Pt.U, Pt.locs, Pt.cells, Pt.slots] at X23 l23 y23 z23 st23 hQ23
  rw [l23, y23, z23] at X23
  obtain ⟨rfl, N23q, e23⟩ := hQ23
  have N23 := Fr.app N22 N23q
  refine Goes.by st23 ?_
  show Goes p.tables e below (T23.setTop (mkF m 257 #[.val (.int pa), .val (.int pb), .val (.int pc0), .val (.int pd), .val (.int pp), .val (.int pk), .val (.int x1), .val (.int (Int32.ofNat nk0)), .val (.int (Int32.ofNat nk1)), .val (.int (Int32.ofNat nk2)), .val (.int (Int32.ofNat nk3)), .val (.ref b6), .val (.ref b11), .val (.ref b16), .val (.ref oz_17), .val (.int (1 : Int32)), .unset, .unset, .unset, .unset] [(.int (fn3 (Int32.ofNat nk0) (Int32.ofNat nk0) (Int32.ofNat nk1) (Int32.ofNat nk2) (Int32.ofNat nk3)))])) _
  obtain ⟨x24, hx24⟩ : ∃ z : Int32, z = (fn3 (Int32.ofNat nk0) (Int32.ofNat nk0) (Int32.ofNat nk1) (Int32.ofNat nk2) (Int32.ofNat nk3)) := ⟨_, rfl⟩
  refine Goes.by (fun _ k => XS.istore X23.here hx rfl (hb hby at_257) rfl (l' := #[.val (.int pa), .val (.int pb), .val (.int pc0), .val (.int pd), .val (.int pp), .val (.int pk), .val (.int x1), .val (.int (Int32.ofNat nk0)), .val (.int (Int32.ofNat nk1)), .val (.int (Int32.ofNat nk2)), .val (.int (Int32.ofNat nk3)), .val (.ref b6), .val (.ref b11), .val (.ref b16), .val (.ref oz_17), .val (.int (1 : Int32)), .val (.int x24), .unset, .unset, .unset]) (by rw [hx24]; rfl) k) ?_
  show Goes p.tables e below (T23.setTop (mkF m 259 #[.val (.int pa), .val (.int pb), .val (.int pc0), .val (.int pd), .val (.int pp), .val (.int pk), .val (.int x1), .val (.int (Int32.ofNat nk0)), .val (.int (Int32.ofNat nk1)), .val (.int (Int32.ofNat nk2)), .val (.int (Int32.ofNat nk3)), .val (.ref b6), .val (.ref b11), .val (.ref b16), .val (.ref oz_17), .val (.int (1 : Int32)), .val (.int x24), .unset, .unset, .unset] [])) _
  refine Goes.by (fun _ k => XS.iload X23.here hx rfl (hb hby at_259) rfl k) ?_
  show Goes p.tables e below (T23.setTop (mkF m 261 #[.val (.int pa), .val (.int pb), .val (.int pc0), .val (.int pd), .val (.int pp), .val (.int pk), .val (.int x1), .val (.int (Int32.ofNat nk0)), .val (.int (Int32.ofNat nk1)), .val (.int (Int32.ofNat nk2)), .val (.int (Int32.ofNat nk3)), .val (.ref b6), .val (.ref b11), .val (.ref b16), .val (.ref oz_17), .val (.int (1 : Int32)), .val (.int x24), .unset, .unset, .unset] [(.int (Int32.ofNat nk1))])) _
  refine Goes.by (fun _ k => XS.iload X23.here hx rfl (hb hby at_261) rfl k) ?_
  show Goes p.tables e below (T23.setTop (mkF m 263 #[.val (.int pa), .val (.int pb), .val (.int pc0), .val (.int pd), .val (.int pp), .val (.int pk), .val (.int x1), .val (.int (Int32.ofNat nk0)), .val (.int (Int32.ofNat nk1)), .val (.int (Int32.ofNat nk2)), .val (.int (Int32.ofNat nk3)), .val (.ref b6), .val (.ref b11), .val (.ref b16), .val (.ref oz_17), .val (.int (1 : Int32)), .val (.int x24), .unset, .unset, .unset] [(.int (Int32.ofNat nk0)), (.int (Int32.ofNat nk1))])) _
  refine Goes.by (fun _ k => XS.iload X23.here hx rfl (hb hby at_263) rfl k) ?_
  show Goes p.tables e below (T23.setTop (mkF m 265 #[.val (.int pa), .val (.int pb), .val (.int pc0), .val (.int pd), .val (.int pp), .val (.int pk), .val (.int x1), .val (.int (Int32.ofNat nk0)), .val (.int (Int32.ofNat nk1)), .val (.int (Int32.ofNat nk2)), .val (.int (Int32.ofNat nk3)), .val (.ref b6), .val (.ref b11), .val (.ref b16), .val (.ref oz_17), .val (.int (1 : Int32)), .val (.int x24), .unset, .unset, .unset] [(.int (Int32.ofNat nk1)), (.int (Int32.ofNat nk0)), (.int (Int32.ofNat nk1))])) _
  refine Goes.by (fun _ k => XS.iload X23.here hx rfl (hb hby at_265) rfl k) ?_
  show Goes p.tables e below (T23.setTop (mkF m 267 #[.val (.int pa), .val (.int pb), .val (.int pc0), .val (.int pd), .val (.int pp), .val (.int pk), .val (.int x1), .val (.int (Int32.ofNat nk0)), .val (.int (Int32.ofNat nk1)), .val (.int (Int32.ofNat nk2)), .val (.int (Int32.ofNat nk3)), .val (.ref b6), .val (.ref b11), .val (.ref b16), .val (.ref oz_17), .val (.int (1 : Int32)), .val (.int x24), .unset, .unset, .unset] [(.int (Int32.ofNat nk2)), (.int (Int32.ofNat nk1)), (.int (Int32.ofNat nk0)), (.int (Int32.ofNat nk1))])) _
  refine Goes.by (fun _ k => XS.iload X23.here hx rfl (hb hby at_267) rfl k) ?_
  show Goes p.tables e below (T23.setTop (mkF m 269 #[.val (.int pa), .val (.int pb), .val (.int pc0), .val (.int pd), .val (.int pp), .val (.int pk), .val (.int x1), .val (.int (Int32.ofNat nk0)), .val (.int (Int32.ofNat nk1)), .val (.int (Int32.ofNat nk2)), .val (.int (Int32.ofNat nk3)), .val (.ref b6), .val (.ref b11), .val (.ref b16), .val (.ref oz_17), .val (.int (1 : Int32)), .val (.int x24), .unset, .unset, .unset] [(.int (Int32.ofNat nk3)), (.int (Int32.ofNat nk2)), (.int (Int32.ofNat nk1)), (.int (Int32.ofNat nk0)), (.int (Int32.ofNat nk1))])) _
  obtain ⟨_, _, ⟨T25, L25, k25, n25⟩, -, X25, ⟨Lc25, hQ25, l25, y25, z25⟩, st25⟩ := Jvm.LawKit.callS X23 hx (y := (⟨"com/example/xml_graph_join/xmlgraphjoin/graph/CountingSortSortPinLaw", "below", "(IIIII)I"⟩ : MethodName)) hown (mvT hZ (hw _ (List.mem_of_getElem? (i := 9) rfl))) (mvT hZ (hw _ (List.mem_of_getElem? (i := 10) rfl))) (mvT hZ (hw _ (List.mem_of_getElem? (i := 7) rfl))) (mvT hZ (hw _ (List.mem_of_getElem? (i := 11) rfl))) (by decide) (backOf (W := 0) (rm3 l Z a0 hw [] (Int32.ofNat nk1) (Int32.ofNat nk0) (Int32.ofNat nk1) (Int32.ofNat nk2) (Int32.ofNat nk3) T17.heap n0 Zs17) hZ (hw _ (List.mem_of_getElem? (i := 11) rfl)) (hw _ (List.mem_of_getElem? (i := 7) rfl)) (by decide) (by decide)) (g := (mkF m 269 #[.val (.int pa), .val (.int pb), .val (.int pc0), .val (.int pd), .val (.int pp), .val (.int pk), .val (.int x1), .val (.int (Int32.ofNat nk0)), .val (.int (Int32.ofNat nk1)), .val (.int (Int32.ofNat nk2)), .val (.int (Int32.ofNat nk3)), .val (.ref b6), .val (.ref b11), .val (.ref b16), .val (.ref oz_17), .val (.int (1 : Int32)), .val (.int x24), .unset, .unset, .unset] [(.int (Int32.ofNat nk3)), (.int (Int32.ofNat nk2)), (.int (Int32.ofNat nk1)), (.int (Int32.ofNat nk0)), (.int (Int32.ofNat nk1))])) rfl (by rw [hml]; rfl) (argsL := [(.int (Int32.ofNat nk1)), (.int (Int32.ofNat nk0)), (.int (Int32.ofNat nk1)), (.int (Int32.ofNat nk2)), (.int (Int32.ofNat nk3))]) (rest := []) (lenOf pd_1 rfl) rfl (by show 2 * 0 + _ ≤ _; exact Nat.le_of_eq rfl) (hb hby at_269) (fun _ _ => ⟨rfl, e23, (by decide : 5 + 0 ≤ _), (by decide : 21 + 0 ≤ _)⟩)
  dsimp only [Pt.U, Pt.locs, Pt.cells, Pt.slots] at X25 l25 y25 z25 st25 hQ25
  rw [l25, y25, z25] at X25
  obtain ⟨rfl, N25q, e25⟩ := hQ25
  have N25 := Fr.app N23 N25q
  refine Goes.by st25 ?_
  show Goes p.tables e below (T25.setTop (mkF m 272 #[.val (.int pa), .val (.int pb), .val (.int pc0), .val (.int pd), .val (.int pp), .val (.int pk), .val (.int x1), .val (.int (Int32.ofNat nk0)), .val (.int (Int32.ofNat nk1)), .val (.int (Int32.ofNat nk2)), .val (.int (Int32.ofNat nk3)), .val (.ref b6), .val (.ref b11), .val (.ref b16), .val (.ref oz_17), .val (.int (1 : Int32)), .val (.int x24), .unset, .unset, .unset] [(.int (fn3 (Int32.ofNat nk1) (Int32.ofNat nk0) (Int32.ofNat nk1) (Int32.ofNat nk2) (Int32.ofNat nk3)))])) _
  refine Goes.by (fun _ k => XS.iload X25.here hx rfl (hb hby at_272) rfl k) ?_
  show Goes p.tables e below (T25.setTop (mkF m 274 #[.val (.int pa), .val (.int pb), .val (.int pc0), .val (.int pd), .val (.int pp), .val (.int pk), .val (.int x1), .val (.int (Int32.ofNat nk0)), .val (.int (Int32.ofNat nk1)), .val (.int (Int32.ofNat nk2)), .val (.int (Int32.ofNat nk3)), .val (.ref b6), .val (.ref b11), .val (.ref b16), .val (.ref oz_17), .val (.int (1 : Int32)), .val (.int x24), .unset, .unset, .unset] [(.int (Int32.ofNat nk0)), (.int (fn3 (Int32.ofNat nk1) (Int32.ofNat nk0) (Int32.ofNat nk1) (Int32.ofNat nk2) (Int32.ofNat nk3)))])) _
  refine Goes.by (fun _ k => XS.iload X25.here hx rfl (hb hby at_274) rfl k) ?_
  show Goes p.tables e below (T25.setTop (mkF m 276 #[.val (.int pa), .val (.int pb), .val (.int pc0), .val (.int pd), .val (.int pp), .val (.int pk), .val (.int x1), .val (.int (Int32.ofNat nk0)), .val (.int (Int32.ofNat nk1)), .val (.int (Int32.ofNat nk2)), .val (.int (Int32.ofNat nk3)), .val (.ref b6), .val (.ref b11), .val (.ref b16), .val (.ref oz_17), .val (.int (1 : Int32)), .val (.int x24), .unset, .unset, .unset] [(.int (Int32.ofNat nk1)), (.int (Int32.ofNat nk0)), (.int (fn3 (Int32.ofNat nk1) (Int32.ofNat nk0) (Int32.ofNat nk1) (Int32.ofNat nk2) (Int32.ofNat nk3)))])) _
  obtain ⟨_, _, ⟨T26, L26, k26, n26⟩, -, X26, ⟨Lc26, hQ26, l26, y26, z26⟩, st26⟩ := Jvm.LawKit.callS X25 hx (y := (⟨"com/example/xml_graph_join/xmlgraphjoin/graph/CountingSortSortPinLaw", "eq", "(II)I"⟩ : MethodName)) hown (mvT hZ (hw _ (List.mem_of_getElem? (i := 15) rfl))) (mvT hZ (hw _ (List.mem_of_getElem? (i := 16) rfl))) (mvT hZ (hw _ (List.mem_of_getElem? (i := 7) rfl))) (mvT hZ (hw _ (List.mem_of_getElem? (i := 17) rfl))) (by decide) (backOf (W := 1) (rm5 l Z a0 hw [] (Int32.ofNat nk0) (Int32.ofNat nk1) T17.heap n0 Zs17) hZ (hw _ (List.mem_of_getElem? (i := 17) rfl)) (hw _ (List.mem_of_getElem? (i := 7) rfl)) (by decide) (by decide)) (g := (mkF m 276 #[.val (.int pa), .val (.int pb), .val (.int pc0), .val (.int pd), .val (.int pp), .val (.int pk), .val (.int x1), .val (.int (Int32.ofNat nk0)), .val (.int (Int32.ofNat nk1)), .val (.int (Int32.ofNat nk2)), .val (.int (Int32.ofNat nk3)), .val (.ref b6), .val (.ref b11), .val (.ref b16), .val (.ref oz_17), .val (.int (1 : Int32)), .val (.int x24), .unset, .unset, .unset] [(.int (Int32.ofNat nk1)), (.int (Int32.ofNat nk0)), (.int (fn3 (Int32.ofNat nk1) (Int32.ofNat nk0) (Int32.ofNat nk1) (Int32.ofNat nk2) (Int32.ofNat nk3)))])) rfl (by rw [hml]; rfl) (argsL := [(.int (Int32.ofNat nk0)), (.int (Int32.ofNat nk1))]) (rest := [(.int (fn3 (Int32.ofNat nk1) (Int32.ofNat nk0) (Int32.ofNat nk1) (Int32.ofNat nk2) (Int32.ofNat nk3)))]) (lenOf pd_0 rfl) rfl (by show 2 * 0 + (1 + 0) ≤ _; decide) (hb hby at_276) (fun _ _ => ⟨rfl, e25, (by decide : 5 + 0 ≤ _), (by decide : 21 + 0 ≤ _)⟩)
  dsimp only [Pt.U, Pt.locs, Pt.cells, Pt.slots] at X26 l26 y26 z26 st26 hQ26
  rw [l26, y26, z26] at X26
  obtain ⟨rfl, N26q, e26⟩ := hQ26
  have N26 := Fr.app N25 N26q
  refine Goes.by st26 ?_
  show Goes p.tables e below (T26.setTop (mkF m 279 #[.val (.int pa), .val (.int pb), .val (.int pc0), .val (.int pd), .val (.int pp), .val (.int pk), .val (.int x1), .val (.int (Int32.ofNat nk0)), .val (.int (Int32.ofNat nk1)), .val (.int (Int32.ofNat nk2)), .val (.int (Int32.ofNat nk3)), .val (.ref b6), .val (.ref b11), .val (.ref b16), .val (.ref oz_17), .val (.int (1 : Int32)), .val (.int x24), .unset, .unset, .unset] [(.int (fn5 (Int32.ofNat nk0) (Int32.ofNat nk1))), (.int (fn3 (Int32.ofNat nk1) (Int32.ofNat nk0) (Int32.ofNat nk1) (Int32.ofNat nk2) (Int32.ofNat nk3)))])) _
  refine Goes.by (fun _ k => XS.iadd X26.here hx rfl (hb hby at_279) rfl k) ?_
  show Goes p.tables e below (T26.setTop (mkF m 280 #[.val (.int pa), .val (.int pb), .val (.int pc0), .val (.int pd), .val (.int pp), .val (.int pk), .val (.int x1), .val (.int (Int32.ofNat nk0)), .val (.int (Int32.ofNat nk1)), .val (.int (Int32.ofNat nk2)), .val (.int (Int32.ofNat nk3)), .val (.ref b6), .val (.ref b11), .val (.ref b16), .val (.ref oz_17), .val (.int (1 : Int32)), .val (.int x24), .unset, .unset, .unset] [(.int ((fn3 (Int32.ofNat nk1) (Int32.ofNat nk0) (Int32.ofNat nk1) (Int32.ofNat nk2) (Int32.ofNat nk3)) + (fn5 (Int32.ofNat nk0) (Int32.ofNat nk1))))])) _
  obtain ⟨x27, hx27⟩ : ∃ z : Int32, z = ((fn3 (Int32.ofNat nk1) (Int32.ofNat nk0) (Int32.ofNat nk1) (Int32.ofNat nk2) (Int32.ofNat nk3)) + (fn5 (Int32.ofNat nk0) (Int32.ofNat nk1))) := ⟨_, rfl⟩
  refine Goes.by (fun _ k => XS.istore X26.here hx rfl (hb hby at_280) rfl (l' := #[.val (.int pa), .val (.int pb), .val (.int pc0), .val (.int pd), .val (.int pp), .val (.int pk), .val (.int x1), .val (.int (Int32.ofNat nk0)), .val (.int (Int32.ofNat nk1)), .val (.int (Int32.ofNat nk2)), .val (.int (Int32.ofNat nk3)), .val (.ref b6), .val (.ref b11), .val (.ref b16), .val (.ref oz_17), .val (.int (1 : Int32)), .val (.int x24), .val (.int x27), .unset, .unset]) (by rw [hx27]; rfl) k) ?_
  show Goes p.tables e below (T26.setTop (mkF m 282 #[.val (.int pa), .val (.int pb), .val (.int pc0), .val (.int pd), .val (.int pp), .val (.int pk), .val (.int x1), .val (.int (Int32.ofNat nk0)), .val (.int (Int32.ofNat nk1)), .val (.int (Int32.ofNat nk2)), .val (.int (Int32.ofNat nk3)), .val (.ref b6), .val (.ref b11), .val (.ref b16), .val (.ref oz_17), .val (.int (1 : Int32)), .val (.int x24), .val (.int x27), .unset, .unset] [])) _
  refine Goes.by (fun _ k => XS.iload X26.here hx rfl (hb hby at_282) rfl k) ?_
  show Goes p.tables e below (T26.setTop (mkF m 284 #[.val (.int pa), .val (.int pb), .val (.int pc0), .val (.int pd), .val (.int pp), .val (.int pk), .val (.int x1), .val (.int (Int32.ofNat nk0)), .val (.int (Int32.ofNat nk1)), .val (.int (Int32.ofNat nk2)), .val (.int (Int32.ofNat nk3)), .val (.ref b6), .val (.ref b11), .val (.ref b16), .val (.ref oz_17), .val (.int (1 : Int32)), .val (.int x24), .val (.int x27), .unset, .unset] [(.int (Int32.ofNat nk2))])) _
  refine Goes.by (fun _ k => XS.iload X26.here hx rfl (hb hby at_284) rfl k) ?_
  show Goes p.tables e below (T26.setTop (mkF m 286 #[.val (.int pa), .val (.int pb), .val (.int pc0), .val (.int pd), .val (.int pp), .val (.int pk), .val (.int x1), .val (.int (Int32.ofNat nk0)), .val (.int (Int32.ofNat nk1)), .val (.int (Int32.ofNat nk2)), .val (.int (Int32.ofNat nk3)), .val (.ref b6), .val (.ref b11), .val (.ref b16), .val (.ref oz_17), .val (.int (1 : Int32)), .val (.int x24), .val (.int x27), .unset, .unset] [(.int (Int32.ofNat nk0)), (.int (Int32.ofNat nk2))])) _
  refine Goes.by (fun _ k => XS.iload X26.here hx rfl (hb hby at_286) rfl k) ?_
  show Goes p.tables e below (T26.setTop (mkF m 288 #[.val (.int pa), .val (.int pb), .val (.int pc0), .val (.int pd), .val (.int pp), .val (.int pk), .val (.int x1), .val (.int (Int32.ofNat nk0)), .val (.int (Int32.ofNat nk1)), .val (.int (Int32.ofNat nk2)), .val (.int (Int32.ofNat nk3)), .val (.ref b6), .val (.ref b11), .val (.ref b16), .val (.ref oz_17), .val (.int (1 : Int32)), .val (.int x24), .val (.int x27), .unset, .unset] [(.int (Int32.ofNat nk1)), (.int (Int32.ofNat nk0)), (.int (Int32.ofNat nk2))])) _
  refine Goes.by (fun _ k => XS.iload X26.here hx rfl (hb hby at_288) rfl k) ?_
  show Goes p.tables e below (T26.setTop (mkF m 290 #[.val (.int pa), .val (.int pb), .val (.int pc0), .val (.int pd), .val (.int pp), .val (.int pk), .val (.int x1), .val (.int (Int32.ofNat nk0)), .val (.int (Int32.ofNat nk1)), .val (.int (Int32.ofNat nk2)), .val (.int (Int32.ofNat nk3)), .val (.ref b6), .val (.ref b11), .val (.ref b16), .val (.ref oz_17), .val (.int (1 : Int32)), .val (.int x24), .val (.int x27), .unset, .unset] [(.int (Int32.ofNat nk2)), (.int (Int32.ofNat nk1)), (.int (Int32.ofNat nk0)), (.int (Int32.ofNat nk2))])) _
  refine Goes.by (fun _ k => XS.iload X26.here hx rfl (hb hby at_290) rfl k) ?_
  show Goes p.tables e below (T26.setTop (mkF m 292 #[.val (.int pa), .val (.int pb), .val (.int pc0), .val (.int pd), .val (.int pp), .val (.int pk), .val (.int x1), .val (.int (Int32.ofNat nk0)), .val (.int (Int32.ofNat nk1)), .val (.int (Int32.ofNat nk2)), .val (.int (Int32.ofNat nk3)), .val (.ref b6), .val (.ref b11), .val (.ref b16), .val (.ref oz_17), .val (.int (1 : Int32)), .val (.int x24), .val (.int x27), .unset, .unset] [(.int (Int32.ofNat nk3)), (.int (Int32.ofNat nk2)), (.int (Int32.ofNat nk1)), (.int (Int32.ofNat nk0)), (.int (Int32.ofNat nk2))])) _
  obtain ⟨_, _, ⟨T28, L28, k28, n28⟩, -, X28, ⟨Lc28, hQ28, l28, y28, z28⟩, st28⟩ := Jvm.LawKit.callS X26 hx (y := (⟨"com/example/xml_graph_join/xmlgraphjoin/graph/CountingSortSortPinLaw", "below", "(IIIII)I"⟩ : MethodName)) hown (mvT hZ (hw _ (List.mem_of_getElem? (i := 9) rfl))) (mvT hZ (hw _ (List.mem_of_getElem? (i := 10) rfl))) (mvT hZ (hw _ (List.mem_of_getElem? (i := 7) rfl))) (mvT hZ (hw _ (List.mem_of_getElem? (i := 11) rfl))) (by decide) (backOf (W := 0) (rm3 l Z a0 hw [] (Int32.ofNat nk2) (Int32.ofNat nk0) (Int32.ofNat nk1) (Int32.ofNat nk2) (Int32.ofNat nk3) T17.heap n0 Zs17) hZ (hw _ (List.mem_of_getElem? (i := 11) rfl)) (hw _ (List.mem_of_getElem? (i := 7) rfl)) (by decide) (by decide)) (g := (mkF m 292 #[.val (.int pa), .val (.int pb), .val (.int pc0), .val (.int pd), .val (.int pp), .val (.int pk), .val (.int x1), .val (.int (Int32.ofNat nk0)), .val (.int (Int32.ofNat nk1)), .val (.int (Int32.ofNat nk2)), .val (.int (Int32.ofNat nk3)), .val (.ref b6), .val (.ref b11), .val (.ref b16), .val (.ref oz_17), .val (.int (1 : Int32)), .val (.int x24), .val (.int x27), .unset, .unset] [(.int (Int32.ofNat nk3)), (.int (Int32.ofNat nk2)), (.int (Int32.ofNat nk1)), (.int (Int32.ofNat nk0)), (.int (Int32.ofNat nk2))])) rfl (by rw [hml]; rfl) (argsL := [(.int (Int32.ofNat nk2)), (.int (Int32.ofNat nk0)), (.int (Int32.ofNat nk1)), (.int (Int32.ofNat nk2)), (.int (Int32.ofNat nk3))]) (rest := []) (lenOf pd_1 rfl) rfl (by show 2 * 0 + _ ≤ _; exact Nat.le_of_eq rfl) (hb hby at_292) (fun _ _ => ⟨rfl, e26, (by decide : 5 + 0 ≤ _), (by decide : 21 + 0 ≤ _)⟩)
  dsimp only [Pt.U, Pt.locs, Pt.cells, Pt.slots] at X28 l28 y28 z28 st28 hQ28
  rw [l28, y28, z28] at X28
  obtain ⟨rfl, N28q, e28⟩ := hQ28
  have N28 := Fr.app N26 N28q
  refine Goes.by st28 ?_
  show Goes p.tables e below (T28.setTop (mkF m 295 #[.val (.int pa), .val (.int pb), .val (.int pc0), .val (.int pd), .val (.int pp), .val (.int pk), .val (.int x1), .val (.int (Int32.ofNat nk0)), .val (.int (Int32.ofNat nk1)), .val (.int (Int32.ofNat nk2)), .val (.int (Int32.ofNat nk3)), .val (.ref b6), .val (.ref b11), .val (.ref b16), .val (.ref oz_17), .val (.int (1 : Int32)), .val (.int x24), .val (.int x27), .unset, .unset] [(.int (fn3 (Int32.ofNat nk2) (Int32.ofNat nk0) (Int32.ofNat nk1) (Int32.ofNat nk2) (Int32.ofNat nk3)))])) _
  refine Goes.by (fun _ k => XS.iload X28.here hx rfl (hb hby at_295) rfl k) ?_
  show Goes p.tables e below (T28.setTop (mkF m 297 #[.val (.int pa), .val (.int pb), .val (.int pc0), .val (.int pd), .val (.int pp), .val (.int pk), .val (.int x1), .val (.int (Int32.ofNat nk0)), .val (.int (Int32.ofNat nk1)), .val (.int (Int32.ofNat nk2)), .val (.int (Int32.ofNat nk3)), .val (.ref b6), .val (.ref b11), .val (.ref b16), .val (.ref oz_17), .val (.int (1 : Int32)), .val (.int x24), .val (.int x27), .unset, .unset] [(.int (Int32.ofNat nk0)), (.int (fn3 (Int32.ofNat nk2) (Int32.ofNat nk0) (Int32.ofNat nk1) (Int32.ofNat nk2) (Int32.ofNat nk3)))])) _
  refine Goes.by (fun _ k => XS.iload X28.here hx rfl (hb hby at_297) rfl k) ?_
  show Goes p.tables e below (T28.setTop (mkF m 299 #[.val (.int pa), .val (.int pb), .val (.int pc0), .val (.int pd), .val (.int pp), .val (.int pk), .val (.int x1), .val (.int (Int32.ofNat nk0)), .val (.int (Int32.ofNat nk1)), .val (.int (Int32.ofNat nk2)), .val (.int (Int32.ofNat nk3)), .val (.ref b6), .val (.ref b11), .val (.ref b16), .val (.ref oz_17), .val (.int (1 : Int32)), .val (.int x24), .val (.int x27), .unset, .unset] [(.int (Int32.ofNat nk2)), (.int (Int32.ofNat nk0)), (.int (fn3 (Int32.ofNat nk2) (Int32.ofNat nk0) (Int32.ofNat nk1) (Int32.ofNat nk2) (Int32.ofNat nk3)))])) _
  obtain ⟨_, _, ⟨T29, L29, k29, n29⟩, -, X29, ⟨Lc29, hQ29, l29, y29, z29⟩, st29⟩ := Jvm.LawKit.callS X28 hx (y := (⟨"com/example/xml_graph_join/xmlgraphjoin/graph/CountingSortSortPinLaw", "eq", "(II)I"⟩ : MethodName)) hown (mvT hZ (hw _ (List.mem_of_getElem? (i := 15) rfl))) (mvT hZ (hw _ (List.mem_of_getElem? (i := 16) rfl))) (mvT hZ (hw _ (List.mem_of_getElem? (i := 7) rfl))) (mvT hZ (hw _ (List.mem_of_getElem? (i := 17) rfl))) (by decide) (backOf (W := 1) (rm5 l Z a0 hw [] (Int32.ofNat nk0) (Int32.ofNat nk2) T17.heap n0 Zs17) hZ (hw _ (List.mem_of_getElem? (i := 17) rfl)) (hw _ (List.mem_of_getElem? (i := 7) rfl)) (by decide) (by decide)) (g := (mkF m 299 #[.val (.int pa), .val (.int pb), .val (.int pc0), .val (.int pd), .val (.int pp), .val (.int pk), .val (.int x1), .val (.int (Int32.ofNat nk0)), .val (.int (Int32.ofNat nk1)), .val (.int (Int32.ofNat nk2)), .val (.int (Int32.ofNat nk3)), .val (.ref b6), .val (.ref b11), .val (.ref b16), .val (.ref oz_17), .val (.int (1 : Int32)), .val (.int x24), .val (.int x27), .unset, .unset] [(.int (Int32.ofNat nk2)), (.int (Int32.ofNat nk0)), (.int (fn3 (Int32.ofNat nk2) (Int32.ofNat nk0) (Int32.ofNat nk1) (Int32.ofNat nk2) (Int32.ofNat nk3)))])) rfl (by rw [hml]; rfl) (argsL := [(.int (Int32.ofNat nk0)), (.int (Int32.ofNat nk2))]) (rest := [(.int (fn3 (Int32.ofNat nk2) (Int32.ofNat nk0) (Int32.ofNat nk1) (Int32.ofNat nk2) (Int32.ofNat nk3)))]) (lenOf pd_0 rfl) rfl (by show 2 * 0 + (1 + 0) ≤ _; decide) (hb hby at_299) (fun _ _ => ⟨rfl, e28, (by decide : 5 + 0 ≤ _), (by decide : 21 + 0 ≤ _)⟩)
  dsimp only [Pt.U, Pt.locs, Pt.cells, Pt.slots] at X29 l29 y29 z29 st29 hQ29
  rw [l29, y29, z29] at X29
  obtain ⟨rfl, N29q, e29⟩ := hQ29
  have N29 := Fr.app N28 N29q
  refine Goes.by st29 ?_
  show Goes p.tables e below (T29.setTop (mkF m 302 #[.val (.int pa), .val (.int pb), .val (.int pc0), .val (.int pd), .val (.int pp), .val (.int pk), .val (.int x1), .val (.int (Int32.ofNat nk0)), .val (.int (Int32.ofNat nk1)), .val (.int (Int32.ofNat nk2)), .val (.int (Int32.ofNat nk3)), .val (.ref b6), .val (.ref b11), .val (.ref b16), .val (.ref oz_17), .val (.int (1 : Int32)), .val (.int x24), .val (.int x27), .unset, .unset] [(.int (fn5 (Int32.ofNat nk0) (Int32.ofNat nk2))), (.int (fn3 (Int32.ofNat nk2) (Int32.ofNat nk0) (Int32.ofNat nk1) (Int32.ofNat nk2) (Int32.ofNat nk3)))])) _
  refine Goes.by (fun _ k => XS.iadd X29.here hx rfl (hb hby at_302) rfl k) ?_
  show Goes p.tables e below (T29.setTop (mkF m 303 #[.val (.int pa), .val (.int pb), .val (.int pc0), .val (.int pd), .val (.int pp), .val (.int pk), .val (.int x1), .val (.int (Int32.ofNat nk0)), .val (.int (Int32.ofNat nk1)), .val (.int (Int32.ofNat nk2)), .val (.int (Int32.ofNat nk3)), .val (.ref b6), .val (.ref b11), .val (.ref b16), .val (.ref oz_17), .val (.int (1 : Int32)), .val (.int x24), .val (.int x27), .unset, .unset] [(.int ((fn3 (Int32.ofNat nk2) (Int32.ofNat nk0) (Int32.ofNat nk1) (Int32.ofNat nk2) (Int32.ofNat nk3)) + (fn5 (Int32.ofNat nk0) (Int32.ofNat nk2))))])) _
  refine Goes.by (fun _ k => XS.iload X29.here hx rfl (hb hby at_303) rfl k) ?_
  show Goes p.tables e below (T29.setTop (mkF m 305 #[.val (.int pa), .val (.int pb), .val (.int pc0), .val (.int pd), .val (.int pp), .val (.int pk), .val (.int x1), .val (.int (Int32.ofNat nk0)), .val (.int (Int32.ofNat nk1)), .val (.int (Int32.ofNat nk2)), .val (.int (Int32.ofNat nk3)), .val (.ref b6), .val (.ref b11), .val (.ref b16), .val (.ref oz_17), .val (.int (1 : Int32)), .val (.int x24), .val (.int x27), .unset, .unset] [(.int (Int32.ofNat nk1)), (.int ((fn3 (Int32.ofNat nk2) (Int32.ofNat nk0) (Int32.ofNat nk1) (Int32.ofNat nk2) (Int32.ofNat nk3)) + (fn5 (Int32.ofNat nk0) (Int32.ofNat nk2))))])) _
  refine Goes.by (fun _ k => XS.iload X29.here hx rfl (hb hby at_305) rfl k) ?_
  show Goes p.tables e below (T29.setTop (mkF m 307 #[.val (.int pa), .val (.int pb), .val (.int pc0), .val (.int pd), .val (.int pp), .val (.int pk), .val (.int x1), .val (.int (Int32.ofNat nk0)), .val (.int (Int32.ofNat nk1)), .val (.int (Int32.ofNat nk2)), .val (.int (Int32.ofNat nk3)), .val (.ref b6), .val (.ref b11), .val (.ref b16), .val (.ref oz_17), .val (.int (1 : Int32)), .val (.int x24), .val (.int x27), .unset, .unset] [(.int (Int32.ofNat nk2)), (.int (Int32.ofNat nk1)), (.int ((fn3 (Int32.ofNat nk2) (Int32.ofNat nk0) (Int32.ofNat nk1) (Int32.ofNat nk2) (Int32.ofNat nk3)) + (fn5 (Int32.ofNat nk0) (Int32.ofNat nk2))))])) _
  obtain ⟨_, _, ⟨T30, L30, k30, n30⟩, -, X30, ⟨Lc30, hQ30, l30, y30, z30⟩, st30⟩ := Jvm.LawKit.callS X29 hx (y := (⟨"com/example/xml_graph_join/xmlgraphjoin/graph/CountingSortSortPinLaw", "eq", "(II)I"⟩ : MethodName)) hown (mvT hZ (hw _ (List.mem_of_getElem? (i := 15) rfl))) (mvT hZ (hw _ (List.mem_of_getElem? (i := 16) rfl))) (mvT hZ (hw _ (List.mem_of_getElem? (i := 7) rfl))) (mvT hZ (hw _ (List.mem_of_getElem? (i := 17) rfl))) (by decide) (backOf (W := 1) (rm5 l Z a0 hw [] (Int32.ofNat nk1) (Int32.ofNat nk2) T17.heap n0 Zs17) hZ (hw _ (List.mem_of_getElem? (i := 17) rfl)) (hw _ (List.mem_of_getElem? (i := 7) rfl)) (by decide) (by decide)) (g := (mkF m 307 #[.val (.int pa), .val (.int pb), .val (.int pc0), .val (.int pd), .val (.int pp), .val (.int pk), .val (.int x1), .val (.int (Int32.ofNat nk0)), .val (.int (Int32.ofNat nk1)), .val (.int (Int32.ofNat nk2)), .val (.int (Int32.ofNat nk3)), .val (.ref b6), .val (.ref b11), .val (.ref b16), .val (.ref oz_17), .val (.int (1 : Int32)), .val (.int x24), .val (.int x27), .unset, .unset] [(.int (Int32.ofNat nk2)), (.int (Int32.ofNat nk1)), (.int ((fn3 (Int32.ofNat nk2) (Int32.ofNat nk0) (Int32.ofNat nk1) (Int32.ofNat nk2) (Int32.ofNat nk3)) + (fn5 (Int32.ofNat nk0) (Int32.ofNat nk2))))])) rfl (by rw [hml]; rfl) (argsL := [(.int (Int32.ofNat nk1)), (.int (Int32.ofNat nk2))]) (rest := [(.int ((fn3 (Int32.ofNat nk2) (Int32.ofNat nk0) (Int32.ofNat nk1) (Int32.ofNat nk2) (Int32.ofNat nk3)) + (fn5 (Int32.ofNat nk0) (Int32.ofNat nk2))))]) (lenOf pd_0 rfl) rfl (by show 2 * 0 + (1 + 0) ≤ _; decide) (hb hby at_307) (fun _ _ => ⟨rfl, e29, (by decide : 5 + 0 ≤ _), (by decide : 21 + 0 ≤ _)⟩)
  dsimp only [Pt.U, Pt.locs, Pt.cells, Pt.slots] at X30 l30 y30 z30 st30 hQ30
  rw [l30, y30, z30] at X30
  obtain ⟨rfl, N30q, e30⟩ := hQ30
  have N30 := Fr.app N29 N30q
  refine Goes.by st30 ?_
  show Goes p.tables e below (T30.setTop (mkF m 310 #[.val (.int pa), .val (.int pb), .val (.int pc0), .val (.int pd), .val (.int pp), .val (.int pk), .val (.int x1), .val (.int (Int32.ofNat nk0)), .val (.int (Int32.ofNat nk1)), .val (.int (Int32.ofNat nk2)), .val (.int (Int32.ofNat nk3)), .val (.ref b6), .val (.ref b11), .val (.ref b16), .val (.ref oz_17), .val (.int (1 : Int32)), .val (.int x24), .val (.int x27), .unset, .unset] [(.int (fn5 (Int32.ofNat nk1) (Int32.ofNat nk2))), (.int ((fn3 (Int32.ofNat nk2) (Int32.ofNat nk0) (Int32.ofNat nk1) (Int32.ofNat nk2) (Int32.ofNat nk3)) + (fn5 (Int32.ofNat nk0) (Int32.ofNat nk2))))])) _
  refine Goes.by (fun _ k => XS.iadd X30.here hx rfl (hb hby at_310) rfl k) ?_
  show Goes p.tables e below (T30.setTop (mkF m 311 #[.val (.int pa), .val (.int pb), .val (.int pc0), .val (.int pd), .val (.int pp), .val (.int pk), .val (.int x1), .val (.int (Int32.ofNat nk0)), .val (.int (Int32.ofNat nk1)), .val (.int (Int32.ofNat nk2)), .val (.int (Int32.ofNat nk3)), .val (.ref b6), .val (.ref b11), .val (.ref b16), .val (.ref oz_17), .val (.int (1 : Int32)), .val (.int x24), .val (.int x27), .unset, .unset] [(.int (((fn3 (Int32.ofNat nk2) (Int32.ofNat nk0) (Int32.ofNat nk1) (Int32.ofNat nk2) (Int32.ofNat nk3)) + (fn5 (Int32.ofNat nk0) (Int32.ofNat nk2))) + (fn5 (Int32.ofNat nk1) (Int32.ofNat nk2))))])) _
  obtain ⟨x31, hx31⟩ : ∃ z : Int32, z = (((fn3 (Int32.ofNat nk2) (Int32.ofNat nk0) (Int32.ofNat nk1) (Int32.ofNat nk2) (Int32.ofNat nk3)) + (fn5 (Int32.ofNat nk0) (Int32.ofNat nk2))) + (fn5 (Int32.ofNat nk1) (Int32.ofNat nk2))) := ⟨_, rfl⟩
  refine Goes.by (fun _ k => XS.istore X30.here hx rfl (hb hby at_311) rfl (l' := #[.val (.int pa), .val (.int pb), .val (.int pc0), .val (.int pd), .val (.int pp), .val (.int pk), .val (.int x1), .val (.int (Int32.ofNat nk0)), .val (.int (Int32.ofNat nk1)), .val (.int (Int32.ofNat nk2)), .val (.int (Int32.ofNat nk3)), .val (.ref b6), .val (.ref b11), .val (.ref b16), .val (.ref oz_17), .val (.int (1 : Int32)), .val (.int x24), .val (.int x27), .val (.int x31), .unset]) (by rw [hx31]; rfl) k) ?_
  show Goes p.tables e below (T30.setTop (mkF m 313 #[.val (.int pa), .val (.int pb), .val (.int pc0), .val (.int pd), .val (.int pp), .val (.int pk), .val (.int x1), .val (.int (Int32.ofNat nk0)), .val (.int (Int32.ofNat nk1)), .val (.int (Int32.ofNat nk2)), .val (.int (Int32.ofNat nk3)), .val (.ref b6), .val (.ref b11), .val (.ref b16), .val (.ref oz_17), .val (.int (1 : Int32)), .val (.int x24), .val (.int x27), .val (.int x31), .unset] [])) _
  refine Goes.by (fun _ k => XS.iload X30.here hx rfl (hb hby at_313) rfl k) ?_
  show Goes p.tables e below (T30.setTop (mkF m 315 #[.val (.int pa), .val (.int pb), .val (.int pc0), .val (.int pd), .val (.int pp), .val (.int pk), .val (.int x1), .val (.int (Int32.ofNat nk0)), .val (.int (Int32.ofNat nk1)), .val (.int (Int32.ofNat nk2)), .val (.int (Int32.ofNat nk3)), .val (.ref b6), .val (.ref b11), .val (.ref b16), .val (.ref oz_17), .val (.int (1 : Int32)), .val (.int x24), .val (.int x27), .val (.int x31), .unset] [(.int (Int32.ofNat nk3))])) _
  refine Goes.by (fun _ k => XS.iload X30.here hx rfl (hb hby at_315) rfl k) ?_
  show Goes p.tables e below (T30.setTop (mkF m 317 #[.val (.int pa), .val (.int pb), .val (.int pc0), .val (.int pd), .val (.int pp), .val (.int pk), .val (.int x1), .val (.int (Int32.ofNat nk0)), .val (.int (Int32.ofNat nk1)), .val (.int (Int32.ofNat nk2)), .val (.int (Int32.ofNat nk3)), .val (.ref b6), .val (.ref b11), .val (.ref b16), .val (.ref oz_17), .val (.int (1 : Int32)), .val (.int x24), .val (.int x27), .val (.int x31), .unset] [(.int (Int32.ofNat nk0)), (.int (Int32.ofNat nk3))])) _
  refine Goes.by (fun _ k => XS.iload X30.here hx rfl (hb hby at_317) rfl k) ?_
  show Goes p.tables e below (T30.setTop (mkF m 319 #[.val (.int pa), .val (.int pb), .val (.int pc0), .val (.int pd), .val (.int pp), .val (.int pk), .val (.int x1), .val (.int (Int32.ofNat nk0)), .val (.int (Int32.ofNat nk1)), .val (.int (Int32.ofNat nk2)), .val (.int (Int32.ofNat nk3)), .val (.ref b6), .val (.ref b11), .val (.ref b16), .val (.ref oz_17), .val (.int (1 : Int32)), .val (.int x24), .val (.int x27), .val (.int x31), .unset] [(.int (Int32.ofNat nk1)), (.int (Int32.ofNat nk0)), (.int (Int32.ofNat nk3))])) _
  refine Goes.by (fun _ k => XS.iload X30.here hx rfl (hb hby at_319) rfl k) ?_
  show Goes p.tables e below (T30.setTop (mkF m 321 #[.val (.int pa), .val (.int pb), .val (.int pc0), .val (.int pd), .val (.int pp), .val (.int pk), .val (.int x1), .val (.int (Int32.ofNat nk0)), .val (.int (Int32.ofNat nk1)), .val (.int (Int32.ofNat nk2)), .val (.int (Int32.ofNat nk3)), .val (.ref b6), .val (.ref b11), .val (.ref b16), .val (.ref oz_17), .val (.int (1 : Int32)), .val (.int x24), .val (.int x27), .val (.int x31), .unset] [(.int (Int32.ofNat nk2)), (.int (Int32.ofNat nk1)), (.int (Int32.ofNat nk0)), (.int (Int32.ofNat nk3))])) _
  refine Goes.by (fun _ k => XS.iload X30.here hx rfl (hb hby at_321) rfl k) ?_
  show Goes p.tables e below (T30.setTop (mkF m 323 #[.val (.int pa), .val (.int pb), .val (.int pc0), .val (.int pd), .val (.int pp), .val (.int pk), .val (.int x1), .val (.int (Int32.ofNat nk0)), .val (.int (Int32.ofNat nk1)), .val (.int (Int32.ofNat nk2)), .val (.int (Int32.ofNat nk3)), .val (.ref b6), .val (.ref b11), .val (.ref b16), .val (.ref oz_17), .val (.int (1 : Int32)), .val (.int x24), .val (.int x27), .val (.int x31), .unset] [(.int (Int32.ofNat nk3)), (.int (Int32.ofNat nk2)), (.int (Int32.ofNat nk1)), (.int (Int32.ofNat nk0)), (.int (Int32.ofNat nk3))])) _
  obtain ⟨_, _, ⟨T32, L32, k32, n32⟩, -, X32, ⟨Lc32, hQ32, l32, y32, z32⟩, st32⟩ := Jvm.LawKit.callS X30 hx (y := (⟨"com/example/xml_graph_join/xmlgraphjoin/graph/CountingSortSortPinLaw", "below", "(IIIII)I"⟩ : MethodName)) hown (mvT hZ (hw _ (List.mem_of_getElem? (i := 9) rfl))) (mvT hZ (hw _ (List.mem_of_getElem? (i := 10) rfl))) (mvT hZ (hw _ (List.mem_of_getElem? (i := 7) rfl))) (mvT hZ (hw _ (List.mem_of_getElem? (i := 11) rfl))) (by decide) (backOf (W := 0) (rm3 l Z a0 hw [] (Int32.ofNat nk3) (Int32.ofNat nk0) (Int32.ofNat nk1) (Int32.ofNat nk2) (Int32.ofNat nk3) T17.heap n0 Zs17) hZ (hw _ (List.mem_of_getElem? (i := 11) rfl)) (hw _ (List.mem_of_getElem? (i := 7) rfl)) (by decide) (by decide)) (g := (mkF m 323 #[.val (.int pa), .val (.int pb), .val (.int pc0), .val (.int pd), .val (.int pp), .val (.int pk), .val (.int x1), .val (.int (Int32.ofNat nk0)), .val (.int (Int32.ofNat nk1)), .val (.int (Int32.ofNat nk2)), .val (.int (Int32.ofNat nk3)), .val (.ref b6), .val (.ref b11), .val (.ref b16), .val (.ref oz_17), .val (.int (1 : Int32)), .val (.int x24), .val (.int x27), .val (.int x31), .unset] [(.int (Int32.ofNat nk3)), (.int (Int32.ofNat nk2)), (.int (Int32.ofNat nk1)), (.int (Int32.ofNat nk0)), (.int (Int32.ofNat nk3))])) rfl (by rw [hml]; rfl) (argsL := [(.int (Int32.ofNat nk3)), (.int (Int32.ofNat nk0)), (.int (Int32.ofNat nk1)), (.int (Int32.ofNat nk2)), (.int (Int32.ofNat nk3))]) (rest := []) (lenOf pd_1 rfl) rfl (by show 2 * 0 + _ ≤ _; exact Nat.le_of_eq rfl) (hb hby at_323) (fun _ _ => ⟨rfl, e30, (by decide : 5 + 0 ≤ _), (by decide : 21 + 0 ≤ _)⟩)
  dsimp only [Pt.U, Pt.locs, Pt.cells, Pt.slots] at X32 l32 y32 z32 st32 hQ32
  rw [l32, y32, z32] at X32
  obtain ⟨rfl, N32q, e32⟩ := hQ32
  have N32 := Fr.app N30 N32q
  refine Goes.by st32 ?_
  show Goes p.tables e below (T32.setTop (mkF m 326 #[.val (.int pa), .val (.int pb), .val (.int pc0), .val (.int pd), .val (.int pp), .val (.int pk), .val (.int x1), .val (.int (Int32.ofNat nk0)), .val (.int (Int32.ofNat nk1)), .val (.int (Int32.ofNat nk2)), .val (.int (Int32.ofNat nk3)), .val (.ref b6), .val (.ref b11), .val (.ref b16), .val (.ref oz_17), .val (.int (1 : Int32)), .val (.int x24), .val (.int x27), .val (.int x31), .unset] [(.int (fn3 (Int32.ofNat nk3) (Int32.ofNat nk0) (Int32.ofNat nk1) (Int32.ofNat nk2) (Int32.ofNat nk3)))])) _
  refine Goes.by (fun _ k => XS.iload X32.here hx rfl (hb hby at_326) rfl k) ?_
  show Goes p.tables e below (T32.setTop (mkF m 328 #[.val (.int pa), .val (.int pb), .val (.int pc0), .val (.int pd), .val (.int pp), .val (.int pk), .val (.int x1), .val (.int (Int32.ofNat nk0)), .val (.int (Int32.ofNat nk1)), .val (.int (Int32.ofNat nk2)), .val (.int (Int32.ofNat nk3)), .val (.ref b6), .val (.ref b11), .val (.ref b16), .val (.ref oz_17), .val (.int (1 : Int32)), .val (.int x24), .val (.int x27), .val (.int x31), .unset] [(.int (Int32.ofNat nk0)), (.int (fn3 (Int32.ofNat nk3) (Int32.ofNat nk0) (Int32.ofNat nk1) (Int32.ofNat nk2) (Int32.ofNat nk3)))])) _
  refine Goes.by (fun _ k => XS.iload X32.here hx rfl (hb hby at_328) rfl k) ?_
  show Goes p.tables e below (T32.setTop (mkF m 330 #[.val (.int pa), .val (.int pb), .val (.int pc0), .val (.int pd), .val (.int pp), .val (.int pk), .val (.int x1), .val (.int (Int32.ofNat nk0)), .val (.int (Int32.ofNat nk1)), .val (.int (Int32.ofNat nk2)), .val (.int (Int32.ofNat nk3)), .val (.ref b6), .val (.ref b11), .val (.ref b16), .val (.ref oz_17), .val (.int (1 : Int32)), .val (.int x24), .val (.int x27), .val (.int x31), .unset] [(.int (Int32.ofNat nk3)), (.int (Int32.ofNat nk0)), (.int (fn3 (Int32.ofNat nk3) (Int32.ofNat nk0) (Int32.ofNat nk1) (Int32.ofNat nk2) (Int32.ofNat nk3)))])) _
  obtain ⟨_, _, ⟨T33, L33, k33, n33⟩, -, X33, ⟨Lc33, hQ33, l33, y33, z33⟩, st33⟩ := Jvm.LawKit.callS X32 hx (y := (⟨"com/example/xml_graph_join/xmlgraphjoin/graph/CountingSortSortPinLaw", "eq", "(II)I"⟩ : MethodName)) hown (mvT hZ (hw _ (List.mem_of_getElem? (i := 15) rfl))) (mvT hZ (hw _ (List.mem_of_getElem? (i := 16) rfl))) (mvT hZ (hw _ (List.mem_of_getElem? (i := 7) rfl))) (mvT hZ (hw _ (List.mem_of_getElem? (i := 17) rfl))) (by decide) (backOf (W := 1) (rm5 l Z a0 hw [] (Int32.ofNat nk0) (Int32.ofNat nk3) T17.heap n0 Zs17) hZ (hw _ (List.mem_of_getElem? (i := 17) rfl)) (hw _ (List.mem_of_getElem? (i := 7) rfl)) (by decide) (by decide)) (g := (mkF m 330 #[.val (.int pa), .val (.int pb), .val (.int pc0), .val (.int pd), .val (.int pp), .val (.int pk), .val (.int x1), .val (.int (Int32.ofNat nk0)), .val (.int (Int32.ofNat nk1)), .val (.int (Int32.ofNat nk2)), .val (.int (Int32.ofNat nk3)), .val (.ref b6), .val (.ref b11), .val (.ref b16), .val (.ref oz_17), .val (.int (1 : Int32)), .val (.int x24), .val (.int x27), .val (.int x31), .unset] [(.int (Int32.ofNat nk3)), (.int (Int32.ofNat nk0)), (.int (fn3 (Int32.ofNat nk3) (Int32.ofNat nk0) (Int32.ofNat nk1) (Int32.ofNat nk2) (Int32.ofNat nk3)))])) rfl (by rw [hml]; rfl) (argsL := [(.int (Int32.ofNat nk0)), (.int (Int32.ofNat nk3))]) (rest := [(.int (fn3 (Int32.ofNat nk3) (Int32.ofNat nk0) (Int32.ofNat nk1) (Int32.ofNat nk2) (Int32.ofNat nk3)))]) (lenOf pd_0 rfl) rfl (by show 2 * 0 + (1 + 0) ≤ _; decide) (hb hby at_330) (fun _ _ => ⟨rfl, e32, (by decide : 5 + 0 ≤ _), (by decide : 21 + 0 ≤ _)⟩)
  dsimp only [Pt.U, Pt.locs, Pt.cells, Pt.slots] at X33 l33 y33 z33 st33 hQ33
  rw [l33, y33, z33] at X33
  obtain ⟨rfl, N33q, e33⟩ := hQ33
  have N33 := Fr.app N32 N33q
  refine Goes.by st33 ?_
  show Goes p.tables e below (T33.setTop (mkF m 333 #[.val (.int pa), .val (.int pb), .val (.int pc0), .val (.int pd), .val (.int pp), .val (.int pk), .val (.int x1), .val (.int (Int32.ofNat nk0)), .val (.int (Int32.ofNat nk1)), .val (.int (Int32.ofNat nk2)), .val (.int (Int32.ofNat nk3)), .val (.ref b6), .val (.ref b11), .val (.ref b16), .val (.ref oz_17), .val (.int (1 : Int32)), .val (.int x24), .val (.int x27), .val (.int x31), .unset] [(.int (fn5 (Int32.ofNat nk0) (Int32.ofNat nk3))), (.int (fn3 (Int32.ofNat nk3) (Int32.ofNat nk0) (Int32.ofNat nk1) (Int32.ofNat nk2) (Int32.ofNat nk3)))])) _
  refine Goes.by (fun _ k => XS.iadd X33.here hx rfl (hb hby at_333) rfl k) ?_
  show Goes p.tables e below (T33.setTop (mkF m 334 #[.val (.int pa), .val (.int pb), .val (.int pc0), .val (.int pd), .val (.int pp), .val (.int pk), .val (.int x1), .val (.int (Int32.ofNat nk0)), .val (.int (Int32.ofNat nk1)), .val (.int (Int32.ofNat nk2)), .val (.int (Int32.ofNat nk3)), .val (.ref b6), .val (.ref b11), .val (.ref b16), .val (.ref oz_17), .val (.int (1 : Int32)), .val (.int x24), .val (.int x27), .val (.int x31), .unset] [(.int ((fn3 (Int32.ofNat nk3) (Int32.ofNat nk0) (Int32.ofNat nk1) (Int32.ofNat nk2) (Int32.ofNat nk3)) + (fn5 (Int32.ofNat nk0) (Int32.ofNat nk3))))])) _
  refine Goes.by (fun _ k => XS.iload X33.here hx rfl (hb hby at_334) rfl k) ?_
  show Goes p.tables e below (T33.setTop (mkF m 336 #[.val (.int pa), .val (.int pb), .val (.int pc0), .val (.int pd), .val (.int pp), .val (.int pk), .val (.int x1), .val (.int (Int32.ofNat nk0)), .val (.int (Int32.ofNat nk1)), .val (.int (Int32.ofNat nk2)), .val (.int (Int32.ofNat nk3)), .val (.ref b6), .val (.ref b11), .val (.ref b16), .val (.ref oz_17), .val (.int (1 : Int32)), .val (.int x24), .val (.int x27), .val (.int x31), .unset] [(.int (Int32.ofNat nk1)), (.int ((fn3 (Int32.ofNat nk3) (Int32.ofNat nk0) (Int32.ofNat nk1) (Int32.ofNat nk2) (Int32.ofNat nk3)) + (fn5 (Int32.ofNat nk0) (Int32.ofNat nk3))))])) _
  refine Goes.by (fun _ k => XS.iload X33.here hx rfl (hb hby at_336) rfl k) ?_
  show Goes p.tables e below (T33.setTop (mkF m 338 #[.val (.int pa), .val (.int pb), .val (.int pc0), .val (.int pd), .val (.int pp), .val (.int pk), .val (.int x1), .val (.int (Int32.ofNat nk0)), .val (.int (Int32.ofNat nk1)), .val (.int (Int32.ofNat nk2)), .val (.int (Int32.ofNat nk3)), .val (.ref b6), .val (.ref b11), .val (.ref b16), .val (.ref oz_17), .val (.int (1 : Int32)), .val (.int x24), .val (.int x27), .val (.int x31), .unset] [(.int (Int32.ofNat nk3)), (.int (Int32.ofNat nk1)), (.int ((fn3 (Int32.ofNat nk3) (Int32.ofNat nk0) (Int32.ofNat nk1) (Int32.ofNat nk2) (Int32.ofNat nk3)) + (fn5 (Int32.ofNat nk0) (Int32.ofNat nk3))))])) _
  obtain ⟨_, _, ⟨T34, L34, k34, n34⟩, -, X34, ⟨Lc34, hQ34, l34, y34, z34⟩, st34⟩ := Jvm.LawKit.callS X33 hx (y := (⟨"com/example/xml_graph_join/xmlgraphjoin/graph/CountingSortSortPinLaw", "eq", "(II)I"⟩ : MethodName)) hown (mvT hZ (hw _ (List.mem_of_getElem? (i := 15) rfl))) (mvT hZ (hw _ (List.mem_of_getElem? (i := 16) rfl))) (mvT hZ (hw _ (List.mem_of_getElem? (i := 7) rfl))) (mvT hZ (hw _ (List.mem_of_getElem? (i := 17) rfl))) (by decide) (backOf (W := 1) (rm5 l Z a0 hw [] (Int32.ofNat nk1) (Int32.ofNat nk3) T17.heap n0 Zs17) hZ (hw _ (List.mem_of_getElem? (i := 17) rfl)) (hw _ (List.mem_of_getElem? (i := 7) rfl)) (by decide) (by decide)) (g := (mkF m 338 #[.val (.int pa), .val (.int pb), .val (.int pc0), .val (.int pd), .val (.int pp), .val (.int pk), .val (.int x1), .val (.int (Int32.ofNat nk0)), .val (.int (Int32.ofNat nk1)), .val (.int (Int32.ofNat nk2)), .val (.int (Int32.ofNat nk3)), .val (.ref b6), .val (.ref b11), .val (.ref b16), .val (.ref oz_17), .val (.int (1 : Int32)), .val (.int x24), .val (.int x27), .val (.int x31), .unset] [(.int (Int32.ofNat nk3)), (.int (Int32.ofNat nk1)), (.int ((fn3 (Int32.ofNat nk3) (Int32.ofNat nk0) (Int32.ofNat nk1) (Int32.ofNat nk2) (Int32.ofNat nk3)) + (fn5 (Int32.ofNat nk0) (Int32.ofNat nk3))))])) rfl (by rw [hml]; rfl) (argsL := [(.int (Int32.ofNat nk1)), (.int (Int32.ofNat nk3))]) (rest := [(.int ((fn3 (Int32.ofNat nk3) (Int32.ofNat nk0) (Int32.ofNat nk1) (Int32.ofNat nk2) (Int32.ofNat nk3)) + (fn5 (Int32.ofNat nk0) (Int32.ofNat nk3))))]) (lenOf pd_0 rfl) rfl (by show 2 * 0 + (1 + 0) ≤ _; decide) (hb hby at_338) (fun _ _ => ⟨rfl, e33, (by decide : 5 + 0 ≤ _), (by decide : 21 + 0 ≤ _)⟩)
  dsimp only [Pt.U, Pt.locs, Pt.cells, Pt.slots] at X34 l34 y34 z34 st34 hQ34
  rw [l34, y34, z34] at X34
  obtain ⟨rfl, N34q, e34⟩ := hQ34
  have N34 := Fr.app N33 N34q
  refine Goes.by st34 ?_
  show Goes p.tables e below (T34.setTop (mkF m 341 #[.val (.int pa), .val (.int pb), .val (.int pc0), .val (.int pd), .val (.int pp), .val (.int pk), .val (.int x1), .val (.int (Int32.ofNat nk0)), .val (.int (Int32.ofNat nk1)), .val (.int (Int32.ofNat nk2)), .val (.int (Int32.ofNat nk3)), .val (.ref b6), .val (.ref b11), .val (.ref b16), .val (.ref oz_17), .val (.int (1 : Int32)), .val (.int x24), .val (.int x27), .val (.int x31), .unset] [(.int (fn5 (Int32.ofNat nk1) (Int32.ofNat nk3))), (.int ((fn3 (Int32.ofNat nk3) (Int32.ofNat nk0) (Int32.ofNat nk1) (Int32.ofNat nk2) (Int32.ofNat nk3)) + (fn5 (Int32.ofNat nk0) (Int32.ofNat nk3))))])) _
  refine Goes.by (fun _ k => XS.iadd X34.here hx rfl (hb hby at_341) rfl k) ?_
  show Goes p.tables e below (T34.setTop (mkF m 342 #[.val (.int pa), .val (.int pb), .val (.int pc0), .val (.int pd), .val (.int pp), .val (.int pk), .val (.int x1), .val (.int (Int32.ofNat nk0)), .val (.int (Int32.ofNat nk1)), .val (.int (Int32.ofNat nk2)), .val (.int (Int32.ofNat nk3)), .val (.ref b6), .val (.ref b11), .val (.ref b16), .val (.ref oz_17), .val (.int (1 : Int32)), .val (.int x24), .val (.int x27), .val (.int x31), .unset] [(.int (((fn3 (Int32.ofNat nk3) (Int32.ofNat nk0) (Int32.ofNat nk1) (Int32.ofNat nk2) (Int32.ofNat nk3)) + (fn5 (Int32.ofNat nk0) (Int32.ofNat nk3))) + (fn5 (Int32.ofNat nk1) (Int32.ofNat nk3))))])) _
  refine Goes.by (fun _ k => XS.iload X34.here hx rfl (hb hby at_342) rfl k) ?_
  show Goes p.tables e below (T34.setTop (mkF m 344 #[.val (.int pa), .val (.int pb), .val (.int pc0), .val (.int pd), .val (.int pp), .val (.int pk), .val (.int x1), .val (.int (Int32.ofNat nk0)), .val (.int (Int32.ofNat nk1)), .val (.int (Int32.ofNat nk2)), .val (.int (Int32.ofNat nk3)), .val (.ref b6), .val (.ref b11), .val (.ref b16), .val (.ref oz_17), .val (.int (1 : Int32)), .val (.int x24), .val (.int x27), .val (.int x31), .unset] [(.int (Int32.ofNat nk2)), (.int (((fn3 (Int32.ofNat nk3) (Int32.ofNat nk0) (Int32.ofNat nk1) (Int32.ofNat nk2) (Int32.ofNat nk3)) + (fn5 (Int32.ofNat nk0) (Int32.ofNat nk3))) + (fn5 (Int32.ofNat nk1) (Int32.ofNat nk3))))])) _
  refine Goes.by (fun _ k => XS.iload X34.here hx rfl (hb hby at_344) rfl k) ?_
  show Goes p.tables e below (T34.setTop (mkF m 346 #[.val (.int pa), .val (.int pb), .val (.int pc0), .val (.int pd), .val (.int pp), .val (.int pk), .val (.int x1), .val (.int (Int32.ofNat nk0)), .val (.int (Int32.ofNat nk1)), .val (.int (Int32.ofNat nk2)), .val (.int (Int32.ofNat nk3)), .val (.ref b6), .val (.ref b11), .val (.ref b16), .val (.ref oz_17), .val (.int (1 : Int32)), .val (.int x24), .val (.int x27), .val (.int x31), .unset] [(.int (Int32.ofNat nk3)), (.int (Int32.ofNat nk2)), (.int (((fn3 (Int32.ofNat nk3) (Int32.ofNat nk0) (Int32.ofNat nk1) (Int32.ofNat nk2) (Int32.ofNat nk3)) + (fn5 (Int32.ofNat nk0) (Int32.ofNat nk3))) + (fn5 (Int32.ofNat nk1) (Int32.ofNat nk3))))])) _
  obtain ⟨_, _, ⟨T35, L35, k35, n35⟩, -, X35, ⟨Lc35, hQ35, l35, y35, z35⟩, st35⟩ := Jvm.LawKit.callS X34 hx (y := (⟨"com/example/xml_graph_join/xmlgraphjoin/graph/CountingSortSortPinLaw", "eq", "(II)I"⟩ : MethodName)) hown (mvT hZ (hw _ (List.mem_of_getElem? (i := 15) rfl))) (mvT hZ (hw _ (List.mem_of_getElem? (i := 16) rfl))) (mvT hZ (hw _ (List.mem_of_getElem? (i := 7) rfl))) (mvT hZ (hw _ (List.mem_of_getElem? (i := 17) rfl))) (by decide) (backOf (W := 1) (rm5 l Z a0 hw [] (Int32.ofNat nk2) (Int32.ofNat nk3) T17.heap n0 Zs17) hZ (hw _ (List.mem_of_getElem? (i := 17) rfl)) (hw _ (List.mem_of_getElem? (i := 7) rfl)) (by decide) (by decide)) (g := (mkF m 346 #[.val (.int pa), .val (.int pb), .val (.int pc0), .val (.int pd), .val (.int pp), .val (.int pk), .val (.int x1), .val (.int (Int32.ofNat nk0)), .val (.int (Int32.ofNat nk1)), .val (.int (Int32.ofNat nk2)), .val (.int (Int32.ofNat nk3)), .val (.ref b6), .val (.ref b11), .val (.ref b16), .val (.ref oz_17), .val (.int (1 : Int32)), .val (.int x24), .val (.int x27), .val (.int x31), .unset] [(.int (Int32.ofNat nk3)), (.int (Int32.ofNat nk2)), (.int (((fn3 (Int32.ofNat nk3) (Int32.ofNat nk0) (Int32.ofNat nk1) (Int32.ofNat nk2) (Int32.ofNat nk3)) + (fn5 (Int32.ofNat nk0) (Int32.ofNat nk3))) + (fn5 (Int32.ofNat nk1) (Int32.ofNat nk3))))])) rfl (by rw [hml]; rfl) (argsL := [(.int (Int32.ofNat nk2)), (.int (Int32.ofNat nk3))]) (rest := [(.int (((fn3 (Int32.ofNat nk3) (Int32.ofNat nk0) (Int32.ofNat nk1) (Int32.ofNat nk2) (Int32.ofNat nk3)) + (fn5 (Int32.ofNat nk0) (Int32.ofNat nk3))) + (fn5 (Int32.ofNat nk1) (Int32.ofNat nk3))))]) (lenOf pd_0 rfl) rfl (by show 2 * 0 + (1 + 0) ≤ _; decide) (hb hby at_346) (fun _ _ => ⟨rfl, e34, (by decide : 5 + 0 ≤ _), (by decide : 21 + 0 ≤ _)⟩)
  dsimp only [Pt.U, Pt.locs, Pt.cells, Pt.slots] at X35 l35 y35 z35 st35 hQ35
  rw [l35, y35, z35] at X35
  obtain ⟨rfl, N35q, e35⟩ := hQ35
  have N35 := Fr.app N34 N35q
  refine Goes.by st35 ?_
  show Goes p.tables e below (T35.setTop (mkF m 349 #[.val (.int pa), .val (.int pb), .val (.int pc0), .val (.int pd), .val (.int pp), .val (.int pk), .val (.int x1), .val (.int (Int32.ofNat nk0)), .val (.int (Int32.ofNat nk1)), .val (.int (Int32.ofNat nk2)), .val (.int (Int32.ofNat nk3)), .val (.ref b6), .val (.ref b11), .val (.ref b16), .val (.ref oz_17), .val (.int (1 : Int32)), .val (.int x24), .val (.int x27), .val (.int x31), .unset] [(.int (fn5 (Int32.ofNat nk2) (Int32.ofNat nk3))), (.int (((fn3 (Int32.ofNat nk3) (Int32.ofNat nk0) (Int32.ofNat nk1) (Int32.ofNat nk2) (Int32.ofNat nk3)) + (fn5 (Int32.ofNat nk0) (Int32.ofNat nk3))) + (fn5 (Int32.ofNat nk1) (Int32.ofNat nk3))))])) _
  refine Goes.by (fun _ k => XS.iadd X35.here hx rfl (hb hby at_349) rfl k) ?_
  show Goes p.tables e below (T35.setTop (mkF m 350 #[.val (.int pa), .val (.int pb), .val (.int pc0), .val (.int pd), .val (.int pp), .val (.int pk), .val (.int x1), .val (.int (Int32.ofNat nk0)), .val (.int (Int32.ofNat nk1)), .val (.int (Int32.ofNat nk2)), .val (.int (Int32.ofNat nk3)), .val (.ref b6), .val (.ref b11), .val (.ref b16), .val (.ref oz_17), .val (.int (1 : Int32)), .val (.int x24), .val (.int x27), .val (.int x31), .unset] [(.int ((((fn3 (Int32.ofNat nk3) (Int32.ofNat nk0) (Int32.ofNat nk1) (Int32.ofNat nk2) (Int32.ofNat nk3)) + (fn5 (Int32.ofNat nk0) (Int32.ofNat nk3))) + (fn5 (Int32.ofNat nk1) (Int32.ofNat nk3))) + (fn5 (Int32.ofNat nk2) (Int32.ofNat nk3))))])) _
  obtain ⟨x36, hx36⟩ : ∃ z : Int32, z = ((((fn3 (Int32.ofNat nk3) (Int32.ofNat nk0) (Int32.ofNat nk1) (Int32.ofNat nk2) (Int32.ofNat nk3)) + (fn5 (Int32.ofNat nk0) (Int32.ofNat nk3))) + (fn5 (Int32.ofNat nk1) (Int32.ofNat nk3))) + (fn5 (Int32.ofNat nk2) (Int32.ofNat nk3))) := ⟨_, rfl⟩
  refine Goes.by (fun _ k => XS.istore X35.here hx rfl (hb hby at_350) rfl (l' := #[.val (.int pa), .val (.int pb), .val (.int pc0), .val (.int pd), .val (.int pp), .val (.int pk), .val (.int x1), .val (.int (Int32.ofNat nk0)), .val (.int (Int32.ofNat nk1)), .val (.int (Int32.ofNat nk2)), .val (.int (Int32.ofNat nk3)), .val (.ref b6), .val (.ref b11), .val (.ref b16), .val (.ref oz_17), .val (.int (1 : Int32)), .val (.int x24), .val (.int x27), .val (.int x31), .val (.int x36)]) (by rw [hx36]; rfl) k) ?_
  show Goes p.tables e below (T35.setTop (mkF m 352 #[.val (.int pa), .val (.int pb), .val (.int pc0), .val (.int pd), .val (.int pp), .val (.int pk), .val (.int x1), .val (.int (Int32.ofNat nk0)), .val (.int (Int32.ofNat nk1)), .val (.int (Int32.ofNat nk2)), .val (.int (Int32.ofNat nk3)), .val (.ref b6), .val (.ref b11), .val (.ref b16), .val (.ref oz_17), .val (.int (1 : Int32)), .val (.int x24), .val (.int x27), .val (.int x31), .val (.int x36)] [])) _
  refine Goes.by (fun _ k => XS.iload X35.here hx rfl (hb hby at_352) rfl k) ?_
  show Goes p.tables e below (T35.setTop (mkF m 354 #[.val (.int pa), .val (.int pb), .val (.int pc0), .val (.int pd), .val (.int pp), .val (.int pk), .val (.int x1), .val (.int (Int32.ofNat nk0)), .val (.int (Int32.ofNat nk1)), .val (.int (Int32.ofNat nk2)), .val (.int (Int32.ofNat nk3)), .val (.ref b6), .val (.ref b11), .val (.ref b16), .val (.ref oz_17), .val (.int (1 : Int32)), .val (.int x24), .val (.int x27), .val (.int x31), .val (.int x36)] [(.int (1 : Int32))])) _
  refine Goes.by (fun _ k => XS.ifNo X35.here hx rfl (hb hby at_354) rfl ((if0 _ _).trans (feq (by decide : ¬ ((1 : Int32) = (0 : Int32)))).1) k) ?_
  show Goes p.tables e below (T35.setTop (mkF m 357 #[.val (.int pa), .val (.int pb), .val (.int pc0), .val (.int pd), .val (.int pp), .val (.int pk), .val (.int x1), .val (.int (Int32.ofNat nk0)), .val (.int (Int32.ofNat nk1)), .val (.int (Int32.ofNat nk2)), .val (.int (Int32.ofNat nk3)), .val (.ref b6), .val (.ref b11), .val (.ref b16), .val (.ref oz_17), .val (.int (1 : Int32)), .val (.int x24), .val (.int x27), .val (.int x31), .val (.int x36)] [])) _
  refine Goes.by (fun _ k => XS.aload X35.here hx rfl (hb hby at_357) rfl rfl k) ?_
  show Goes p.tables e below (T35.setTop (mkF m 359 #[.val (.int pa), .val (.int pb), .val (.int pc0), .val (.int pd), .val (.int pp), .val (.int pk), .val (.int x1), .val (.int (Int32.ofNat nk0)), .val (.int (Int32.ofNat nk1)), .val (.int (Int32.ofNat nk2)), .val (.int (Int32.ofNat nk3)), .val (.ref b6), .val (.ref b11), .val (.ref b16), .val (.ref oz_17), .val (.int (1 : Int32)), .val (.int x24), .val (.int x27), .val (.int x31), .val (.int x36)] [(.ref b16)])) _
  refine Goes.by (fun _ k => XS.iload X35.here hx rfl (hb hby at_359) rfl k) ?_
  show Goes p.tables e below (T35.setTop (mkF m 361 #[.val (.int pa), .val (.int pb), .val (.int pc0), .val (.int pd), .val (.int pp), .val (.int pk), .val (.int x1), .val (.int (Int32.ofNat nk0)), .val (.int (Int32.ofNat nk1)), .val (.int (Int32.ofNat nk2)), .val (.int (Int32.ofNat nk3)), .val (.ref b6), .val (.ref b11), .val (.ref b16), .val (.ref oz_17), .val (.int (1 : Int32)), .val (.int x24), .val (.int x27), .val (.int x31), .val (.int x36)] [(.int x24), (.ref b16)])) _
  obtain ⟨x37, hx37⟩ : ∃ z : Int32, z = ((up (up (up (up (fun _ => (0 : Int32)) (own_rank0 nk0 nk1 nk2 nk3) pa) (own_rank1 nk0 nk1 nk2 nk3) pb) (own_rank2 nk0 nk1 nk2 nk3) pc0) (own_rank3 nk0 nk1 nk2 nk3) pd) (own_rank0 nk0 nk1 nk2 nk3)) := ⟨_, rfl⟩
  refine Goes.by (fun _ k => ldI (v := x37) (fr := (mkF m 361 #[.val (.int pa), .val (.int pb), .val (.int pc0), .val (.int pd), .val (.int pp), .val (.int pk), .val (.int x1), .val (.int (Int32.ofNat nk0)), .val (.int (Int32.ofNat nk1)), .val (.int (Int32.ofNat nk2)), .val (.int (Int32.ofNat nk3)), .val (.ref b6), .val (.ref b11), .val (.ref b16), .val (.ref oz_17), .val (.int (1 : Int32)), .val (.int x24), .val (.int x27), .val (.int x31), .val (.int x36)] [(.int x24), (.ref b16)])) X35 hx hZ e35 A_b16 (i := (own_rank0 nk0 nk1 nk2 nk3)) (by rw [hx24]; exact (own_rk0 ⟨nk0, hb0⟩ ⟨nk1, hb1⟩ ⟨nk2, hb2⟩ ⟨nk3, hb3⟩).1) (own_rk0 ⟨nk0, hb0⟩ ⟨nk1, hb1⟩ ⟨nk2, hb2⟩ ⟨nk3, hb3⟩).2 hx37 rfl rfl (hb hby at_361) k) ?_
  show Goes p.tables e below (T35.setTop (mkF m 362 #[.val (.int pa), .val (.int pb), .val (.int pc0), .val (.int pd), .val (.int pp), .val (.int pk), .val (.int x1), .val (.int (Int32.ofNat nk0)), .val (.int (Int32.ofNat nk1)), .val (.int (Int32.ofNat nk2)), .val (.int (Int32.ofNat nk3)), .val (.ref b6), .val (.ref b11), .val (.ref b16), .val (.ref oz_17), .val (.int (1 : Int32)), .val (.int x24), .val (.int x27), .val (.int x31), .val (.int x36)] [(.int x37)])) _
  refine Goes.by (fun _ k => XS.iloadN X35.here hx rfl (hb hby at_362) rfl k) ?_
  show Goes p.tables e below (T35.setTop (mkF m 363 #[.val (.int pa), .val (.int pb), .val (.int pc0), .val (.int pd), .val (.int pp), .val (.int pk), .val (.int x1), .val (.int (Int32.ofNat nk0)), .val (.int (Int32.ofNat nk1)), .val (.int (Int32.ofNat nk2)), .val (.int (Int32.ofNat nk3)), .val (.ref b6), .val (.ref b11), .val (.ref b16), .val (.ref oz_17), .val (.int (1 : Int32)), .val (.int x24), .val (.int x27), .val (.int x31), .val (.int x36)] [(.int pa), (.int x37)])) _
  refine Goes.by (fun _ k => XS.icmpNo X35.here hx rfl (hb hby at_363) rfl (teq (by rw [hx37]; exact (own_S _ _ _ _ _ _ _ _ _ (own_dist ⟨nk0, hb0⟩ ⟨nk1, hb1⟩ ⟨nk2, hb2⟩ ⟨nk3, hb3⟩)).1 : x37 = pa)).2 k) ?_
  show Goes p.tables e below (T35.setTop (mkF m 366 #[.val (.int pa), .val (.int pb), .val (.int pc0), .val (.int pd), .val (.int pp), .val (.int pk), .val (.int x1), .val (.int (Int32.ofNat nk0)), .val (.int (Int32.ofNat nk1)), .val (.int (Int32.ofNat nk2)), .val (.int (Int32.ofNat nk3)), .val (.ref b6), .val (.ref b11), .val (.ref b16), .val (.ref oz_17), .val (.int (1 : Int32)), .val (.int x24), .val (.int x27), .val (.int x31), .val (.int x36)] [])) _
  refine Goes.by (fun _ k => XS.aload X35.here hx rfl (hb hby at_366) rfl rfl k) ?_
  show Goes p.tables e below (T35.setTop (mkF m 368 #[.val (.int pa), .val (.int pb), .val (.int pc0), .val (.int pd), .val (.int pp), .val (.int pk), .val (.int x1), .val (.int (Int32.ofNat nk0)), .val (.int (Int32.ofNat nk1)), .val (.int (Int32.ofNat nk2)), .val (.int (Int32.ofNat nk3)), .val (.ref b6), .val (.ref b11), .val (.ref b16), .val (.ref oz_17), .val (.int (1 : Int32)), .val (.int x24), .val (.int x27), .val (.int x31), .val (.int x36)] [(.ref b16)])) _
  refine Goes.by (fun _ k => XS.iload X35.here hx rfl (hb hby at_368) rfl k) ?_
  show Goes p.tables e below (T35.setTop (mkF m 370 #[.val (.int pa), .val (.int pb), .val (.int pc0), .val (.int pd), .val (.int pp), .val (.int pk), .val (.int x1), .val (.int (Int32.ofNat nk0)), .val (.int (Int32.ofNat nk1)), .val (.int (Int32.ofNat nk2)), .val (.int (Int32.ofNat nk3)), .val (.ref b6), .val (.ref b11), .val (.ref b16), .val (.ref oz_17), .val (.int (1 : Int32)), .val (.int x24), .val (.int x27), .val (.int x31), .val (.int x36)] [(.int x27), (.ref b16)])) _
  obtain ⟨x38, hx38⟩ : ∃ z : Int32, z = ((up (up (up (up (fun _ => (0 : Int32)) (own_rank0 nk0 nk1 nk2 nk3) pa) (own_rank1 nk0 nk1 nk2 nk3) pb) (own_rank2 nk0 nk1 nk2 nk3) pc0) (own_rank3 nk0 nk1 nk2 nk3) pd) (own_rank1 nk0 nk1 nk2 nk3)) := ⟨_, rfl⟩
  refine Goes.by (fun _ k => ldI (v := x38) (fr := (mkF m 370 #[.val (.int pa), .val (.int pb), .val (.int pc0), .val (.int pd), .val (.int pp), .val (.int pk), .val (.int x1), .val (.int (Int32.ofNat nk0)), .val (.int (Int32.ofNat nk1)), .val (.int (Int32.ofNat nk2)), .val (.int (Int32.ofNat nk3)), .val (.ref b6), .val (.ref b11), .val (.ref b16), .val (.ref oz_17), .val (.int (1 : Int32)), .val (.int x24), .val (.int x27), .val (.int x31), .val (.int x36)] [(.int x27), (.ref b16)])) X35 hx hZ e35 A_b16 (i := (own_rank1 nk0 nk1 nk2 nk3)) (by rw [hx27]; exact (own_rk1 ⟨nk0, hb0⟩ ⟨nk1, hb1⟩ ⟨nk2, hb2⟩ ⟨nk3, hb3⟩).1) (own_rk1 ⟨nk0, hb0⟩ ⟨nk1, hb1⟩ ⟨nk2, hb2⟩ ⟨nk3, hb3⟩).2 hx38 rfl rfl (hb hby at_370) k) ?_
  show Goes p.tables e below (T35.setTop (mkF m 371 #[.val (.int pa), .val (.int pb), .val (.int pc0), .val (.int pd), .val (.int pp), .val (.int pk), .val (.int x1), .val (.int (Int32.ofNat nk0)), .val (.int (Int32.ofNat nk1)), .val (.int (Int32.ofNat nk2)), .val (.int (Int32.ofNat nk3)), .val (.ref b6), .val (.ref b11), .val (.ref b16), .val (.ref oz_17), .val (.int (1 : Int32)), .val (.int x24), .val (.int x27), .val (.int x31), .val (.int x36)] [(.int x38)])) _
  refine Goes.by (fun _ k => XS.iloadN X35.here hx rfl (hb hby at_371) rfl k) ?_
  show Goes p.tables e below (T35.setTop (mkF m 372 #[.val (.int pa), .val (.int pb), .val (.int pc0), .val (.int pd), .val (.int pp), .val (.int pk), .val (.int x1), .val (.int (Int32.ofNat nk0)), .val (.int (Int32.ofNat nk1)), .val (.int (Int32.ofNat nk2)), .val (.int (Int32.ofNat nk3)), .val (.ref b6), .val (.ref b11), .val (.ref b16), .val (.ref oz_17), .val (.int (1 : Int32)), .val (.int x24), .val (.int x27), .val (.int x31), .val (.int x36)] [(.int pb), (.int x38)])) _
  refine Goes.by (fun _ k => XS.icmpNo X35.here hx rfl (hb hby at_372) rfl (teq (by rw [hx38]; exact (own_S _ _ _ _ _ _ _ _ _ (own_dist ⟨nk0, hb0⟩ ⟨nk1, hb1⟩ ⟨nk2, hb2⟩ ⟨nk3, hb3⟩)).2.1 : x38 = pb)).2 k) ?_
  show Goes p.tables e below (T35.setTop (mkF m 375 #[.val (.int pa), .val (.int pb), .val (.int pc0), .val (.int pd), .val (.int pp), .val (.int pk), .val (.int x1), .val (.int (Int32.ofNat nk0)), .val (.int (Int32.ofNat nk1)), .val (.int (Int32.ofNat nk2)), .val (.int (Int32.ofNat nk3)), .val (.ref b6), .val (.ref b11), .val (.ref b16), .val (.ref oz_17), .val (.int (1 : Int32)), .val (.int x24), .val (.int x27), .val (.int x31), .val (.int x36)] [])) _
  refine Goes.by (fun _ k => XS.aload X35.here hx rfl (hb hby at_375) rfl rfl k) ?_
  show Goes p.tables e below (T35.setTop (mkF m 377 #[.val (.int pa), .val (.int pb), .val (.int pc0), .val (.int pd), .val (.int pp), .val (.int pk), .val (.int x1), .val (.int (Int32.ofNat nk0)), .val (.int (Int32.ofNat nk1)), .val (.int (Int32.ofNat nk2)), .val (.int (Int32.ofNat nk3)), .val (.ref b6), .val (.ref b11), .val (.ref b16), .val (.ref oz_17), .val (.int (1 : Int32)), .val (.int x24), .val (.int x27), .val (.int x31), .val (.int x36)] [(.ref b16)])) _
  refine Goes.by (fun _ k => XS.iload X35.here hx rfl (hb hby at_377) rfl k) ?_
  show Goes p.tables e below (T35.setTop (mkF m 379 #[.val (.int pa), .val (.int pb), .val (.int pc0), .val (.int pd), .val (.int pp), .val (.int pk), .val (.int x1), .val (.int (Int32.ofNat nk0)), .val (.int (Int32.ofNat nk1)), .val (.int (Int32.ofNat nk2)), .val (.int (Int32.ofNat nk3)), .val (.ref b6), .val (.ref b11), .val (.ref b16), .val (.ref oz_17), .val (.int (1 : Int32)), .val (.int x24), .val (.int x27), .val (.int x31), .val (.int x36)] [(.int x31), (.ref b16)])) _
  obtain ⟨x39, hx39⟩ : ∃ z : Int32, z = ((up (up (up (up (fun _ => (0 : Int32)) (own_rank0 nk0 nk1 nk2 nk3) pa) (own_rank1 nk0 nk1 nk2 nk3) pb) (own_rank2 nk0 nk1 nk2 nk3) pc0) (own_rank3 nk0 nk1 nk2 nk3) pd) (own_rank2 nk0 nk1 nk2 nk3)) := ⟨_, rfl⟩
  refine Goes.by (fun _ k => ldI (v := x39) (fr := (mkF m 379 #[.val (.int pa), .val (.int pb), .val (.int pc0), .val (.int pd), .val (.int pp), .val (.int pk), .val (.int x1), .val (.int (Int32.ofNat nk0)), .val (.int (Int32.ofNat nk1)), .val (.int (Int32.ofNat nk2)), .val (.int (Int32.ofNat nk3)), .val (.ref b6), .val (.ref b11), .val (.ref b16), .val (.ref oz_17), .val (.int (1 : Int32)), .val (.int x24), .val (.int x27), .val (.int x31), .val (.int x36)] [(.int x31), (.ref b16)])) X35 hx hZ e35 A_b16 (i := (own_rank2 nk0 nk1 nk2 nk3)) (by rw [hx31]; exact (own_rk2 ⟨nk0, hb0⟩ ⟨nk1, hb1⟩ ⟨nk2, hb2⟩ ⟨nk3, hb3⟩).1) (own_rk2 ⟨nk0, hb0⟩ ⟨nk1, hb1⟩ ⟨nk2, hb2⟩ ⟨nk3, hb3⟩).2 hx39 rfl rfl (hb hby at_379) k) ?_
  show Goes p.tables e below (T35.setTop (mkF m 380 #[.val (.int pa), .val (.int pb), .val (.int pc0), .val (.int pd), .val (.int pp), .val (.int pk), .val (.int x1), .val (.int (Int32.ofNat nk0)), .val (.int (Int32.ofNat nk1)), .val (.int (Int32.ofNat nk2)), .val (.int (Int32.ofNat nk3)), .val (.ref b6), .val (.ref b11), .val (.ref b16), .val (.ref oz_17), .val (.int (1 : Int32)), .val (.int x24), .val (.int x27), .val (.int x31), .val (.int x36)] [(.int x39)])) _
  refine Goes.by (fun _ k => XS.iloadN X35.here hx rfl (hb hby at_380) rfl k) ?_
  show Goes p.tables e below (T35.setTop (mkF m 381 #[.val (.int pa), .val (.int pb), .val (.int pc0), .val (.int pd), .val (.int pp), .val (.int pk), .val (.int x1), .val (.int (Int32.ofNat nk0)), .val (.int (Int32.ofNat nk1)), .val (.int (Int32.ofNat nk2)), .val (.int (Int32.ofNat nk3)), .val (.ref b6), .val (.ref b11), .val (.ref b16), .val (.ref oz_17), .val (.int (1 : Int32)), .val (.int x24), .val (.int x27), .val (.int x31), .val (.int x36)] [(.int pc0), (.int x39)])) _
  refine Goes.by (fun _ k => XS.icmpNo X35.here hx rfl (hb hby at_381) rfl (teq (by rw [hx39]; exact (own_S _ _ _ _ _ _ _ _ _ (own_dist ⟨nk0, hb0⟩ ⟨nk1, hb1⟩ ⟨nk2, hb2⟩ ⟨nk3, hb3⟩)).2.2.1 : x39 = pc0)).2 k) ?_
  show Goes p.tables e below (T35.setTop (mkF m 384 #[.val (.int pa), .val (.int pb), .val (.int pc0), .val (.int pd), .val (.int pp), .val (.int pk), .val (.int x1), .val (.int (Int32.ofNat nk0)), .val (.int (Int32.ofNat nk1)), .val (.int (Int32.ofNat nk2)), .val (.int (Int32.ofNat nk3)), .val (.ref b6), .val (.ref b11), .val (.ref b16), .val (.ref oz_17), .val (.int (1 : Int32)), .val (.int x24), .val (.int x27), .val (.int x31), .val (.int x36)] [])) _
  refine Goes.by (fun _ k => XS.aload X35.here hx rfl (hb hby at_384) rfl rfl k) ?_
  show Goes p.tables e below (T35.setTop (mkF m 386 #[.val (.int pa), .val (.int pb), .val (.int pc0), .val (.int pd), .val (.int pp), .val (.int pk), .val (.int x1), .val (.int (Int32.ofNat nk0)), .val (.int (Int32.ofNat nk1)), .val (.int (Int32.ofNat nk2)), .val (.int (Int32.ofNat nk3)), .val (.ref b6), .val (.ref b11), .val (.ref b16), .val (.ref oz_17), .val (.int (1 : Int32)), .val (.int x24), .val (.int x27), .val (.int x31), .val (.int x36)] [(.ref b16)])) _
  refine Goes.by (fun _ k => XS.iload X35.here hx rfl (hb hby at_386) rfl k) ?_
  show Goes p.tables e below (T35.setTop (mkF m 388 #[.val (.int pa), .val (.int pb), .val (.int pc0), .val (.int pd), .val (.int pp), .val (.int pk), .val (.int x1), .val (.int (Int32.ofNat nk0)), .val (.int (Int32.ofNat nk1)), .val (.int (Int32.ofNat nk2)), .val (.int (Int32.ofNat nk3)), .val (.ref b6), .val (.ref b11), .val (.ref b16), .val (.ref oz_17), .val (.int (1 : Int32)), .val (.int x24), .val (.int x27), .val (.int x31), .val (.int x36)] [(.int x36), (.ref b16)])) _
  obtain ⟨x40, hx40⟩ : ∃ z : Int32, z = ((up (up (up (up (fun _ => (0 : Int32)) (own_rank0 nk0 nk1 nk2 nk3) pa) (own_rank1 nk0 nk1 nk2 nk3) pb) (own_rank2 nk0 nk1 nk2 nk3) pc0) (own_rank3 nk0 nk1 nk2 nk3) pd) (own_rank3 nk0 nk1 nk2 nk3)) := ⟨_, rfl⟩
  refine Goes.by (fun _ k => ldI (v := x40) (fr := (mkF m 388 #[.val (.int pa), .val (.int pb), .val (.int pc0), .val (.int pd), .val (.int pp), .val (.int pk), .val (.int x1), .val (.int (Int32.ofNat nk0)), .val (.int (Int32.ofNat nk1)), .val (.int (Int32.ofNat nk2)), .val (.int (Int32.ofNat nk3)), .val (.ref b6), .val (.ref b11), .val (.ref b16), .val (.ref oz_17), .val (.int (1 : Int32)), .val (.int x24), .val (.int x27), .val (.int x31), .val (.int x36)] [(.int x36), (.ref b16)])) X35 hx hZ e35 A_b16 (i := (own_rank3 nk0 nk1 nk2 nk3)) (by rw [hx36]; exact (own_rk3 ⟨nk0, hb0⟩ ⟨nk1, hb1⟩ ⟨nk2, hb2⟩ ⟨nk3, hb3⟩).1) (own_rk3 ⟨nk0, hb0⟩ ⟨nk1, hb1⟩ ⟨nk2, hb2⟩ ⟨nk3, hb3⟩).2 hx40 rfl rfl (hb hby at_388) k) ?_
  show Goes p.tables e below (T35.setTop (mkF m 389 #[.val (.int pa), .val (.int pb), .val (.int pc0), .val (.int pd), .val (.int pp), .val (.int pk), .val (.int x1), .val (.int (Int32.ofNat nk0)), .val (.int (Int32.ofNat nk1)), .val (.int (Int32.ofNat nk2)), .val (.int (Int32.ofNat nk3)), .val (.ref b6), .val (.ref b11), .val (.ref b16), .val (.ref oz_17), .val (.int (1 : Int32)), .val (.int x24), .val (.int x27), .val (.int x31), .val (.int x36)] [(.int x40)])) _
  refine Goes.by (fun _ k => XS.iloadN X35.here hx rfl (hb hby at_389) rfl k) ?_
  show Goes p.tables e below (T35.setTop (mkF m 390 #[.val (.int pa), .val (.int pb), .val (.int pc0), .val (.int pd), .val (.int pp), .val (.int pk), .val (.int x1), .val (.int (Int32.ofNat nk0)), .val (.int (Int32.ofNat nk1)), .val (.int (Int32.ofNat nk2)), .val (.int (Int32.ofNat nk3)), .val (.ref b6), .val (.ref b11), .val (.ref b16), .val (.ref oz_17), .val (.int (1 : Int32)), .val (.int x24), .val (.int x27), .val (.int x31), .val (.int x36)] [(.int pd), (.int x40)])) _
  refine Goes.by (fun _ k => XS.icmpNo X35.here hx rfl (hb hby at_390) rfl (teq (by rw [hx40]; exact (own_S _ _ _ _ _ _ _ _ _ (own_dist ⟨nk0, hb0⟩ ⟨nk1, hb1⟩ ⟨nk2, hb2⟩ ⟨nk3, hb3⟩)).2.2.2 : x40 = pd)).2 k) ?_
  show Goes p.tables e below (T35.setTop (mkF m 393 #[.val (.int pa), .val (.int pb), .val (.int pc0), .val (.int pd), .val (.int pp), .val (.int pk), .val (.int x1), .val (.int (Int32.ofNat nk0)), .val (.int (Int32.ofNat nk1)), .val (.int (Int32.ofNat nk2)), .val (.int (Int32.ofNat nk3)), .val (.ref b6), .val (.ref b11), .val (.ref b16), .val (.ref oz_17), .val (.int (1 : Int32)), .val (.int x24), .val (.int x27), .val (.int x31), .val (.int x36)] [])) _
  refine Goes.by (fun _ k => XS.iconst X35.here hx rfl (hb hby at_393) k) ?_
  show Goes p.tables e below (T35.setTop (mkF m 394 #[.val (.int pa), .val (.int pb), .val (.int pc0), .val (.int pd), .val (.int pp), .val (.int pk), .val (.int x1), .val (.int (Int32.ofNat nk0)), .val (.int (Int32.ofNat nk1)), .val (.int (Int32.ofNat nk2)), .val (.int (Int32.ofNat nk3)), .val (.ref b6), .val (.ref b11), .val (.ref b16), .val (.ref oz_17), .val (.int (1 : Int32)), .val (.int x24), .val (.int x27), .val (.int x31), .val (.int x36)] [(.int (1 : Int32))])) _
  refine Goes.by (fun _ k => XS.goto X35.here hx rfl (pc0 := 394) (pc' := 398) rfl (hb hby at_394) (by decide) (by decide) k) ?_
  show Goes p.tables e below (T35.setTop (mkF m 398 #[.val (.int pa), .val (.int pb), .val (.int pc0), .val (.int pd), .val (.int pp), .val (.int pk), .val (.int x1), .val (.int (Int32.ofNat nk0)), .val (.int (Int32.ofNat nk1)), .val (.int (Int32.ofNat nk2)), .val (.int (Int32.ofNat nk3)), .val (.ref b6), .val (.ref b11), .val (.ref b16), .val (.ref oz_17), .val (.int (1 : Int32)), .val (.int x24), .val (.int x27), .val (.int x31), .val (.int x36)] [(.int (1 : Int32))])) _
  obtain ⟨fs, hr, hrun, hended, hW, hsame⟩ := X35.leave (v := some (.int (1 : Int32))) (fun h => by rw [Bd.returns] at h; cases h)
  refine ⟨_, _, retN X35 hx (t := .boolean) Bd.returns (by simp) (hb hby at_398) hr, hrun, hended, _, _, rfl, ?_, ⟨_, rfl⟩, hW, hsame.mono (by decide) (by decide)⟩
  show Q0 Z pa pb pc0 pd pp pk h0 n0 _ T35.heap _
  rw [e35]
  exact ⟨rfl, N35⟩
set_option maxRecDepth 65536 in
set_option maxHeartbeats 40000000 in
theorem comes_1 {Post : Tables → Env → Array Value → State → Outcome → State → Prop} (hpost : ∀ tb e args s v u, (limb_1_1.after args s (.returned v) u = true ∧ limb_1_2.after args s (.returned v) u = true ∧ True) → FrameEnd s (.returned v) u (Jvm.fieldLocs frame_1_writes args s ++ Jvm.arrayLocs frame_1_arrays args s ++ Jvm.staticLocs frame_1_statics s) 24 128 → Post tb e args s (.returned v) u) :
    ArmFor flags0 classFile x code maxLocals ret World_1 tables_1 room_1 Calls_1 rest_1 Pre_1 Post := by
  intro l hfl _ _ p e ha hc hk s m args below hf hA hF happ hP
  obtain ⟨hcalls, hrest, hpre⟩ := hP
  obtain ⟨-, -, -, hnamed, -, -, -, hat⟩ := (Spec.applies_iff hf).mp happ
  obtain ⟨hg, hn⟩ := and_e (Cond.before_iff.mp (show (Jvm.Cond.and given_1 narrow_1).before args s = true from hpre))
  obtain ⟨g1, g2⟩ := and_e hg
  obtain ⟨g3, g4⟩ := and_e g2
  obtain ⟨g5, g6⟩ := and_e g4
  obtain ⟨g7, g8⟩ := and_e g6
  obtain ⟨g9, g10⟩ := and_e g8
  obtain ⟨g11, g12⟩ := and_e g10
  obtain ⟨w0, w1, w2, w3, w4, w5, rfl⟩ : ∃ w0 w1 w2 w3 w4 w5 : Value, args = #[w0, w1, w2, w3, w4, w5] := by
    have hs : args.size = 6 := by simpa [Cond.value, given_1] using g1
    obtain ⟨L⟩ := args
    match L, hs with
    | [w0, w1, w2, w3, w4, w5], _ => exact ⟨w0, w1, w2, w3, w4, w5, rfl⟩
  have hw := fun d (hd : d ∈ tables_1) => atoms_spec (ws := Jvm.Cond.code x code maxLocals ret :: tables_1) hat d (List.mem_cons_of_mem _ hd)
  have hfit : Fit s := fun {y c} hc i hi => by
    obtain ⟨ha, rfl⟩ := Array.getElem?_eq_some_iff.mp hc
    have q := List.all_eq_true.mp ((Array.all_eq_true_iff_forall_mem.mp hF) _ (Array.getElem_mem ha)) i (List.mem_range.mpr hi)
    simpa [Array.getElem?_eq_getElem hi] using q
  obtain ⟨i0, ei0⟩ := is_v g3
  obtain rfl : w0 = (.int i0) := Option.some.inj ei0
  obtain ⟨i1, ei1⟩ := is_v g5
  obtain rfl : w1 = (.int i1) := Option.some.inj ei1
  obtain ⟨i2, ei2⟩ := is_v g7
  obtain rfl : w2 = (.int i2) := Option.some.inj ei2
  obtain ⟨i3, ei3⟩ := is_v g9
  obtain rfl : w3 = (.int i3) := Option.some.inj ei3
  obtain ⟨i4, ei4⟩ := is_v g11
  obtain rfl : w4 = (.int i4) := Option.some.inj ei4
  obtain ⟨i5, ei5⟩ := is_v g12
  obtain rfl : w5 = (.int i5) := Option.some.inj ei5
  obtain ⟨n, o, h1, h2, h3, _, L, rfl, ⟨hv0, N⟩, hq⟩ := rm0 l s _ hw tables_1 i0 i1 i2 i3 i4 i5 s.heap s.heap.size (Nat.le_refl _) p e ha hc hk s m _ below hf ((Spec.applies_iff_loose hf).mp happ).1 ⟨rfl, State.Warmed39.refl s, rfl⟩ trivial
  subst hv0
  refine ⟨n, _, h1, h2, h3, hpost _ _ _ _ _ _ ⟨Cond.after_iff.mpr rfl, Cond.after_iff.mpr (eq_i res_at (Term.int_eval (1)) rfl), trivial⟩ ⟨hq.1, hq.2.1, (hq.2.2.sift fun y hy => Or.inr (N y hy)).mono (by decide) (by decide)⟩⟩
theorem main_1_1 : Claimed_1_1 := comes_1 fun _ _ _ _ _ _ h hF => ⟨h.1, hF⟩
theorem main_1_2 : Claimed_1_2 := comes_1 fun _ _ _ _ _ _ h hF => ⟨h.2.1, hF⟩
end Jvm.Pilot.@@N@@
namespace Jvm.Pilot.@@N@@
open Jvm Jvm.ClassFile Sem Op Lib Jvm.Free Jvm.Stand Jvm.Pilot.@@N@@.Jvm.D
/-! MADE BY PROGRAM (witnessworld.py) out of the Statement's table words and the real class files: 9 classes; the members and pool entries that the words name. The judged class is class 1, her method 5. -/
namespace start1
open Jvm.ClassFile
def u (s : String) : CpInfo := .utf8 (stringToUtf16 s)
/-- a pool by its gaps: so many unusable entries, then the entry; so many at the end -/
def gap : Nat → List CpInfo → List CpInfo
  | 0, r => r
  | n + 1, r => .unusable :: gap n r
def poolList (es : List (Nat × CpInfo)) (last : Nat) : List CpInfo := es.foldr (fun e r => gap e.1 (e.2 :: r)) (gap last [])
def pool (es : List (Nat × CpInfo)) (last : Nat) : Array CpInfo := ⟨poolList es last⟩
def fileOf (pool : Array CpInfo) (this : Nat) (attrs : Array Attribute := #[]) (ms : Array MethodInfo := #[]) (fl : Nat := 33) (sup : Nat := 0) (ifs : Array Nat := #[]) (fds : Array FieldInfo := #[]) : ClassFile where
  minorVersion := 0
  majorVersion := 65
  constantPool := pool
  accessFlags := fl
  thisClass := this
  superClass := sup
  interfaces := ifs
  fields := fds
  methods := ms
  attributes := attrs
def plain (name : String) (sup : Option ClassId) : Class where
  name := name
  kind := .ordinary
  loader := none
  accessFlags := 33
  super := sup
  interfaces := #[]
  cf := none
  fields := #[]
  methods := #[]
  instanceTypes := #[]
  staticTypes := #[]
  resolved := #[]
  callSites := []
  init := .initialized
  statics := none
  mirror := none

def pool0 : Array CpInfo := pool [(5, u "<init>"), (0, u "()V"), (1, .class_ 10), (1, u "java/lang/Object")] 113

def k0m0 : Method := { name := "<init>", desc := "()V", sig := { parameters := [], returnType := none }, accessFlags := 1, code := none }
/-- java/lang/Object -/
def k0 : Class := { plain "java/lang/Object" none with
  accessFlags := 33
  interfaces := #[]
  cf := some (fileOf pool0 8 #[] #[{ accessFlags := 1, nameIndex := 5, descriptorIndex := 6, attributes := #[] }] 33 0 #[] #[])
  fields := #[]
  methods := #[k0m0]
  instanceTypes := #[]
  staticTypes := #[]
  resolved := Array.replicate 124 none
  statics := none }

def pool1 : Array CpInfo := pool [(2, .class_ 4), (1, u "java/lang/Object"), (0, u "<init>"), (0, u "()V"), (0, .methodref 8 9), (0, .class_ 10), (0, .nameAndType 11 12), (0, u "com/example/xml_graph_join/xmlgraphjoin/graph/CountingSortSortPinLaw"), (0, u "lt"), (0, u "(II)I"), (0, .methodref 8 14), (0, .nameAndType 15 16), (0, u "below"), (0, u "(IIIII)I"), (0, .methodref 18 19), (0, .class_ 20), (0, .nameAndType 21 22), (0, u "com/example/xml_graph_join/xmlgraphjoin/graph/CountingSort"), (0, u "sort"), (0, u "([I[II[I)[I"), (0, .methodref 8 24), (0, .nameAndType 25 26), (0, u "firstOk"), (0, u "([IIIIIII)Z"), (0, .methodref 8 28), (0, .nameAndType 29 12), (0, u "eq"), (3, u "law"), (0, u "(IIIIII)Z")] 4

def k1m0 : Method := { name := "<init>", desc := "()V", sig := { parameters := [], returnType := none }, accessFlags := 1, code := none }
def k1c1 : Code := { maxStack := 2, maxLocals := 2, code := method_2_code, exceptionTable := #[], attributes := #[] }
def k1m1 : Method := { name := "lt", desc := "(II)I", sig := { parameters := [.int, .int], returnType := some .int }, accessFlags := 10, code := some k1c1 }
def k1c2 : Code := { maxStack := 2, maxLocals := 2, code := method_3_code, exceptionTable := #[], attributes := #[] }
def k1m2 : Method := { name := "eq", desc := "(II)I", sig := { parameters := [.int, .int], returnType := some .int }, accessFlags := 10, code := some k1c2 }
def k1c3 : Code := { maxStack := 3, maxLocals := 5, code := method_4_code, exceptionTable := #[], attributes := #[] }
def k1m3 : Method := { name := "below", desc := "(IIIII)I", sig := { parameters := [.int, .int, .int, .int, .int], returnType := some .int }, accessFlags := 10, code := some k1c3 }
def k1c4 : Code := { maxStack := 6, maxLocals := 7, code := method_5_code, exceptionTable := #[], attributes := #[] }
def k1m4 : Method := { name := "firstOk", desc := "([IIIIIII)Z", sig := { parameters := [(.array .int), .int, .int, .int, .int, .int, .int], returnType := some .boolean }, accessFlags := 10, code := some k1c4 }
def k1c5 : Code := { maxStack := 7, maxLocals := 20, code := code, exceptionTable := #[], attributes := #[] }
def k1m5 : Method := { name := "law", desc := "(IIIIII)Z", sig := { parameters := [.int, .int, .int, .int, .int, .int], returnType := some .boolean }, accessFlags := 9, code := some k1c5 }
/-- com/example/xml_graph_join/xmlgraphjoin/graph/CountingSortSortPinLaw -/
def k1 : Class := { plain "com/example/xml_graph_join/xmlgraphjoin/graph/CountingSortSortPinLaw" (some 0) with
  accessFlags := 49
  interfaces := #[]
  cf := some (fileOf pool1 8 #[] #[{ accessFlags := 1, nameIndex := 5, descriptorIndex := 6, attributes := #[] }, { accessFlags := 10, nameIndex := 11, descriptorIndex := 12, attributes := #[] }, { accessFlags := 10, nameIndex := 29, descriptorIndex := 12, attributes := #[] }, { accessFlags := 10, nameIndex := 15, descriptorIndex := 16, attributes := #[] }, { accessFlags := 10, nameIndex := 25, descriptorIndex := 26, attributes := #[] }, { accessFlags := 9, nameIndex := 33, descriptorIndex := 34, attributes := #[] }] 49 2 #[] #[])
  fields := #[]
  methods := #[k1m0, k1m1, k1m2, k1m3, k1m4, k1m5]
  instanceTypes := #[]
  staticTypes := #[]
  resolved := Array.replicate 39 none
  statics := none }

def pool2 : Array CpInfo := pool [(2, .class_ 4), (1, u "java/lang/Object"), (0, u "<init>"), (0, u "()V"), (0, .class_ 8), (0, u "com/example/xml_graph_join/xmlgraphjoin/graph/CountingSort"), (2, u "sort"), (0, u "([I[II[I)[I")] 5

def k2m0 : Method := { name := "<init>", desc := "()V", sig := { parameters := [], returnType := none }, accessFlags := 2, code := none }
def k2c1 : Code := { maxStack := 7, maxLocals := 9, code := prog_49_method_2_code, exceptionTable := #[], attributes := #[] }
def k2m1 : Method := { name := "sort", desc := "([I[II[I)[I", sig := { parameters := [(.array .int), (.array .int), .int, (.array .int)], returnType := some (.array .int) }, accessFlags := 9, code := some k2c1 }
/-- com/example/xml_graph_join/xmlgraphjoin/graph/CountingSort -/
def k2 : Class := { plain "com/example/xml_graph_join/xmlgraphjoin/graph/CountingSort" (some 0) with
  accessFlags := 49
  interfaces := #[]
  cf := some (fileOf pool2 7 #[] #[{ accessFlags := 2, nameIndex := 5, descriptorIndex := 6, attributes := #[] }, { accessFlags := 9, nameIndex := 11, descriptorIndex := 12, attributes := #[] }] 49 2 #[] #[])
  fields := #[]
  methods := #[k2m0, k2m1]
  instanceTypes := #[]
  staticTypes := #[]
  resolved := Array.replicate 18 none
  statics := none }

def pool3 : Array CpInfo := pool [(1, u "java/lang/Cloneable"), (0, .class_ 1), (0, u "java/lang/Object"), (0, .class_ 3)] 3

/-- java/lang/Cloneable -/
def k3 : Class := { plain "java/lang/Cloneable" (some 0) with
  accessFlags := 1537
  interfaces := #[]
  cf := some (fileOf pool3 2 #[] #[] 1537 4 #[] #[])
  fields := #[]
  methods := #[]
  instanceTypes := #[]
  staticTypes := #[]
  resolved := Array.replicate 8 none
  statics := none }

def pool4 : Array CpInfo := pool [(1, u "java/io/Serializable"), (0, .class_ 1), (0, u "java/lang/Object"), (0, .class_ 3)] 3

/-- java/io/Serializable -/
def k4 : Class := { plain "java/io/Serializable" (some 0) with
  accessFlags := 1537
  interfaces := #[]
  cf := some (fileOf pool4 2 #[] #[] 1537 4 #[] #[])
  fields := #[]
  methods := #[]
  instanceTypes := #[]
  staticTypes := #[]
  resolved := Array.replicate 8 none
  statics := none }

/-- the primitive byte -/
def k5 : Class := { plain "byte" none with kind := .primitive 'B', accessFlags := 0x411 }
/-- [B -/
def k6 : Class := { plain "[B" (some 0) with kind := .array 5 .byte, interfaces := #[3, 4], accessFlags := 1041 }

/-- the primitive int -/
def k7 : Class := { plain "int" none with kind := .primitive 'I', accessFlags := 0x411 }
/-- [I -/
def k8 : Class := { plain "[I" (some 0) with kind := .array 7 .int, interfaces := #[3, 4], accessFlags := 1041 }

def heap : Heap := #[]
def classes : Array Class := #[k0, k1, k2, k3, k4, k5, k6, k7, k8]
def interned : List (Array UInt16 × Addr) := []
def slotsUsed : Nat := 0
def theMethod : MethodId := ⟨1, 5⟩
def args0 : Array Value := #[.int 5, .int 5, .int 5, .int 5, .int 5, .int 5]
def aboutOver (below : List Frame) : State where
  vm := { classes := classes, interned := interned.toArray }
  heap := heap
  slotsUsed := slotsUsed
  threads := #[{ frames := .invoking theMethod args0 :: below }]
def below0 : List Frame := [.native { method := ⟨0, 0⟩, args := #[] }]
def about1 : State := aboutOver below0
def p0 : Program := .bare "" "" ""
def e0 : Env := launch0.env 0 0 0
theorem w_frames : about1.frames = Frame.invoking theMethod args0 :: below0 := rfl
set_option maxRecDepth 65536 in
theorem w_args : argsFit about1.vm theMethod args0 = true := by decide +kernel
set_option maxRecDepth 65536 in
theorem w_heap : heapFits about1 = true := by decide +kernel
set_option maxRecDepth 65536 in
theorem w_runnable : about1.curStatus? = some .runnable := by decide +kernel
set_option maxRecDepth 65536 in
theorem w_alone : about1.alone = true := by decide +kernel
set_option maxRecDepth 65536 in
theorem w_named : about1.methodNamed? x = some theMethod := by decide +kernel
set_option maxRecDepth 65536 in
theorem w_hears : about1.hears theMethod below0 = true := by decide +kernel
set_option maxRecDepth 65536 in
theorem w_ripe : about1.ripe theMethod args0 below0 = true := by decide +kernel
theorem w_running : about1.status = .running := rfl
set_option maxRecDepth 65536 in
theorem w_room : about1.hasRoom e0.platform room_1 = true :=
  launch0.hasRoom_least _ room_1 (by decide +kernel) (by decide +kernel) (by decide +kernel) (by decide +kernel) (by decide +kernel) (by decide +kernel)
theorem allAtoms_all (ts : List Jvm.Cond) (a : Array Jvm.Value) (st : Jvm.State) : (allAtoms ts).before a st = ts.all (fun c => c.before a st) := by
  induction ts with
  | nil => rfl
  | cons c t ih =>
    show (Jvm.Cond.and c (allAtoms t)).before a st = _
    rw [Jvm.Cond.before_and, ih, List.all_cons]
def words1 : List Jvm.Cond := Jvm.Cond.code x code maxLocals ret :: tables_1
/-- a 'code' word, met by the world's own term for the bytes: nothing is compared byte by byte -/
theorem code_word {y : MethodName} {bytes : ByteArray} {mx : Nat} {rt : Option FieldType} {a : Array Value} {s : State} {m : MethodId} {meth : Method} {c : Code} (h1 : s.methodNamed? y = some m) (h2 : s.vm.method? m = some meth) (h3 : meth.code = some c) (h4 : c.code = bytes)
    (h5 : (c.maxLocals == mx && c.exceptionTable.isEmpty && decide (c.maxStack ≤ mostOperands) && decide (meth.sig.returnType = rt) && !meth.locks && decide (parseMethodDescriptor y.desc = some meth.sig)) = true) : (Jvm.Cond.code y bytes mx rt).before a s = true := by
  simp only [Bool.and_eq_true, beq_iff_eq, Bool.not_eq_true', decide_eq_true_eq] at h5
  obtain ⟨⟨⟨⟨⟨g1, g2⟩, g3⟩, g4⟩, g5⟩, g6⟩ := h5
  simp [Cond.before, Cond.holds, Cond.value, h1, h2, h3, h4, g1, g2, g3, g4, g5, g6]
def isCode : Jvm.Cond → Bool
  | .code _ _ _ _ => true
  | _ => false
theorem all_split {L : List Jvm.Cond} {P : Jvm.Cond → Bool} (h1 : L.all (fun c => isCode c || P c) = true) (h2 : ∀ c ∈ L.filter isCode, P c = true) : L.all P = true := by
  refine List.all_eq_true.mpr fun c hc => ?_
  have h := List.all_eq_true.mp h1 c hc
  rcases Bool.eq_false_or_eq_true (isCode c) with hi | hi
  · exact h2 c (List.mem_filter.mpr ⟨hc, hi⟩)
  · simpa [hi] using h
set_option maxRecDepth 65536 in
theorem w_c0 : (Jvm.Cond.code x code maxLocals ret).before args0 about1 = true := code_word (m := ⟨1, 5⟩) (meth := k1m5) (c := k1c5) (by decide +kernel) rfl rfl rfl (by decide +kernel)
set_option maxRecDepth 65536 in
theorem w_c1 : (Jvm.Cond.code ({ cls := "com/example/xml_graph_join/xmlgraphjoin/graph/CountingSort", name := "sort", desc := "([I[II[I)[I" } : Jvm.MethodName) prog_49_method_2_code (9 : Nat) (Option.some (Jvm.ClassFile.FieldType.array Jvm.ClassFile.FieldType.int))).before args0 about1 = true := code_word (m := ⟨2, 1⟩) (meth := k2m1) (c := k2c1) (by decide +kernel) rfl rfl rfl (by decide +kernel)
set_option maxRecDepth 65536 in
theorem w_c2 : (Jvm.Cond.code ({ cls := "com/example/xml_graph_join/xmlgraphjoin/graph/CountingSortSortPinLaw", name := "firstOk", desc := "([IIIIIII)Z" } : Jvm.MethodName) method_5_code (7 : Nat) (Option.some Jvm.ClassFile.FieldType.boolean)).before args0 about1 = true := code_word (m := ⟨1, 4⟩) (meth := k1m4) (c := k1c4) (by decide +kernel) rfl rfl rfl (by decide +kernel)
set_option maxRecDepth 65536 in
theorem w_c3 : (Jvm.Cond.code ({ cls := "com/example/xml_graph_join/xmlgraphjoin/graph/CountingSortSortPinLaw", name := "below", desc := "(IIIII)I" } : Jvm.MethodName) method_4_code (5 : Nat) (Option.some Jvm.ClassFile.FieldType.int)).before args0 about1 = true := code_word (m := ⟨1, 3⟩) (meth := k1m3) (c := k1c3) (by decide +kernel) rfl rfl rfl (by decide +kernel)
set_option maxRecDepth 65536 in
theorem w_c4 : (Jvm.Cond.code ({ cls := "com/example/xml_graph_join/xmlgraphjoin/graph/CountingSortSortPinLaw", name := "lt", desc := "(II)I" } : Jvm.MethodName) method_2_code (2 : Nat) (Option.some Jvm.ClassFile.FieldType.int)).before args0 about1 = true := code_word (m := ⟨1, 1⟩) (meth := k1m1) (c := k1c1) (by decide +kernel) rfl rfl rfl (by decide +kernel)
set_option maxRecDepth 65536 in
theorem w_c5 : (Jvm.Cond.code ({ cls := "com/example/xml_graph_join/xmlgraphjoin/graph/CountingSortSortPinLaw", name := "eq", desc := "(II)I" } : Jvm.MethodName) method_3_code (2 : Nat) (Option.some Jvm.ClassFile.FieldType.int)).before args0 about1 = true := code_word (m := ⟨1, 2⟩) (meth := k1m2) (c := k1c2) (by decide +kernel) rfl rfl rfl (by decide +kernel)
def codes1 : List Jvm.Cond := [Jvm.Cond.code x code maxLocals ret, Jvm.Cond.code ({ cls := "com/example/xml_graph_join/xmlgraphjoin/graph/CountingSort", name := "sort", desc := "([I[II[I)[I" } : Jvm.MethodName) prog_49_method_2_code (9 : Nat) (Option.some (Jvm.ClassFile.FieldType.array Jvm.ClassFile.FieldType.int)), Jvm.Cond.code ({ cls := "com/example/xml_graph_join/xmlgraphjoin/graph/CountingSortSortPinLaw", name := "firstOk", desc := "([IIIIIII)Z" } : Jvm.MethodName) method_5_code (7 : Nat) (Option.some Jvm.ClassFile.FieldType.boolean), Jvm.Cond.code ({ cls := "com/example/xml_graph_join/xmlgraphjoin/graph/CountingSortSortPinLaw", name := "below", desc := "(IIIII)I" } : Jvm.MethodName) method_4_code (5 : Nat) (Option.some Jvm.ClassFile.FieldType.int), Jvm.Cond.code ({ cls := "com/example/xml_graph_join/xmlgraphjoin/graph/CountingSortSortPinLaw", name := "lt", desc := "(II)I" } : Jvm.MethodName) method_2_code (2 : Nat) (Option.some Jvm.ClassFile.FieldType.int), Jvm.Cond.code ({ cls := "com/example/xml_graph_join/xmlgraphjoin/graph/CountingSortSortPinLaw", name := "eq", desc := "(II)I" } : Jvm.MethodName) method_3_code (2 : Nat) (Option.some Jvm.ClassFile.FieldType.int)]
set_option maxRecDepth 65536 in
theorem codes_eq : words1.filter isCode = codes1 := rfl
theorem w_codes : ∀ c ∈ words1.filter isCode, c.before args0 about1 = true := by
  rw [codes_eq]
  intro c hc
  simp only [codes1, List.mem_cons, List.not_mem_nil, or_false] at hc
  rcases hc with rfl | rfl | rfl | rfl | rfl | rfl
  · exact w_c0
  · exact w_c1
  · exact w_c2
  · exact w_c3
  · exact w_c4
  · exact w_c5
set_option maxRecDepth 65536 in
theorem w_t1 : words1.all (fun c => isCode c || c.before args0 about1) = true := by decide +kernel
theorem w_tables : (allAtoms (Jvm.Cond.code x code maxLocals ret :: tables_1)).before args0 about1 = true := by
  rw [allAtoms_all]
  show words1.all (fun c => c.before args0 about1) = true
  refine all_split ?_ w_codes
  rw [w_t1]
set_option maxRecDepth 65536 in
theorem w_case : (Jvm.Cond.and given_1 narrow_1).before args0 about1 = true := by decide +kernel
theorem w_applies : (headSpec (Jvm.Cond.code x code maxLocals ret :: tables_1) room_1).applies x e0.platform about1 = true :=
  (Spec.applies_iff w_frames).mpr ⟨w_running, w_runnable, w_alone, w_named, w_hears, w_ripe, w_room, w_tables⟩
theorem atStart : AtStart classFile x code maxLocals ret World_1 tables_1 room_1 Calls_1 rest_1 Pre_1 launch0 p0 e0 about1 theMethod args0 below0 :=
  ⟨lists_1, trivial, launch0.admits_env _ _ _, launch0.least_env, fairChoices_fair.cas, fairChoices_fair.clock, w_frames, w_args, w_heap, w_applies, trivial, trivial, w_case⟩
end start1
theorem witness_1 : WitnessClaimed_1 := ⟨start1.p0, start1.e0, start1.about1, start1.theMethod, start1.args0, start1.below0, start1.atStart⟩
end Jvm.Pilot.@@N@@
