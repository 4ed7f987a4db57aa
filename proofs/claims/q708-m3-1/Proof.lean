import JvmDerived
import JvmDerived.Pilot.@@N@@Statement
import JvmDerived.Pilot.@@N@@Code
set_option linter.unusedVariables false
set_option linter.unusedSimpArgs false
namespace Jvm.Pilot.@@N@@.OwnKit
open Jvm Sem ClassFile Op Lib Jvm.Stand Jvm.Free Jvm.LawKit Jvm.RoadKit
section New
variable {p : Program} {l : Launch} {e : Env} {R : Room} {s : State} {m : MethodId} {args : Array Value} {below : List Frame} {meth : Method} {c : Code} {T : State} {locs : List Loc} {cells slots : Nat}
theorem retI (X : Stand p l e R s m args below meth c T locs cells slots) (hx : p.tables.exec = Jvm.exec) {pc : Nat} {Ls : Array Slot} {z : Int32} {rest : List Value} (hret : meth.sig.returnType = some .int) (hd : decode c.code pc = .ok (.ireturn, 1)) {fs : List Frame}
    (hl : ∀ (f : JFrame) (acts : List Action), f.method = m → f.locked = none → f.entered = [] → (doReturn e (T.setTop f) acts (some (.int z))).1 = T.setFrames fs) : Steps p.tables e below (T.setTop (mkF m pc Ls (.int z :: rest))) (T.setFrames fs) :=
  retOut X hx hret rfl (Or.inl ⟨rfl, Or.inl rfl, _, rfl⟩) hd hl
theorem lremM {g : JFrame} {target : State} (X : Stand p l e R s m args below meth c T locs cells slots) (hx : p.tables.exec = Jvm.exec) (hg : g.method = m) {x y : Int64} {rest : List Value} (hd : decode c.code g.pc = .ok (.lrem, 1)) (hs : g.stack = .long y :: .long x :: rest) (hy : y ≠ 0)
    (hr : Steps p.tables e below (T.setTop { g with pc := g.pc + 1, stack := .long (x % y) :: rest }) target) : Steps p.tables e below (T.setTop g) target := by
  have q : x - x / y * y = x % y := by
    have g1 := rng64 (x % y)
    have g2 : (x % y).toInt = x.toInt.tmod y.toInt := Int64.toInt_mod x y
    have g3 := Int.tmod_def x.toInt y.toInt
    have g4 : (x / y).toInt = (x.toInt.tdiv y.toInt).bmod (2 ^ 64) := Int64.toInt_div x y
    apply Int64.toInt_inj.mp
    rw [Int64.toInt_sub, Int64.toInt_mul, g4, Int.bmod_mul_bmod, Int.sub_bmod_bmod, Int.mul_comm (x.toInt.tdiv y.toInt), ← g3, ← g2]
    exact Int.bmod_eq_of_le_mul_two (by omega) (by omega)
  exact XS.lrem X.here hx hg hd hs hy (by rw [q]; exact hr)
end New
/-- from here the run ends, and as G says -/
def Goes (tb : Tables) (e : Env) (below : List Frame) (t : State) (G : State → Outcome → Prop) : Prop := ∃ s₂ o, Steps tb e below t s₂ ∧ s₂.status = .running ∧ Ended s₂ below o ∧ G s₂ o
variable {tb : Tables} {e : Env} {below : List Frame} {t t' : State} {G : State → Outcome → Prop}
theorem Goes.by (k : ∀ u, Steps tb e below t' u → Steps tb e below t u) (h : Goes tb e below t' G) : Goes tb e below t G := by
  obtain ⟨s₂, o, h1, h2⟩ := h; exact ⟨s₂, o, k _ h1, h2⟩
theorem Goes.via (k : Steps tb e below t t') (h : Goes tb e below t' G) : Goes tb e below t G := by
  obtain ⟨s₂, o, h1, h2⟩ := h; exact ⟨s₂, o, k.trans h1, h2⟩
theorem Goes.cut {α : Type} {K : α → State} {C : α → Prop} (h1 : (∀ x, C x → Goes tb e below (K x) G) → Goes tb e below t G) (h2 : ∀ x, C x → Goes tb e below (K x) G) : Goes tb e below t G := h1 h2
theorem Goes.loop {α : Type} (μ : α → Nat) {K : α → State} {C : α → Prop} (step : ∀ x, C x → (∀ y, μ y < μ x → C y → Goes tb e below (K y) G) → Goes tb e below (K x) G) : ∀ x, C x → Goes tb e below (K x) G := by
  intro x
  induction hn : μ x using Nat.strongRecOn generalizing x with
  | _ n ih => intro hC; exact step x hC (fun y hy hCy => ih (μ y) (hn ▸ hy) y rfl hCy)
theorem jl_t {x y : Int64} (h : x < y) : ifCond.holds .lt (lcmpW x y) = true ∧ ifCond.holds .ge (lcmpW x y) = false := ⟨(if0 _ _).trans (tlt ((lw_lt x y).mpr h)).1, (if0 _ _).trans (tlt ((lw_lt x y).mpr h)).2.1⟩
theorem jl_f {x y : Int64} (h : ¬ x < y) : ifCond.holds .lt (lcmpW x y) = false ∧ ifCond.holds .ge (lcmpW x y) = true := ⟨(if0 _ _).trans (flt (fun q => h ((lw_lt x y).mp q))).1, (if0 _ _).trans (flt (fun q => h ((lw_lt x y).mp q))).2.1⟩
theorem jg_t {x y : Int64} (h : y < x) : ifCond.holds .gt (lcmpW x y) = true ∧ ifCond.holds .le (lcmpW x y) = false := ⟨(if0 _ _).trans (tlt ((lw_gt x y).mpr h)).2.2.1, (if0 _ _).trans (tlt ((lw_gt x y).mpr h)).2.2.2⟩
theorem jg_f {x y : Int64} (h : ¬ y < x) : ifCond.holds .gt (lcmpW x y) = false ∧ ifCond.holds .le (lcmpW x y) = true := ⟨(if0 _ _).trans (flt (fun q => h ((lw_gt x y).mp q))).2.2.1, (if0 _ _).trans (flt (fun q => h ((lw_gt x y).mp q))).2.2.2⟩
theorem je_t {x y : Int64} (h : x = y) : ifCond.holds .eq (lcmpW x y) = true ∧ ifCond.holds .ne (lcmpW x y) = false := ⟨(if0 _ _).trans (teq ((lw_eq x y).mpr h)).1, (if0 _ _).trans (teq ((lw_eq x y).mpr h)).2⟩
theorem je_f {x y : Int64} (h : ¬ x = y) : ifCond.holds .eq (lcmpW x y) = false ∧ ifCond.holds .ne (lcmpW x y) = true := ⟨(if0 _ _).trans (feq (fun q => h ((lw_eq x y).mp q))).1, (if0 _ _).trans (feq (fun q => h ((lw_eq x y).mp q))).2⟩
theorem selP {Z s : State} {a0 args : Array Value} {y : MethodName} {n : Nat} (hZ : Z.Warmed39 s.vm) (wi : (Cond.instantiable y.cls n).before a0 Z = true) (wp : (Cond.privateMethod y).before a0 Z = true) (win : (Cond.instanceMethod y).before a0 Z = true) (hy : y.cls ≠ "java/lang/invoke/MethodHandle" ∧ y.cls ≠ "java/lang/invoke/VarHandle") : (Cond.selects y.cls y y).before args s = true := by
  have w1 : (Cond.instantiable y.cls n).before args s = true := mv hZ wi
  obtain ⟨c, k, h1, h2, -, h4, -⟩ := Cond.instantiable_spec w1
  rw [Bool.or_eq_false_iff] at h4
  exact selects_self_of_private h1 h2 h4.1 (Cond.privateMethod_at (mvP hZ wp (args := args))) (mv hZ win) hy
theorem catR {v : Value} (h : v.isRef = true) : v.category = 1 := by cases v <;> first | rfl | (cases h)
theorem narR {t : FieldType} {w : Value} (h : t.isReference = true) : narrow t w = w := by cases t <;> first | (cases h; done) | (cases w <;> rfl)
end Jvm.Pilot.@@N@@.OwnKit
namespace Jvm.Pilot.@@N@@.OwnKit
open Jvm Sem ClassFile Op Lib Jvm.Stand Jvm.Free Jvm.LawKit Jvm.RoadKit
/-- one place of a function turned -/
def up {α : Type} (f : Nat → α) (i : Nat) (v : α) : Nat → α := fun j => if j = i then v else f j
/-- an array of n places; place j holds f j -/
def Ar (Z : State) (h : Heap) (a : Addr) (ty : FieldType) (n : Nat) (f : Nat → Value) : Prop := ∃ c : Cell, Arr Z h a c ty ∧ c.slots.size = n ∧ n < 2 ^ 31 ∧ ∀ j, j < n → c.slots[j]? = some (f j) ∧ fits ty (f j) = true
def AI (Z : State) (h : Heap) (a : Addr) (ty : FieldType) (n : Nat) (f : Nat → Int32) : Prop := Ar Z h a ty n (fun j => .int (f j))
def AJ (Z : State) (h : Heap) (a : Addr) (n : Nat) (f : Nat → Int64) : Prop := Ar Z h a .long n (fun j => .long (f j))
section Facts
variable {Z : State} {h h' : Heap} {a b : Addr} {ty : FieldType} {n sl : Nat} {f : Nat → Value} {g : Nat → Int32} {k : Nat → Int64} {v : Value} {ws : List Addr}
theorem up_at {α : Type} (f : Nat → α) (i : Nat) (v : α) : up f i v i = v := if_pos rfl
theorem up_ne {α : Type} (f : Nat → α) {i j : Nat} (v : α) (q : j ≠ i) : up f i v j = f j := if_neg q
theorem Ar.lt (A : Ar Z h a ty n f) : a < h.size := by obtain ⟨c, A, -⟩ := A; exact A.lt
theorem Ar.ext (A : Ar Z h a ty n f) (E : Ext h h') : Ar Z h' a ty n f := by obtain ⟨c, A, r⟩ := A; exact ⟨c, A.ext E, r⟩
theorem Ar.other (A : Ar Z h b ty n f) (W : Wr h h' a sl v) (q : b ≠ a) : Ar Z h' b ty n f := by obtain ⟨c, A, r⟩ := A; exact ⟨c, A.other W q, r⟩
theorem Ar.keep (A : Ar Z h a ty n f) (K : Keep h h' ws) (q : a ∉ ws) : Ar Z h' a ty n f := by obtain ⟨c, A, r⟩ := A; exact ⟨c, ⟨K.2.1 a c A.1 q, A.2⟩, r⟩
theorem own_setSlot (c : Cell) (i : Nat) (v : Value) : (c.setSlot i v).slots = c.slots.setIfInBounds i v := rfl
theorem Ar.wr (A : Ar Z h a ty n f) (W : Wr h h' a sl v) (hf : fits ty v = true) : Ar Z h' a ty n (up f sl v) := by
  obtain ⟨c, A, S, M, G⟩ := A
  refine ⟨c.setSlot sl v, A.same W, by rw [sz_set]; exact S, M, fun j hj => ?_⟩
  by_cases q : j = sl
  · subst q; rw [up_at, own_setSlot, Array.getElem?_setIfInBounds_self_of_lt (by omega)]; exact ⟨rfl, hf⟩
  · rw [up_ne f v q, own_setSlot, Array.getElem?_setIfInBounds_ne (Ne.symm q)]; exact G j hj
theorem Ar.congr {f' : Nat → Value} (A : Ar Z h a ty n f) (q : ∀ j, j < n → f j = f' j) : Ar Z h a ty n f' := by
  obtain ⟨c, A, S, M, G⟩ := A; exact ⟨c, A, S, M, fun j hj => by rw [← q j hj]; exact G j hj⟩
theorem AI.lt (A : AI Z h a ty n g) : a < h.size := Ar.lt A
theorem AI.ext (A : AI Z h a ty n g) (E : Ext h h') : AI Z h' a ty n g := Ar.ext A E
theorem AI.other (A : AI Z h b ty n g) (W : Wr h h' a sl v) (q : b ≠ a) : AI Z h' b ty n g := Ar.other A W q
theorem AI.keep (A : AI Z h a ty n g) (K : Keep h h' ws) (q : a ∉ ws) : AI Z h' a ty n g := Ar.keep A K q
theorem AI.wr {x : Int32} (A : AI Z h a ty n g) (W : Wr h h' a sl (.int x)) (hf : fits ty (.int x) = true) : AI Z h' a ty n (up g sl x) :=
  (Ar.wr A W hf).congr fun j _ => by simp only [up]; split <;> rfl
theorem AI.congr {g' : Nat → Int32} (A : AI Z h a ty n g) (q : ∀ j, j < n → g j = g' j) : AI Z h a ty n g' := Ar.congr A fun j hj => by rw [q j hj]
theorem AJ.lt (A : AJ Z h a n k) : a < h.size := Ar.lt A
theorem AJ.ext (A : AJ Z h a n k) (E : Ext h h') : AJ Z h' a n k := Ar.ext A E
theorem AJ.other (A : AJ Z h b n k) (W : Wr h h' a sl v) (q : b ≠ a) : AJ Z h' b n k := Ar.other A W q
theorem AJ.keep (A : AJ Z h a n k) (K : Keep h h' ws) (q : a ∉ ws) : AJ Z h' a n k := Ar.keep A K q
theorem AJ.wr {x : Int64} (A : AJ Z h a n k) (W : Wr h h' a sl (.long x)) : AJ Z h' a n (up k sl x) :=
  (Ar.wr A W rfl).congr fun j _ => by simp only [up]; split <;> rfl
theorem AJ.congr {k' : Nat → Int64} (A : AJ Z h a n k) (q : ∀ j, j < n → k j = k' j) : AJ Z h a n k' := Ar.congr A fun j hj => by rw [q j hj]
theorem Ar.bound (A : Ar Z h a ty n f) : n < 2 ^ 31 := by obtain ⟨c, A, S, M, G⟩ := A; exact M
theorem eqv_r {Z : State} {args : Array Value} {X F : Term} {idx : List Nat} {y : Addr} (hF : F.eval args Z none idx Z = some (.ref y)) (h : (Cond.eq X F).value args Z none Z idx = some true) : X.eval args Z none idx Z = some (.ref y) := by
  obtain ⟨x, y', e1, e2, k1, k2⟩ := cmp_v (Or.inl h)
  cases hF.symm.trans e2
  exact e1.trans (congrArg some (gotT (eq_R e1 hF k2.2 rfl) h))
theorem own_lenA (t : Term) (args : Array Value) (first s : State) (o : Option Outcome) (idx : List Nat) : (Term.length t).eval args first o idx s = ((t.eval args first o idx s).bind fun v => match v with | .ref a => ((s.arrayAt? a).bind fun c => if c.slots.size < 2 ^ 31 then some (.int c.slots.size.toInt32) else none) | _ => none) := rfl
theorem own_sized {t : Term} {args : Array Value} {s : State} {a : Addr} {c : Cell} {z : Int32} {n : Nat} (ht : t.eval args s none [] s = some (.ref a)) (ha : s.arrayAt? a = some c) (h : (Term.length t).eval args s none [] s = some (.int z)) (hz : z.toInt = (n : Int)) : c.slots.size = n := by
  rw [own_lenA, ht, Option.bind_some] at h
  dsimp only at h
  rw [ha, Option.bind_some] at h
  by_cases q : c.slots.size < 2 ^ 31
  · rw [if_pos q] at h
    have e5 := Value.int.inj (Option.some.inj h)
    have e6 := len_toInt q
    rw [e5] at e6
    omega
  · rw [if_neg q] at h; cases h
theorem ixo {j : Int32} {i n : Nat} (hj : j.toInt = (i : Int)) (hi : i < n) : ¬ (j < 0 ∨ n ≤ j.toNatClampNeg) ∧ j.toNatClampNeg = i := by
  have e0 : (0 : Int32).toInt = 0 := rfl
  have q : j.toNatClampNeg = i := by rw [Int32.toNatClampNeg, hj]; rfl
  refine ⟨fun z => z.elim (fun u => ?_) fun u => ?_, q⟩
  · rw [Int32.lt_iff_toInt_lt] at u; omega
  · omega
theorem lenI {n : Nat} {z : Int32} (hz : z.toInt = (n : Int)) : n.toInt32 = z := by
  apply Int32.toInt_inj.mp
  have r := rng32 z
  rw [hz]; exact Int32.toInt_ofNat_of_lt (by omega)
theorem Ar.arv (A : Ar Z h a ty n f) : ∃ k, Arv Z h a k ty (Int32.ofNat n) ((List.range n).map f) (f 0) := by
  obtain ⟨c, A, S, M, G⟩ := A
  have e0 : (0 : Int32).toInt = 0 := rfl
  have hz : (Int32.ofNat n).toInt = (n : Int) := Int32.toInt_ofNat_of_lt (by omega)
  have hq : (Int32.ofNat n).toNatClampNeg = n := by rw [Int32.toNatClampNeg, hz]; rfl
  have hg : ∀ i, i < n → ((List.range n).map f).getD i (f 0) = f i := fun i hi => by
    rw [List.getD_eq_getElem?_getD, List.getElem?_map, List.getElem?_range hi]; rfl
  refine ⟨c.cls, c, A, rfl, by rw [hq]; exact S, by rw [Int32.lt_iff_toInt_lt, hz]; omega, fun i hi => ?_, fun i hi => ?_⟩
  · rw [hg i (by omega)]; exact (G i (by omega)).1
  · rw [hg i (by omega)]; exact (G i (by omega)).2
theorem Ar.of_arv {k : ClassId} {z : Int32} {vs : List Value} {d : Value} (A : Arv Z h a k ty z vs d) (hz : z.toInt = (n : Int)) : Ar Z h a ty n (fun j => vs.getD j d) := by
  obtain ⟨c, A, q, S, N, H, G⟩ := A
  have hq : z.toNatClampNeg = n := by rw [Int32.toNatClampNeg, hz]; rfl
  have r := rng32 z
  exact ⟨c, A, by rw [S, hq], by omega, fun j hj => ⟨H j (by omega), G j (by omega)⟩⟩
end Facts
section Steps
variable {p : Program} {l : Launch} {e : Env} {R : Room} {s : State} {m : MethodId} {args : Array Value} {below : List Frame} {meth : Method} {c : Code} {T : State} {locs : List Loc} {cells slots : Nat} {Z : State} {h : Heap} {a : Addr} {n i : Nat} {j : Int32} {rest : List Value} {fr : JFrame} {target : State}
theorem ldI {f : Nat → Int32} {v : Int32} (X : Stand p l e R s m args below meth c T locs cells slots) (hx : p.tables.exec = Jvm.exec) (hZ : Z.Warmed39 s.vm) (eT : T.heap = h) (A : AI Z h a .int n f) (hj : j.toInt = (i : Int)) (hi : i < n) (hv : v = f i) (hg : fr.method = m) (hs : fr.stack = .int j :: .ref a :: rest) (hd : decode c.code fr.pc = .ok (.iaload, 1))
    (hr : Steps p.tables e below (T.setTop { fr with pc := fr.pc + 1, stack := .int v :: rest }) target) : Steps p.tables e below (T.setTop fr) target := by
  obtain ⟨cl, A, S, M, G⟩ := A
  obtain ⟨q1, q2⟩ := ixo hj hi
  exact X.iaload hx (j := j) (v := .int v) (by rw [eT]; exact A.1) (State.isArrayOf_alike hZ.alike A.2.1) A.2.2 (by rw [S]; exact q1) (by rw [q2, hv]; exact (G i hi).1) hg hs hd _ hr
theorem ldB {f : Nat → Int32} {v : Int32} (X : Stand p l e R s m args below meth c T locs cells slots) (hx : p.tables.exec = Jvm.exec) (hZ : Z.Warmed39 s.vm) (eT : T.heap = h) (A : AI Z h a .byte n f) (hj : j.toInt = (i : Int)) (hi : i < n) (hv : v = f i) (hg : fr.method = m) (hs : fr.stack = .int j :: .ref a :: rest) (hd : decode c.code fr.pc = .ok (.baload, 1))
    (hr : Steps p.tables e below (T.setTop { fr with pc := fr.pc + 1, stack := .int v :: rest }) target) : Steps p.tables e below (T.setTop fr) target := by
  obtain ⟨cl, A, S, M, G⟩ := A
  obtain ⟨q1, q2⟩ := ixo hj hi
  exact X.baloadBytes hx (j := j) (v := .int v) (by rw [eT]; exact A.1) (State.isArrayOf_alike hZ.alike A.2.1) A.2.2 (by rw [S]; exact q1) (by rw [q2, hv]; exact (G i hi).1) hg hs hd _ hr
theorem ldJ {f : Nat → Int64} {v : Int64} (X : Stand p l e R s m args below meth c T locs cells slots) (hx : p.tables.exec = Jvm.exec) (hZ : Z.Warmed39 s.vm) (eT : T.heap = h) (A : AJ Z h a n f) (hj : j.toInt = (i : Int)) (hi : i < n) (hv : v = f i) (hg : fr.method = m) (hs : fr.stack = .int j :: .ref a :: rest) (hd : decode c.code fr.pc = .ok (.laload, 1))
    (hr : Steps p.tables e below (T.setTop { fr with pc := fr.pc + 1, stack := .long v :: rest }) target) : Steps p.tables e below (T.setTop fr) target := by
  obtain ⟨cl, A, S, M, G⟩ := A
  obtain ⟨q1, q2⟩ := ixo hj hi
  exact X.laload hx (j := j) (v := .long v) (by rw [eT]; exact A.1) (State.isArrayOf_alike hZ.alike A.2.1) A.2.2 (by rw [S]; exact q1) (by rw [q2, hv]; exact (G i hi).1) hg hs hd _ hr
theorem ldR {ty : FieldType} {f : Nat → Value} {v : Value} (X : Stand p l e R s m args below meth c T locs cells slots) (hx : p.tables.exec = Jvm.exec) (hZ : Z.Warmed39 s.vm) (eT : T.heap = h) (A : Ar Z h a ty n f) (hty : ty.isReference = true) (hj : j.toInt = (i : Int)) (hi : i < n) (hv : v = f i) (hg : fr.method = m) (hs : fr.stack = .int j :: .ref a :: rest) (hd : decode c.code fr.pc = .ok (.aaload, 1))
    (hr : Steps p.tables e below (T.setTop { fr with pc := fr.pc + 1, stack := v :: rest }) target) : Steps p.tables e below (T.setTop fr) target := by
  obtain ⟨cl, A, S, M, G⟩ := A
  obtain ⟨q1, q2⟩ := ixo hj hi
  exact X.aaload hx (j := j) (v := v) (by rw [eT]; exact A.1) (State.isArrayOf_alike hZ.alike A.2.1) hty A.2.2 (by rw [S]; exact q1) (by rw [q2, hv]; exact (G i hi).1) hg hs hd _ hr
/-- an array's clone -/
theorem cloneAr {a0 : Array Value} {own ad : String} {index : Nat} {ty : FieldType} {f : Nat → Value} {W cap : Nat} (X : Stand p l e R s m args below meth c T locs cells slots) (hx : p.tables.exec = Jvm.exec) (hZ : Z.Warmed39 s.vm) (hown : s.vm.findClass own = some m.cls)
    (w1 : (Cond.methodLink own index ⟨ad, "clone", "()Ljava/lang/Object;"⟩).before a0 Z = true) (w2 : (Cond.sameMethod ad "java/lang/Object" "clone" "()Ljava/lang/Object;").before a0 Z = true) (w3 : (Cond.native ⟨"java/lang/Object", "clone", "()Ljava/lang/Object;"⟩).before a0 Z = true)
    (w4 : (Cond.instanceMethod ⟨"java/lang/Object", "clone", "()Ljava/lang/Object;"⟩).before a0 Z = true) (w5 : (Cond.selects ad ⟨ad, "clone", "()Ljava/lang/Object;"⟩ ⟨"java/lang/Object", "clone", "()Ljava/lang/Object;"⟩).before a0 Z = true) (w6 : (Cond.castable ad "java/lang/Cloneable").before a0 Z = true)
    (eT : T.heap = h) (A : Ar Z h a ty n f) (E : Exa Z h a ad) (hg : fr.method = m) (hsize : fr.locals.size = c.maxLocals) (hs : fr.stack = .ref a :: rest) (hd : decode c.code fr.pc = .ok (.invokevirtual index, 3))
    (hf : 1 ≤ R.frames) (hW : 2 * fr.monitorRoom + (rest.map fun v => v.category).sum ≤ W) (hl : W + 14 ≤ R.locals) (hcap : n ≤ cap) (hc : cells + 1 ≤ R.cells) (hsl : slots + cap ≤ R.slots) :
    ∃ T' h', Stand p l e R s m args below meth c T' locs (cells + 1) (slots + cap) ∧ T'.heap = h' ∧ Ext h h' ∧ Ar Z h' h.size ty n f ∧ Exa Z h' h.size ad ∧
      ∀ target, Steps p.tables e below (T'.setTop { fr with pc := fr.pc + 3, stack := .ref h.size :: rest }) target → Steps p.tables e below (T.setTop fr) target := by
  obtain ⟨cl, A, S, M, G⟩ := A
  have FC : FitC Z cl := fitC_of A fun i hi v hv => by
    have q := G i (by omega)
    rw [q.1] at hv; cases hv; exact q.2
  obtain ⟨T', h', X', e', ex, A', E', st⟩ := cloneA X hx hZ hown w1 w2 w3 w4 w5 w6 eT A E FC hg hsize hs hd hf hW hl (by omega) hc hsl
  exact ⟨T', h', X', e', ex, ⟨cloneOf cl, A', S, M, G⟩, E', st⟩
theorem alen {ty : FieldType} {f : Nat → Value} {z : Int32} (X : Stand p l e R s m args below meth c T locs cells slots) (hx : p.tables.exec = Jvm.exec) (hZ : Z.Warmed39 s.vm) (eT : T.heap = h) (A : Ar Z h a ty n f) (hz : z.toInt = (n : Int)) (hg : fr.method = m) (hs : fr.stack = .ref a :: rest) (hd : decode c.code fr.pc = .ok (.arraylength, 1))
    (hr : Steps p.tables e below (T.setTop { fr with pc := fr.pc + 1, stack := .int z :: rest }) target) : Steps p.tables e below (T.setTop fr) target := by
  obtain ⟨cl, A, S, M, G⟩ := A
  exact X.arraylength hx (by rw [eT]; exact A.1) (State.isArrayOf_alike hZ.alike A.2.1) hg hs hd _ (by rw [S, lenI hz]; exact hr)
theorem stAI {f : Nat → Int32} {x : Int32} (X : Stand p l e R s m args below meth c T locs cells slots) (hx : p.tables.exec = Jvm.exec) (hZ : Z.Warmed39 s.vm) (eT : T.heap = h) (A : AI Z h a .int n f) (hj : j.toInt = (i : Int)) (hi : i < n) (hg : fr.method = m) (hs : fr.stack = .int x :: .int j :: .ref a :: rest) (hd : decode c.code fr.pc = .ok (.iastore, 1)) :
    ∃ T' h', Stand p l e R s m args below meth c T' (locs ++ [⟨a, i⟩]) cells slots ∧ T'.heap = h' ∧ Wr h h' a i (.int x) ∧ AI Z h' a .int n (up f i x) ∧ ∀ target, Steps p.tables e below (T'.setTop { fr with pc := fr.pc + 1, stack := rest }) target → Steps p.tables e below (T.setTop fr) target := by
  have A0 := A
  obtain ⟨cl, A, S, M, G⟩ := A
  obtain ⟨q1, q2⟩ := ixo hj hi
  obtain ⟨T', h', X', e', W', st⟩ := stI X hx hZ eT A (j := j) (by rw [S]; exact q1) hg hs hd
  rw [q2] at X' W'
  exact ⟨T', h', X', e', W', A0.wr W' rfl, st⟩
theorem stAB {f : Nat → Int32} {x : Int32} (X : Stand p l e R s m args below meth c T locs cells slots) (hx : p.tables.exec = Jvm.exec) (hZ : Z.Warmed39 s.vm) (eT : T.heap = h) (A : AI Z h a .byte n f) (hj : j.toInt = (i : Int)) (hi : i < n) (hg : fr.method = m) (hs : fr.stack = .int x :: .int j :: .ref a :: rest) (hd : decode c.code fr.pc = .ok (.bastore, 1)) :
    ∃ T' h', Stand p l e R s m args below meth c T' (locs ++ [⟨a, i⟩]) cells slots ∧ T'.heap = h' ∧ Wr h h' a i (.int x.toInt8.toInt32) ∧ AI Z h' a .byte n (up f i x.toInt8.toInt32) ∧ ∀ target, Steps p.tables e below (T'.setTop { fr with pc := fr.pc + 1, stack := rest }) target → Steps p.tables e below (T.setTop fr) target := by
  have A0 := A
  obtain ⟨cl, A, S, M, G⟩ := A
  obtain ⟨q1, q2⟩ := ixo hj hi
  obtain ⟨T', h', X', e', W', st⟩ := stB X hx hZ eT A (j := j) (by rw [S]; exact q1) hg hs hd
  rw [q2] at X' W'
  exact ⟨T', h', X', e', W', A0.wr W' (fits_nar_byte x), st⟩
theorem stAC {f : Nat → Int32} {x : Int32} (X : Stand p l e R s m args below meth c T locs cells slots) (hx : p.tables.exec = Jvm.exec) (hZ : Z.Warmed39 s.vm) (eT : T.heap = h) (A : AI Z h a .char n f) (hj : j.toInt = (i : Int)) (hi : i < n) (hg : fr.method = m) (hs : fr.stack = .int x :: .int j :: .ref a :: rest) (hd : decode c.code fr.pc = .ok (.castore, 1)) :
    ∃ T' h', Stand p l e R s m args below meth c T' (locs ++ [⟨a, i⟩]) cells slots ∧ T'.heap = h' ∧ Wr h h' a i (.int (nar .char x)) ∧ AI Z h' a .char n (up f i (nar .char x)) ∧ ∀ target, Steps p.tables e below (T'.setTop { fr with pc := fr.pc + 1, stack := rest }) target → Steps p.tables e below (T.setTop fr) target := by
  have A0 := A
  obtain ⟨cl, A, S, M, G⟩ := A
  obtain ⟨q1, q2⟩ := ixo hj hi
  obtain ⟨T', h', X', e', W', st⟩ := stC X hx hZ eT A (j := j) (by rw [S]; exact q1) hg hs hd
  rw [q2] at X' W'
  exact ⟨T', h', X', e', W', A0.wr W' (fits_nar_char x), st⟩
theorem stAJ {f : Nat → Int64} {x : Int64} (X : Stand p l e R s m args below meth c T locs cells slots) (hx : p.tables.exec = Jvm.exec) (hZ : Z.Warmed39 s.vm) (eT : T.heap = h) (A : AJ Z h a n f) (hj : j.toInt = (i : Int)) (hi : i < n) (hg : fr.method = m) (hs : fr.stack = .long x :: .int j :: .ref a :: rest) (hd : decode c.code fr.pc = .ok (.lastore, 1)) :
    ∃ T' h', Stand p l e R s m args below meth c T' (locs ++ [⟨a, i⟩]) cells slots ∧ T'.heap = h' ∧ Wr h h' a i (.long x) ∧ AJ Z h' a n (up f i x) ∧ ∀ target, Steps p.tables e below (T'.setTop { fr with pc := fr.pc + 1, stack := rest }) target → Steps p.tables e below (T.setTop fr) target := by
  have A0 := A
  obtain ⟨cl, A, S, M, G⟩ := A
  obtain ⟨q1, q2⟩ := ixo hj hi
  obtain ⟨T', h', X', e', W', st⟩ := stJ X hx hZ eT A (j := j) (by rw [S]; exact q1) hg hs hd
  rw [q2] at X' W'
  exact ⟨T', h', X', e', W', A0.wr W', st⟩
theorem nwA {a0 : Array Value} {aty : ArrayType} {z : Int32} {cap : Nat} (X : Stand p l e R s m args below meth c T locs cells slots) (hx : p.tables.exec = Jvm.exec) (hZ : Z.Warmed39 s.vm) (w : (Cond.arrayClass (newarray.typeOf aty)).before a0 Z = true) (eT : T.heap = h) (hz : z.toInt = (n : Int)) (hcap : n ≤ cap) (hb : cap * 8 ≤ 536870912) (hc : cells + 1 ≤ R.cells) (hl : slots + cap ≤ R.slots) (hg : fr.method = m) (hs : fr.stack = .int z :: rest) (hd : decode c.code fr.pc = .ok (.newarray aty, 2)) :
    ∃ T' h', Stand p l e R s m args below meth c T' locs (cells + 1) (slots + cap) ∧ T'.heap = h' ∧ Ext h h' ∧ Ar Z h' h.size (newarray.typeOf aty) n (fun _ => defaultValue (newarray.typeOf aty)) ∧ ∀ target, Steps p.tables e below (T'.setTop { fr with pc := fr.pc + 2, stack := .ref h.size :: rest }) target → Steps p.tables e below (T.setTop fr) target := by
  have e0 : (0 : Int32).toInt = 0 := rfl
  have q : z.toNatClampNeg = n := by rw [Int32.toNatClampNeg, hz]; rfl
  have qn : ¬ z < 0 := by rw [Int32.lt_iff_toInt_lt]; omega
  have r := rng32 z
  obtain ⟨T', h', cA, X', e', E', A', st⟩ := newP X hx hZ w eT hg hd hs qn (cap := cap) (by omega) hb hc hl
  refine ⟨T', h', X', e', E', ⟨_, A', by rw [sz_new, q], by omega, fun i hi => ⟨?_, by cases aty <;> rfl⟩⟩, st⟩
  simp [newA, q, hi]
/-- System.arraycopy of the first k places -/
theorem cpAr {a0 : Array Value} {own : String} {index : Nat} {b : Addr} {ty : FieldType} {n1 n2 k : Nat} {f1 f2 : Nat → Value} {nn : Int32} {n0 W : Nat} (X : Stand p l e R s m args below meth c T locs cells slots) (hx : p.tables.exec = Jvm.exec) (hZ : Z.Warmed39 s.vm) (hown : s.vm.findClass own = some m.cls)
    (w1 : (Cond.methodLink own index Jvm.Stand.acN).before a0 Z = true) (w2 : (Cond.native Jvm.Stand.acN).before a0 Z = true) (w3 : (Cond.static Jvm.Stand.acN).before a0 Z = true) (w4 : (Cond.initialized "java/lang/System").before a0 Z = true) (eT : T.heap = h)
    (A : Ar Z h a ty n1 f1) (B : Ar Z h b ty n2 f2) (hty : refKind ty = false) (hk : nn.toInt = (k : Int)) (h4 : k ≤ n1) (h5 : k ≤ n2) (N : Fr n0 locs) (ge : n0 ≤ b)
    (hg : fr.method = m) (hsize : fr.locals.size = c.maxLocals) (hs : fr.stack = .int nn :: .int 0 :: .ref b :: .int 0 :: .ref a :: rest) (hd : decode c.code fr.pc = .ok (.invokestatic index, 3))
    (hf : 1 ≤ R.frames) (hW : 2 * fr.monitorRoom + (rest.map fun v => v.category).sum ≤ W) (hlo : W + (nativeFrameWords "java/lang/System" "arraycopy" 5 + 11) ≤ R.locals) :
    ∃ T' h' L, Stand p l e R s m args below meth c T' L cells slots ∧ T'.heap = h' ∧ Fr n0 L ∧ Keep h h' [b] ∧ Ar Z h' b ty n2 (fun j => if j < k then f1 j else f2 j) ∧
      ∀ target, Steps p.tables e below (T'.setTop { fr with pc := fr.pc + 3, stack := rest }) target → Steps p.tables e below (T.setTop fr) target := by
  obtain ⟨ka, A'⟩ := A.arv
  obtain ⟨kb, B'⟩ := B.arv
  have m1 := A.bound
  have m2 := B.bound
  have e0 : (0 : Int32).toInt = 0 := rfl
  have z0 : (0 : Int32).toNatClampNeg = 0 := rfl
  have hkk : nn.toNatClampNeg = k := by rw [Int32.toNatClampNeg, hk]; rfl
  have q1 : (Int32.ofNat n1).toInt = (n1 : Int) := Int32.toInt_ofNat_of_lt (by omega)
  have q2 : (Int32.ofNat n2).toInt = (n2 : Int) := Int32.toInt_ofNat_of_lt (by omega)
  have p1 : (Int32.ofNat n1).toNatClampNeg = n1 := by rw [Int32.toNatClampNeg, q1]; rfl
  have p2 : (Int32.ofNat n2).toNatClampNeg = n2 := by rw [Int32.toNatClampNeg, q2]; rfl
  obtain ⟨T', h', L', X', e', N', K', B2, st⟩ := cpA X hx hZ hown w1 w2 w3 w4 eT A' B' (Or.inl ⟨rfl, hty⟩) (sp := 0) (dp := 0) (nn := nn) (by decide) (by decide) (by rw [Int32.lt_iff_toInt_lt]; omega) (by rw [z0, hkk, p1]; omega) (by rw [z0, hkk, p2]; omega) rfl (by rw [z0, hkk, List.length_map, List.length_range]; omega) N ge hg hsize hs hd hf hW hlo
  refine ⟨T', h', L', X', e', N', K', (Ar.of_arv B2 q2).congr fun j hj => ?_, st⟩
  simp only [z0, hkk, List.take_zero, List.nil_append, Nat.zero_add, List.getD_eq_getElem?_getD]
  by_cases c1 : j < k
  · rw [if_pos c1, List.getElem?_append_left (by simpa using c1)]
    simp [c1, show j < n1 by omega]
  · rw [if_neg c1, List.getElem?_append_right (by simpa using c1)]
    simp [show k + (j - k) = j by omega, hj]
end Steps
end Jvm.Pilot.@@N@@.OwnKit
namespace Jvm.Pilot.@@N@@
open Jvm Jvm.ClassFile Sem Op Lib Jvm.Free Jvm.Stand Jvm.LawKit Jvm.RoadKit Bundle Jvm.Pilot.@@N@@.Jvm.D Jvm.Pilot.@@N@@.OwnKit
theorem own_ltn {a b : Int32} {i n : Nat} (h1 : a.toInt = (i : Int)) (h2 : b.toInt = (n : Int)) (h : a < b) : i < n := by rw [Int32.lt_iff_toInt_lt] at h; omega
theorem own_gen {a b : Int32} {i n : Nat} (h1 : a.toInt = (i : Int)) (h2 : b.toInt = (n : Int)) (h : ¬ a < b) : n ≤ i := by rw [Int32.lt_iff_toInt_lt] at h; omega
theorem d1_0 : decode method_3_code 0 = .ok (.iload_n 0, 1) := by decide +kernel
theorem d1_1 : decode method_3_code 1 = .ok (.iconst 2, 1) := by decide +kernel
theorem d1_2 : decode method_3_code 2 = .ok (.iload_n 1, 1) := by decide +kernel
theorem d1_3 : decode method_3_code 3 = .ok (.imul, 1) := by decide +kernel
theorem d1_4 : decode method_3_code 4 = .ok (.iushr, 1) := by decide +kernel
theorem d1_5 : decode method_3_code 5 = .ok (.iconst 3, 1) := by decide +kernel
theorem d1_6 : decode method_3_code 6 = .ok (.iand, 1) := by decide +kernel
theorem d1_7 : decode method_3_code 7 = .ok (.istore 8, 2) := by decide +kernel
theorem d1_9 : decode method_3_code 9 = .ok (.iload 8, 2) := by decide +kernel
theorem d1_11 : decode method_3_code 11 = .ok (.ifCond .ne 7, 3) := by decide +kernel
theorem d1_14 : decode method_3_code 14 = .ok (.ldc2_w 25, 3) := by decide +kernel
theorem d1_17 : decode method_3_code 17 = .ok (.lreturn, 1) := by decide +kernel
theorem d1_18 : decode method_3_code 18 = .ok (.iload 8, 2) := by decide +kernel
theorem d1_20 : decode method_3_code 20 = .ok (.iconst 1, 1) := by decide +kernel
theorem d1_21 : decode method_3_code 21 = .ok (.if_icmp .ne 5, 3) := by decide +kernel
theorem d1_24 : decode method_3_code 24 = .ok (.lload_n 2, 1) := by decide +kernel
theorem d1_25 : decode method_3_code 25 = .ok (.lreturn, 1) := by decide +kernel
theorem d1_26 : decode method_3_code 26 = .ok (.iload 8, 2) := by decide +kernel
theorem d1_28 : decode method_3_code 28 = .ok (.iconst 2, 1) := by decide +kernel
theorem d1_29 : decode method_3_code 29 = .ok (.if_icmp .ne 6, 3) := by decide +kernel
theorem d1_32 : decode method_3_code 32 = .ok (.lload 4, 2) := by decide +kernel
theorem d1_34 : decode method_3_code 34 = .ok (.lreturn, 1) := by decide +kernel
theorem d1_35 : decode method_3_code 35 = .ok (.lload 6, 2) := by decide +kernel
theorem d1_37 : decode method_3_code 37 = .ok (.lreturn, 1) := by decide +kernel
def fn1 (pc0 : Int32) (pi : Int32) (pp : Int64) (pa : Int64) (pb : Int64) : Int64 := (if (((pc0.toUInt32 >>> (((2 : Int32) * pi) &&& 31).toUInt32).toInt32) &&& (3 : Int32)) = (0 : Int32) then (-1 : Int64) else (if (((pc0.toUInt32 >>> (((2 : Int32) * pi) &&& 31).toUInt32).toInt32) &&& (3 : Int32)) = (1 : Int32) then pp else (if (((pc0.toUInt32 >>> (((2 : Int32) * pi) &&& 31).toUInt32).toInt32) &&& (3 : Int32)) = (2 : Int32) then pa else pb)))
theorem pn_0 : plainName "com/example/xml_graph_join/xmlgraphjoin/labels/PackedSlotsFindPinLaw" = true := by first | (simp [plainName, overriddenIn]; done) | decide +kernel
theorem ef1 (m : MethodId) (pc0 : Int32) (pi : Int32) (pp : Int64) (pa : Int64) (pb : Int64) : entryFrame m #[(.int pc0), (.int pi), (.long pp), (.long pa), (.long pb)] 9 = mkF m 0 #[.val (.int pc0), .val (.int pi), .val (.long pp), .second, .val (.long pa), .second, .val (.long pb), .second, .unset] [] := by first | (simp [entryFrame, mkF, argsToLocals, Value.category]; done) | rfl
def Q1 (Z : State) (pc0 : Int32) (pi : Int32) (pp : Int64) (pa : Int64) (pb : Int64) (h0 : Heap) (n0 : Nat) (v : Option Value) (h : Heap) (L : List Loc) : Prop := v = some (.long (fn1 pc0 pi pp pa pb)) ∧ Fr n0 L ∧ h = h0
set_option maxRecDepth 65536 in
set_option maxHeartbeats 40000000 in
theorem rm1 (l : Launch) (Z : State) (a0 : Array Value) (hw : ∀ d ∈ tables_1, d.before a0 Z = true) (ws : List Jvm.Cond) (pc0 : Int32) (pi : Int32) (pp : Int64) (pa : Int64) (pb : Int64) (h0 : Heap) (n0 : Nat) (Z0 : n0 ≤ h0.size) :
    MetFree l (⟨"com/example/xml_graph_join/xmlgraphjoin/labels/PackedSlotsFindPinLaw", "pick", "(IIJJJ)J"⟩ : MethodName) (head1 (Jvm.Cond.code (⟨"com/example/xml_graph_join/xmlgraphjoin/labels/PackedSlotsFindPinLaw", "pick", "(IIJJJ)J"⟩ : MethodName) method_3_code 9 (some .long) :: ws) ({ frames := 0, cells := 0, slots := 0, locals := 0 } : Room)) (fun a U => a = #[(.int pc0), (.int pi), (.long pp), (.long pa), (.long pb)] ∧ Z.Warmed39 U.vm ∧ U.heap = h0) (fun _ _ _ _ _ => True) (fun _ U o U' => ∃ v L, o = .returned v ∧ Q1 Z pc0 pi pp pa pb h0 n0 v U'.heap L ∧ FrameEnd U o U' L ({ frames := 0, cells := 0, slots := 0, locals := 0 } : Room).cells ({ frames := 0, cells := 0, slots := 0, locals := 0 } : Room).slots) := by
  refine MetFree.of_bodySF (plainFor_of_name pn_0) hisR ?_
  intro p e s m args below meth c s₁ Bd hml0 hP hK
  obtain ⟨rfl, hZ, hh⟩ := hP
  have hx := Bd.exec
  have hby := Bd.bytes
  have hml : c.maxLocals = 9 := hml0
  have hown : s.vm.findClass "com/example/xml_graph_join/xmlgraphjoin/labels/PackedSlotsFindPinLaw" = some m.cls := findClass_of_methodNamed Bd.named
  have hnm := (name_of_methodNamed Bd.named Bd.method).1
  have X0 : Stand p l e ({ frames := 0, cells := 0, slots := 0, locals := 0 } : Room) s m #[(.int pc0), (.int pi), (.long pp), (.long pa), (.long pb)] below meth c s₁ [] 0 0 := Stand.of_body Bd
  have e0 : s₁.heap = h0 := by rw [← hh, Bd.state]; rfl
  have N0 := Fr.nil n0
  refine Goes.by (fun _ k => castTop (ef1 m pc0 pi pp pa pb) k) ?_
  show Goes p.tables e below (s₁.setTop (mkF m 0 #[.val (.int pc0), .val (.int pi), .val (.long pp), .second, .val (.long pa), .second, .val (.long pb), .second, .unset] [])) _
  refine Goes.by (fun _ k => XS.iloadN X0.here hx rfl (hb hby d1_0) rfl k) ?_
  show Goes p.tables e below (s₁.setTop (mkF m 1 #[.val (.int pc0), .val (.int pi), .val (.long pp), .second, .val (.long pa), .second, .val (.long pb), .second, .unset] [(.int pc0)])) _
  refine Goes.by (fun _ k => XS.iconst X0.here hx rfl (hb hby d1_1) k) ?_
  show Goes p.tables e below (s₁.setTop (mkF m 2 #[.val (.int pc0), .val (.int pi), .val (.long pp), .second, .val (.long pa), .second, .val (.long pb), .second, .unset] [(.int (2 : Int32)), (.int pc0)])) _
  refine Goes.by (fun _ k => XS.iloadN X0.here hx rfl (hb hby d1_2) rfl k) ?_
  show Goes p.tables e below (s₁.setTop (mkF m 3 #[.val (.int pc0), .val (.int pi), .val (.long pp), .second, .val (.long pa), .second, .val (.long pb), .second, .unset] [(.int pi), (.int (2 : Int32)), (.int pc0)])) _
  refine Goes.by (fun _ k => XS.imul X0.here hx rfl (hb hby d1_3) rfl k) ?_
  show Goes p.tables e below (s₁.setTop (mkF m 4 #[.val (.int pc0), .val (.int pi), .val (.long pp), .second, .val (.long pa), .second, .val (.long pb), .second, .unset] [(.int ((2 : Int32) * pi)), (.int pc0)])) _
  refine Goes.by (fun _ k => XS.iushr X0.here hx rfl (hb hby d1_4) rfl k) ?_
  show Goes p.tables e below (s₁.setTop (mkF m 5 #[.val (.int pc0), .val (.int pi), .val (.long pp), .second, .val (.long pa), .second, .val (.long pb), .second, .unset] [(.int ((pc0.toUInt32 >>> (((2 : Int32) * pi) &&& 31).toUInt32).toInt32))])) _
  refine Goes.by (fun _ k => XS.iconst X0.here hx rfl (hb hby d1_5) k) ?_
  show Goes p.tables e below (s₁.setTop (mkF m 6 #[.val (.int pc0), .val (.int pi), .val (.long pp), .second, .val (.long pa), .second, .val (.long pb), .second, .unset] [(.int (3 : Int32)), (.int ((pc0.toUInt32 >>> (((2 : Int32) * pi) &&& 31).toUInt32).toInt32))])) _
  refine Goes.by (fun _ k => XS.iand X0.here hx rfl (hb hby d1_6) rfl k) ?_
  show Goes p.tables e below (s₁.setTop (mkF m 7 #[.val (.int pc0), .val (.int pi), .val (.long pp), .second, .val (.long pa), .second, .val (.long pb), .second, .unset] [(.int (((pc0.toUInt32 >>> (((2 : Int32) * pi) &&& 31).toUInt32).toInt32) &&& (3 : Int32)))])) _
  refine Goes.by (fun _ k => XS.istore X0.here hx rfl (hb hby d1_7) rfl (l' := #[.val (.int pc0), .val (.int pi), .val (.long pp), .second, .val (.long pa), .second, .val (.long pb), .second, .val (.int (((pc0.toUInt32 >>> (((2 : Int32) * pi) &&& 31).toUInt32).toInt32) &&& (3 : Int32)))]) rfl k) ?_
  show Goes p.tables e below (s₁.setTop (mkF m 9 #[.val (.int pc0), .val (.int pi), .val (.long pp), .second, .val (.long pa), .second, .val (.long pb), .second, .val (.int (((pc0.toUInt32 >>> (((2 : Int32) * pi) &&& 31).toUInt32).toInt32) &&& (3 : Int32)))] [])) _
  refine Goes.by (fun _ k => XS.iload X0.here hx rfl (hb hby d1_9) rfl k) ?_
  show Goes p.tables e below (s₁.setTop (mkF m 11 #[.val (.int pc0), .val (.int pi), .val (.long pp), .second, .val (.long pa), .second, .val (.long pb), .second, .val (.int (((pc0.toUInt32 >>> (((2 : Int32) * pi) &&& 31).toUInt32).toInt32) &&& (3 : Int32)))] [(.int (((pc0.toUInt32 >>> (((2 : Int32) * pi) &&& 31).toUInt32).toInt32) &&& (3 : Int32)))])) _
  by_cases hc1 : (((pc0.toUInt32 >>> (((2 : Int32) * pi) &&& 31).toUInt32).toInt32) &&& (3 : Int32)) = (0 : Int32)
  · refine Goes.by (fun _ k => XS.ifNo X0.here hx rfl (hb hby d1_11) rfl ((if0 _ _).trans (teq hc1).2) k) ?_
    show Goes p.tables e below (s₁.setTop (mkF m 14 #[.val (.int pc0), .val (.int pi), .val (.long pp), .second, .val (.long pa), .second, .val (.long pb), .second, .val (.int (((pc0.toUInt32 >>> (((2 : Int32) * pi) &&& 31).toUInt32).toInt32) &&& (3 : Int32)))] [])) _
    refine Goes.by (fun _ k => X0.ldc2J hx hown (mvT hZ (hw _ (List.mem_of_getElem? (i := 9) rfl))) (g := (mkF m 14 #[.val (.int pc0), .val (.int pi), .val (.long pp), .second, .val (.long pa), .second, .val (.long pb), .second, .val (.int (((pc0.toUInt32 >>> (((2 : Int32) * pi) &&& 31).toUInt32).toInt32) &&& (3 : Int32)))] [])) rfl (hb hby d1_14) k) ?_
    show Goes p.tables e below (s₁.setTop (mkF m 17 #[.val (.int pc0), .val (.int pi), .val (.long pp), .second, .val (.long pa), .second, .val (.long pb), .second, .val (.int (((pc0.toUInt32 >>> (((2 : Int32) * pi) &&& 31).toUInt32).toInt32) &&& (3 : Int32)))] [(.long (-1 : Int64))])) _
    obtain ⟨fs, hr, hrun, hended, hW, hsame⟩ := X0.leave (v := some (.long (-1 : Int64))) (fun h => by rw [Bd.returns] at h; cases h)
    refine ⟨_, _, retOut X0 hx Bd.returns (i := .lreturn) rfl (Or.inr (Or.inl ⟨rfl, rfl, _, rfl⟩)) (hb hby d1_17) hr, hrun, hended, _, _, rfl, ?_, ⟨_, rfl⟩, hW, hsame.mono (by decide) (by decide)⟩
    show Q1 Z pc0 pi pp pa pb h0 n0 _ s₁.heap _
    rw [e0]
    exact ⟨(by rw [fn1, if_pos hc1]), N0, rfl⟩
  · refine Goes.by (fun _ k => XS.ifYes X0.here hx rfl (pc0 := 11) (pc' := 18) rfl (hb hby d1_11) rfl ((if0 _ _).trans (feq hc1).2) (by decide) (by decide) k) ?_
    show Goes p.tables e below (s₁.setTop (mkF m 18 #[.val (.int pc0), .val (.int pi), .val (.long pp), .second, .val (.long pa), .second, .val (.long pb), .second, .val (.int (((pc0.toUInt32 >>> (((2 : Int32) * pi) &&& 31).toUInt32).toInt32) &&& (3 : Int32)))] [])) _
    refine Goes.by (fun _ k => XS.iload X0.here hx rfl (hb hby d1_18) rfl k) ?_
    show Goes p.tables e below (s₁.setTop (mkF m 20 #[.val (.int pc0), .val (.int pi), .val (.long pp), .second, .val (.long pa), .second, .val (.long pb), .second, .val (.int (((pc0.toUInt32 >>> (((2 : Int32) * pi) &&& 31).toUInt32).toInt32) &&& (3 : Int32)))] [(.int (((pc0.toUInt32 >>> (((2 : Int32) * pi) &&& 31).toUInt32).toInt32) &&& (3 : Int32)))])) _
    refine Goes.by (fun _ k => XS.iconst X0.here hx rfl (hb hby d1_20) k) ?_
    show Goes p.tables e below (s₁.setTop (mkF m 21 #[.val (.int pc0), .val (.int pi), .val (.long pp), .second, .val (.long pa), .second, .val (.long pb), .second, .val (.int (((pc0.toUInt32 >>> (((2 : Int32) * pi) &&& 31).toUInt32).toInt32) &&& (3 : Int32)))] [(.int (1 : Int32)), (.int (((pc0.toUInt32 >>> (((2 : Int32) * pi) &&& 31).toUInt32).toInt32) &&& (3 : Int32)))])) _
    by_cases hc2 : (((pc0.toUInt32 >>> (((2 : Int32) * pi) &&& 31).toUInt32).toInt32) &&& (3 : Int32)) = (1 : Int32)
    · refine Goes.by (fun _ k => XS.icmpNo X0.here hx rfl (hb hby d1_21) rfl (teq hc2).2 k) ?_
      show Goes p.tables e below (s₁.setTop (mkF m 24 #[.val (.int pc0), .val (.int pi), .val (.long pp), .second, .val (.long pa), .second, .val (.long pb), .second, .val (.int (((pc0.toUInt32 >>> (((2 : Int32) * pi) &&& 31).toUInt32).toInt32) &&& (3 : Int32)))] [])) _
      refine Goes.by (fun _ k => XS.lloadN X0.here hx rfl (hb hby d1_24) rfl k) ?_
      show Goes p.tables e below (s₁.setTop (mkF m 25 #[.val (.int pc0), .val (.int pi), .val (.long pp), .second, .val (.long pa), .second, .val (.long pb), .second, .val (.int (((pc0.toUInt32 >>> (((2 : Int32) * pi) &&& 31).toUInt32).toInt32) &&& (3 : Int32)))] [(.long pp)])) _
      obtain ⟨fs, hr, hrun, hended, hW, hsame⟩ := X0.leave (v := some (.long pp)) (fun h => by rw [Bd.returns] at h; cases h)
      refine ⟨_, _, retOut X0 hx Bd.returns (i := .lreturn) rfl (Or.inr (Or.inl ⟨rfl, rfl, _, rfl⟩)) (hb hby d1_25) hr, hrun, hended, _, _, rfl, ?_, ⟨_, rfl⟩, hW, hsame.mono (by decide) (by decide)⟩
      show Q1 Z pc0 pi pp pa pb h0 n0 _ s₁.heap _
      rw [e0]
      exact ⟨(by rw [fn1, if_neg hc1, if_pos hc2]), N0, rfl⟩
    · refine Goes.by (fun _ k => XS.icmpYes X0.here hx rfl (pc0 := 21) (pc' := 26) rfl (hb hby d1_21) rfl (feq hc2).2 (by decide) (by decide) k) ?_
      show Goes p.tables e below (s₁.setTop (mkF m 26 #[.val (.int pc0), .val (.int pi), .val (.long pp), .second, .val (.long pa), .second, .val (.long pb), .second, .val (.int (((pc0.toUInt32 >>> (((2 : Int32) * pi) &&& 31).toUInt32).toInt32) &&& (3 : Int32)))] [])) _
      refine Goes.by (fun _ k => XS.iload X0.here hx rfl (hb hby d1_26) rfl k) ?_
      show Goes p.tables e below (s₁.setTop (mkF m 28 #[.val (.int pc0), .val (.int pi), .val (.long pp), .second, .val (.long pa), .second, .val (.long pb), .second, .val (.int (((pc0.toUInt32 >>> (((2 : Int32) * pi) &&& 31).toUInt32).toInt32) &&& (3 : Int32)))] [(.int (((pc0.toUInt32 >>> (((2 : Int32) * pi) &&& 31).toUInt32).toInt32) &&& (3 : Int32)))])) _
      refine Goes.by (fun _ k => XS.iconst X0.here hx rfl (hb hby d1_28) k) ?_
      show Goes p.tables e below (s₁.setTop (mkF m 29 #[.val (.int pc0), .val (.int pi), .val (.long pp), .second, .val (.long pa), .second, .val (.long pb), .second, .val (.int (((pc0.toUInt32 >>> (((2 : Int32) * pi) &&& 31).toUInt32).toInt32) &&& (3 : Int32)))] [(.int (2 : Int32)), (.int (((pc0.toUInt32 >>> (((2 : Int32) * pi) &&& 31).toUInt32).toInt32) &&& (3 : Int32)))])) _
      by_cases hc3 : (((pc0.toUInt32 >>> (((2 : Int32) * pi) &&& 31).toUInt32).toInt32) &&& (3 : Int32)) = (2 : Int32)
      · refine Goes.by (fun _ k => XS.icmpNo X0.here hx rfl (hb hby d1_29) rfl (teq hc3).2 k) ?_
        show Goes p.tables e below (s₁.setTop (mkF m 32 #[.val (.int pc0), .val (.int pi), .val (.long pp), .second, .val (.long pa), .second, .val (.long pb), .second, .val (.int (((pc0.toUInt32 >>> (((2 : Int32) * pi) &&& 31).toUInt32).toInt32) &&& (3 : Int32)))] [])) _
        refine Goes.by (fun _ k => XS.lload X0.here hx rfl (hb hby d1_32) rfl k) ?_
        show Goes p.tables e below (s₁.setTop (mkF m 34 #[.val (.int pc0), .val (.int pi), .val (.long pp), .second, .val (.long pa), .second, .val (.long pb), .second, .val (.int (((pc0.toUInt32 >>> (((2 : Int32) * pi) &&& 31).toUInt32).toInt32) &&& (3 : Int32)))] [(.long pa)])) _
        obtain ⟨fs, hr, hrun, hended, hW, hsame⟩ := X0.leave (v := some (.long pa)) (fun h => by rw [Bd.returns] at h; cases h)
        refine ⟨_, _, retOut X0 hx Bd.returns (i := .lreturn) rfl (Or.inr (Or.inl ⟨rfl, rfl, _, rfl⟩)) (hb hby d1_34) hr, hrun, hended, _, _, rfl, ?_, ⟨_, rfl⟩, hW, hsame.mono (by decide) (by decide)⟩
        show Q1 Z pc0 pi pp pa pb h0 n0 _ s₁.heap _
        rw [e0]
        exact ⟨(by rw [fn1, if_neg hc1, if_neg hc2, if_pos hc3]), N0, rfl⟩
      · refine Goes.by (fun _ k => XS.icmpYes X0.here hx rfl (pc0 := 29) (pc' := 35) rfl (hb hby d1_29) rfl (feq hc3).2 (by decide) (by decide) k) ?_
        show Goes p.tables e below (s₁.setTop (mkF m 35 #[.val (.int pc0), .val (.int pi), .val (.long pp), .second, .val (.long pa), .second, .val (.long pb), .second, .val (.int (((pc0.toUInt32 >>> (((2 : Int32) * pi) &&& 31).toUInt32).toInt32) &&& (3 : Int32)))] [])) _
        refine Goes.by (fun _ k => XS.lload X0.here hx rfl (hb hby d1_35) rfl k) ?_
        show Goes p.tables e below (s₁.setTop (mkF m 37 #[.val (.int pc0), .val (.int pi), .val (.long pp), .second, .val (.long pa), .second, .val (.long pb), .second, .val (.int (((pc0.toUInt32 >>> (((2 : Int32) * pi) &&& 31).toUInt32).toInt32) &&& (3 : Int32)))] [(.long pb)])) _
        obtain ⟨fs, hr, hrun, hended, hW, hsame⟩ := X0.leave (v := some (.long pb)) (fun h => by rw [Bd.returns] at h; cases h)
        refine ⟨_, _, retOut X0 hx Bd.returns (i := .lreturn) rfl (Or.inr (Or.inl ⟨rfl, rfl, _, rfl⟩)) (hb hby d1_37) hr, hrun, hended, _, _, rfl, ?_, ⟨_, rfl⟩, hW, hsame.mono (by decide) (by decide)⟩
        show Q1 Z pc0 pi pp pa pb h0 n0 _ s₁.heap _
        rw [e0]
        exact ⟨(by rw [fn1, if_neg hc1, if_neg hc2, if_neg hc3]), N0, rfl⟩
theorem d2_0 : decode method_4_code 0 = .ok (.iload_n 1, 1) := by decide +kernel
theorem d2_1 : decode method_4_code 1 = .ok (.aload_n 0, 1) := by decide +kernel
theorem d2_2 : decode method_4_code 2 = .ok (.arraylength, 1) := by decide +kernel
theorem d2_3 : decode method_4_code 3 = .ok (.if_icmp .ge 7, 3) := by decide +kernel
theorem d2_6 : decode method_4_code 6 = .ok (.aload_n 0, 1) := by decide +kernel
theorem d2_7 : decode method_4_code 7 = .ok (.iload_n 1, 1) := by decide +kernel
theorem d2_8 : decode method_4_code 8 = .ok (.lload_n 2, 1) := by decide +kernel
theorem d2_9 : decode method_4_code 9 = .ok (.lastore, 1) := by decide +kernel
theorem d2_10 : decode method_4_code 10 = .ok (.return_, 1) := by decide +kernel
theorem ef2 (m : MethodId) (oa : Addr) (pi : Int32) (pv : Int64) : entryFrame m #[(.ref oa), (.int pi), (.long pv)] 4 = mkF m 0 #[.val (.ref oa), .val (.int pi), .val (.long pv), .second] [] := by first | (simp [entryFrame, mkF, argsToLocals, Value.category]; done) | rfl
def Q2 (Z : State) (oa : Addr) (pi : Int32) (pv : Int64) (pg : Nat → Int64) (ni : Nat) (nl : Nat) (pz : Int32) (h0 : Heap) (n0 : Nat) (v : Option Value) (h : Heap) (L : List Loc) : Prop := v = none ∧ Fr n0 L ∧ Keep h0 h [oa] ∧ AJ Z h oa nl (up pg ni pv)
set_option maxRecDepth 65536 in
set_option maxHeartbeats 40000000 in
theorem rm2 (l : Launch) (Z : State) (a0 : Array Value) (hw : ∀ d ∈ tables_1, d.before a0 Z = true) (ws : List Jvm.Cond) (oa : Addr) (pi : Int32) (pv : Int64) (pg : Nat → Int64) (ni : Nat) (nl : Nat) (pz : Int32) (h0 : Heap) (n0 : Nat) (Z0 : n0 ≤ h0.size) (A_oa : AJ Z h0 oa nl pg) (hj : pi.toInt = (ni : Int)) (hz : pz.toInt = (nl : Int)) (g_oa : n0 ≤ oa) :
    MetFree l (⟨"com/example/xml_graph_join/xmlgraphjoin/labels/PackedSlotsFindPinLaw", "put", "([JIJ)V"⟩ : MethodName) (head1 (Jvm.Cond.code (⟨"com/example/xml_graph_join/xmlgraphjoin/labels/PackedSlotsFindPinLaw", "put", "([JIJ)V"⟩ : MethodName) method_4_code 4 none :: ws) ({ frames := 0, cells := 0, slots := 0, locals := 0 } : Room)) (fun a U => a = #[(.ref oa), (.int pi), (.long pv)] ∧ Z.Warmed39 U.vm ∧ U.heap = h0) (fun _ _ _ _ _ => True) (fun _ U o U' => ∃ v L, o = .returned v ∧ Q2 Z oa pi pv pg ni nl pz h0 n0 v U'.heap L ∧ FrameEnd U o U' L ({ frames := 0, cells := 0, slots := 0, locals := 0 } : Room).cells ({ frames := 0, cells := 0, slots := 0, locals := 0 } : Room).slots) := by
  refine MetFree.of_bodySF (plainFor_of_name pn_0) hisR ?_
  intro p e s m args below meth c s₁ Bd hml0 hP hK
  obtain ⟨rfl, hZ, hh⟩ := hP
  have hx := Bd.exec
  have hby := Bd.bytes
  have hml : c.maxLocals = 4 := hml0
  have hown : s.vm.findClass "com/example/xml_graph_join/xmlgraphjoin/labels/PackedSlotsFindPinLaw" = some m.cls := findClass_of_methodNamed Bd.named
  have hnm := (name_of_methodNamed Bd.named Bd.method).1
  have X0 : Stand p l e ({ frames := 0, cells := 0, slots := 0, locals := 0 } : Room) s m #[(.ref oa), (.int pi), (.long pv)] below meth c s₁ [] 0 0 := Stand.of_body Bd
  have e0 : s₁.heap = h0 := by rw [← hh, Bd.state]; rfl
  have N0 := Fr.nil n0
  refine Goes.by (fun _ k => castTop (ef2 m oa pi pv) k) ?_
  show Goes p.tables e below (s₁.setTop (mkF m 0 #[.val (.ref oa), .val (.int pi), .val (.long pv), .second] [])) _
  refine Goes.by (fun _ k => XS.iloadN X0.here hx rfl (hb hby d2_0) rfl k) ?_
  show Goes p.tables e below (s₁.setTop (mkF m 1 #[.val (.ref oa), .val (.int pi), .val (.long pv), .second] [(.int pi)])) _
  refine Goes.by (fun _ k => XS.aloadN X0.here hx rfl (hb hby d2_1) rfl rfl k) ?_
  show Goes p.tables e below (s₁.setTop (mkF m 2 #[.val (.ref oa), .val (.int pi), .val (.long pv), .second] [(.ref oa), (.int pi)])) _
  refine Goes.by (fun _ k => alen (z := pz) (fr := (mkF m 2 #[.val (.ref oa), .val (.int pi), .val (.long pv), .second] [(.ref oa), (.int pi)])) X0 hx hZ e0 A_oa hz rfl rfl (hb hby d2_2) k) ?_
  show Goes p.tables e below (s₁.setTop (mkF m 3 #[.val (.ref oa), .val (.int pi), .val (.long pv), .second] [(.int pz), (.int pi)])) _
  by_cases hc1 : pi < pz
  · refine Goes.by (fun _ k => XS.icmpNo X0.here hx rfl (hb hby d2_3) rfl (tlt hc1).2.1 k) ?_
    show Goes p.tables e below (s₁.setTop (mkF m 6 #[.val (.ref oa), .val (.int pi), .val (.long pv), .second] [])) _
    refine Goes.by (fun _ k => XS.aloadN X0.here hx rfl (hb hby d2_6) rfl rfl k) ?_
    show Goes p.tables e below (s₁.setTop (mkF m 7 #[.val (.ref oa), .val (.int pi), .val (.long pv), .second] [(.ref oa)])) _
    refine Goes.by (fun _ k => XS.iloadN X0.here hx rfl (hb hby d2_7) rfl k) ?_
    show Goes p.tables e below (s₁.setTop (mkF m 8 #[.val (.ref oa), .val (.int pi), .val (.long pv), .second] [(.int pi), (.ref oa)])) _
    refine Goes.by (fun _ k => XS.lloadN X0.here hx rfl (hb hby d2_8) rfl k) ?_
    show Goes p.tables e below (s₁.setTop (mkF m 9 #[.val (.ref oa), .val (.int pi), .val (.long pv), .second] [(.long pv), (.int pi), (.ref oa)])) _
    obtain ⟨T2, h2, X2, e2, W2, A2, st2⟩ := stAJ (fr := (mkF m 9 #[.val (.ref oa), .val (.int pi), .val (.long pv), .second] [(.long pv), (.int pi), (.ref oa)])) X0 hx hZ e0 A_oa (i := ni) hj (own_ltn hj hz hc1) rfl rfl (hb hby d2_9)
    refine Goes.by st2 ?_
    have A_oa : AJ Z h2 oa nl (up pg ni pv) := A2
    have N2 := Fr.snoc X2 N0 g_oa
    have Zs2 : n0 ≤ h2.size := Nat.le_trans Z0 (Keep.of_wr W2).1
    have K2 : Keep h0 h2 [oa] := (Keep.refl h0 [oa]).wr W2 (Or.inl (List.mem_of_getElem? (i := 0) rfl))
    show Goes p.tables e below (T2.setTop (mkF m 10 #[.val (.ref oa), .val (.int pi), .val (.long pv), .second] [])) _
    obtain ⟨fs, hr, hrun, hended, hW, hsame⟩ := X2.leave (v := none) (fun _ => rfl)
    refine ⟨_, _, X2.returnOut hx Bd.returns (hb hby d2_10) hr, hrun, hended, _, _, rfl, ?_, ⟨_, rfl⟩, hW, hsame.mono (by decide) (by decide)⟩
    show Q2 Z oa pi pv pg ni nl pz h0 n0 _ T2.heap _
    rw [e2]
    exact ⟨rfl, N2, K2, A_oa⟩
  · refine Goes.by (fun _ k => XS.icmpYes X0.here hx rfl (pc0 := 3) (pc' := 10) rfl (hb hby d2_3) rfl (flt hc1).2.1 (by decide) (by decide) k) ?_
    show Goes p.tables e below (s₁.setTop (mkF m 10 #[.val (.ref oa), .val (.int pi), .val (.long pv), .second] [])) _
    have A_oa : AJ Z h0 oa nl (up pg ni pv) := A_oa.congr (fun j hj' => (up_ne pg pv (by have q := own_gen hj hz hc1; omega)).symm)
    obtain ⟨fs, hr, hrun, hended, hW, hsame⟩ := X0.leave (v := none) (fun _ => rfl)
    refine ⟨_, _, X0.returnOut hx Bd.returns (hb hby d2_10) hr, hrun, hended, _, _, rfl, ?_, ⟨_, rfl⟩, hW, hsame.mono (by decide) (by decide)⟩
    show Q2 Z oa pi pv pg ni nl pz h0 n0 _ s₁.heap _
    rw [e0]
    exact ⟨rfl, N0, (Keep.refl h0 [oa]), A_oa⟩
theorem d3_0 : decode method_5_code 0 = .ok (.iload_n 1, 1) := by decide +kernel
theorem d3_1 : decode method_5_code 1 = .ok (.aload_n 0, 1) := by decide +kernel
theorem d3_2 : decode method_5_code 2 = .ok (.arraylength, 1) := by decide +kernel
theorem d3_3 : decode method_5_code 3 = .ok (.if_icmp .ge 25, 3) := by decide +kernel
theorem d3_6 : decode method_5_code 6 = .ok (.aload_n 0, 1) := by decide +kernel
theorem d3_7 : decode method_5_code 7 = .ok (.iload_n 1, 1) := by decide +kernel
theorem d3_8 : decode method_5_code 8 = .ok (.laload, 1) := by decide +kernel
theorem d3_9 : decode method_5_code 9 = .ok (.ldc2_w 25, 3) := by decide +kernel
theorem d3_12 : decode method_5_code 12 = .ok (.lcmp, 1) := by decide +kernel
theorem d3_13 : decode method_5_code 13 = .ok (.ifCond .eq 11, 3) := by decide +kernel
theorem d3_24 : decode method_5_code 24 = .ok (.iconst 1, 1) := by decide +kernel
theorem d3_25 : decode method_5_code 25 = .ok (.goto 4, 3) := by decide +kernel
theorem d3_29 : decode method_5_code 29 = .ok (.ireturn, 1) := by decide +kernel
theorem d3_16 : decode method_5_code 16 = .ok (.aload_n 0, 1) := by decide +kernel
theorem d3_17 : decode method_5_code 17 = .ok (.iload_n 1, 1) := by decide +kernel
theorem d3_18 : decode method_5_code 18 = .ok (.laload, 1) := by decide +kernel
theorem d3_19 : decode method_5_code 19 = .ok (.lload_n 2, 1) := by decide +kernel
theorem d3_20 : decode method_5_code 20 = .ok (.lcmp, 1) := by decide +kernel
theorem d3_21 : decode method_5_code 21 = .ok (.ifCond .ne 7, 3) := by decide +kernel
theorem d3_28 : decode method_5_code 28 = .ok (.iconst 0, 1) := by decide +kernel
def fn3 (pi : Int32) (pp : Int64) (pg : Nat → Int64) (ni : Nat) (nl : Nat) (pz : Int32) : Int32 := (if pi < pz then (if (pg ni) = (-1 : Int64) then (1 : Int32) else (if (pg ni) = pp then (1 : Int32) else (0 : Int32))) else (0 : Int32))
theorem ef3 (m : MethodId) (oa : Addr) (pi : Int32) (pp : Int64) : entryFrame m #[(.ref oa), (.int pi), (.long pp)] 4 = mkF m 0 #[.val (.ref oa), .val (.int pi), .val (.long pp), .second] [] := by first | (simp [entryFrame, mkF, argsToLocals, Value.category]; done) | rfl
def Q3 (Z : State) (oa : Addr) (pi : Int32) (pp : Int64) (pg : Nat → Int64) (ni : Nat) (nl : Nat) (pz : Int32) (h0 : Heap) (n0 : Nat) (v : Option Value) (h : Heap) (L : List Loc) : Prop := v = some (.int (fn3 pi pp pg ni nl pz)) ∧ Fr n0 L ∧ h = h0
set_option maxRecDepth 65536 in
set_option maxHeartbeats 40000000 in
theorem rm3 (l : Launch) (Z : State) (a0 : Array Value) (hw : ∀ d ∈ tables_1, d.before a0 Z = true) (ws : List Jvm.Cond) (oa : Addr) (pi : Int32) (pp : Int64) (pg : Nat → Int64) (ni : Nat) (nl : Nat) (pz : Int32) (h0 : Heap) (n0 : Nat) (Z0 : n0 ≤ h0.size) (A_oa : AJ Z h0 oa nl pg) (hj : pi.toInt = (ni : Int)) (hz : pz.toInt = (nl : Int)) :
    MetFree l (⟨"com/example/xml_graph_join/xmlgraphjoin/labels/PackedSlotsFindPinLaw", "stopAt", "([JIJ)Z"⟩ : MethodName) (head1 (Jvm.Cond.code (⟨"com/example/xml_graph_join/xmlgraphjoin/labels/PackedSlotsFindPinLaw", "stopAt", "([JIJ)Z"⟩ : MethodName) method_5_code 4 (some .boolean) :: ws) ({ frames := 0, cells := 0, slots := 0, locals := 0 } : Room)) (fun a U => a = #[(.ref oa), (.int pi), (.long pp)] ∧ Z.Warmed39 U.vm ∧ U.heap = h0) (fun _ _ _ _ _ => True) (fun _ U o U' => ∃ v L, o = .returned v ∧ Q3 Z oa pi pp pg ni nl pz h0 n0 v U'.heap L ∧ FrameEnd U o U' L ({ frames := 0, cells := 0, slots := 0, locals := 0 } : Room).cells ({ frames := 0, cells := 0, slots := 0, locals := 0 } : Room).slots) := by
  refine MetFree.of_bodySF (plainFor_of_name pn_0) hisR ?_
  intro p e s m args below meth c s₁ Bd hml0 hP hK
  obtain ⟨rfl, hZ, hh⟩ := hP
  have hx := Bd.exec
  have hby := Bd.bytes
  have hml : c.maxLocals = 4 := hml0
  have hown : s.vm.findClass "com/example/xml_graph_join/xmlgraphjoin/labels/PackedSlotsFindPinLaw" = some m.cls := findClass_of_methodNamed Bd.named
  have hnm := (name_of_methodNamed Bd.named Bd.method).1
  have X0 : Stand p l e ({ frames := 0, cells := 0, slots := 0, locals := 0 } : Room) s m #[(.ref oa), (.int pi), (.long pp)] below meth c s₁ [] 0 0 := Stand.of_body Bd
  have e0 : s₁.heap = h0 := by rw [← hh, Bd.state]; rfl
  have N0 := Fr.nil n0
  refine Goes.by (fun _ k => castTop (ef3 m oa pi pp) k) ?_
  show Goes p.tables e below (s₁.setTop (mkF m 0 #[.val (.ref oa), .val (.int pi), .val (.long pp), .second] [])) _
  refine Goes.by (fun _ k => XS.iloadN X0.here hx rfl (hb hby d3_0) rfl k) ?_
  show Goes p.tables e below (s₁.setTop (mkF m 1 #[.val (.ref oa), .val (.int pi), .val (.long pp), .second] [(.int pi)])) _
  refine Goes.by (fun _ k => XS.aloadN X0.here hx rfl (hb hby d3_1) rfl rfl k) ?_
  show Goes p.tables e below (s₁.setTop (mkF m 2 #[.val (.ref oa), .val (.int pi), .val (.long pp), .second] [(.ref oa), (.int pi)])) _
  refine Goes.by (fun _ k => alen (z := pz) (fr := (mkF m 2 #[.val (.ref oa), .val (.int pi), .val (.long pp), .second] [(.ref oa), (.int pi)])) X0 hx hZ e0 A_oa hz rfl rfl (hb hby d3_2) k) ?_
  show Goes p.tables e below (s₁.setTop (mkF m 3 #[.val (.ref oa), .val (.int pi), .val (.long pp), .second] [(.int pz), (.int pi)])) _
  by_cases hc1 : pi < pz
  · refine Goes.by (fun _ k => XS.icmpNo X0.here hx rfl (hb hby d3_3) rfl (tlt hc1).2.1 k) ?_
    show Goes p.tables e below (s₁.setTop (mkF m 6 #[.val (.ref oa), .val (.int pi), .val (.long pp), .second] [])) _
    refine Goes.by (fun _ k => XS.aloadN X0.here hx rfl (hb hby d3_6) rfl rfl k) ?_
    show Goes p.tables e below (s₁.setTop (mkF m 7 #[.val (.ref oa), .val (.int pi), .val (.long pp), .second] [(.ref oa)])) _
    refine Goes.by (fun _ k => XS.iloadN X0.here hx rfl (hb hby d3_7) rfl k) ?_
    show Goes p.tables e below (s₁.setTop (mkF m 8 #[.val (.ref oa), .val (.int pi), .val (.long pp), .second] [(.int pi), (.ref oa)])) _
    refine Goes.by (fun _ k => ldJ (v := (pg ni)) (fr := (mkF m 8 #[.val (.ref oa), .val (.int pi), .val (.long pp), .second] [(.int pi), (.ref oa)])) X0 hx hZ e0 A_oa (i := ni) hj (own_ltn hj hz hc1) rfl rfl rfl (hb hby d3_8) k) ?_
    show Goes p.tables e below (s₁.setTop (mkF m 9 #[.val (.ref oa), .val (.int pi), .val (.long pp), .second] [(.long (pg ni))])) _
    refine Goes.by (fun _ k => X0.ldc2J hx hown (mvT hZ (hw _ (List.mem_of_getElem? (i := 9) rfl))) (g := (mkF m 9 #[.val (.ref oa), .val (.int pi), .val (.long pp), .second] [(.long (pg ni))])) rfl (hb hby d3_9) k) ?_
    show Goes p.tables e below (s₁.setTop (mkF m 12 #[.val (.ref oa), .val (.int pi), .val (.long pp), .second] [(.long (-1 : Int64)), (.long (pg ni))])) _
    refine Goes.by (fun _ k => XS.lcmp X0.here hx rfl (hb hby d3_12) rfl k) ?_
    show Goes p.tables e below (s₁.setTop (mkF m 13 #[.val (.ref oa), .val (.int pi), .val (.long pp), .second] [(.int (lcmpW (pg ni) (-1 : Int64)))])) _
    by_cases hc2 : (pg ni) = (-1 : Int64)
    · refine Goes.by (fun _ k => XS.ifYes X0.here hx rfl (pc0 := 13) (pc' := 24) rfl (hb hby d3_13) rfl (je_t hc2).1 (by decide) (by decide) k) ?_
      show Goes p.tables e below (s₁.setTop (mkF m 24 #[.val (.ref oa), .val (.int pi), .val (.long pp), .second] [])) _
      refine Goes.by (fun _ k => XS.iconst X0.here hx rfl (hb hby d3_24) k) ?_
      show Goes p.tables e below (s₁.setTop (mkF m 25 #[.val (.ref oa), .val (.int pi), .val (.long pp), .second] [(.int (1 : Int32))])) _
      refine Goes.by (fun _ k => XS.goto X0.here hx rfl (pc0 := 25) (pc' := 29) rfl (hb hby d3_25) (by decide) (by decide) k) ?_
      show Goes p.tables e below (s₁.setTop (mkF m 29 #[.val (.ref oa), .val (.int pi), .val (.long pp), .second] [(.int (1 : Int32))])) _
      obtain ⟨fs, hr, hrun, hended, hW, hsame⟩ := X0.leave (v := some (.int (1 : Int32))) (fun h => by rw [Bd.returns] at h; cases h)
      refine ⟨_, _, retN X0 hx (t := .boolean) Bd.returns (by simp) (hb hby d3_29) hr, hrun, hended, _, _, rfl, ?_, ⟨_, rfl⟩, hW, hsame.mono (by decide) (by decide)⟩
      show Q3 Z oa pi pp pg ni nl pz h0 n0 _ s₁.heap _
      rw [e0]
      exact ⟨(by rw [fn3, if_pos hc1, if_pos hc2]), N0, rfl⟩
    · refine Goes.by (fun _ k => XS.ifNo X0.here hx rfl (hb hby d3_13) rfl (je_f hc2).1 k) ?_
      show Goes p.tables e below (s₁.setTop (mkF m 16 #[.val (.ref oa), .val (.int pi), .val (.long pp), .second] [])) _
      refine Goes.by (fun _ k => XS.aloadN X0.here hx rfl (hb hby d3_16) rfl rfl k) ?_
      show Goes p.tables e below (s₁.setTop (mkF m 17 #[.val (.ref oa), .val (.int pi), .val (.long pp), .second] [(.ref oa)])) _
      refine Goes.by (fun _ k => XS.iloadN X0.here hx rfl (hb hby d3_17) rfl k) ?_
      show Goes p.tables e below (s₁.setTop (mkF m 18 #[.val (.ref oa), .val (.int pi), .val (.long pp), .second] [(.int pi), (.ref oa)])) _
      refine Goes.by (fun _ k => ldJ (v := (pg ni)) (fr := (mkF m 18 #[.val (.ref oa), .val (.int pi), .val (.long pp), .second] [(.int pi), (.ref oa)])) X0 hx hZ e0 A_oa (i := ni) hj (own_ltn hj hz hc1) rfl rfl rfl (hb hby d3_18) k) ?_
      show Goes p.tables e below (s₁.setTop (mkF m 19 #[.val (.ref oa), .val (.int pi), .val (.long pp), .second] [(.long (pg ni))])) _
      refine Goes.by (fun _ k => XS.lloadN X0.here hx rfl (hb hby d3_19) rfl k) ?_
      show Goes p.tables e below (s₁.setTop (mkF m 20 #[.val (.ref oa), .val (.int pi), .val (.long pp), .second] [(.long pp), (.long (pg ni))])) _
      refine Goes.by (fun _ k => XS.lcmp X0.here hx rfl (hb hby d3_20) rfl k) ?_
      show Goes p.tables e below (s₁.setTop (mkF m 21 #[.val (.ref oa), .val (.int pi), .val (.long pp), .second] [(.int (lcmpW (pg ni) pp))])) _
      by_cases hc3 : (pg ni) = pp
      · refine Goes.by (fun _ k => XS.ifNo X0.here hx rfl (hb hby d3_21) rfl (je_t hc3).2 k) ?_
        show Goes p.tables e below (s₁.setTop (mkF m 24 #[.val (.ref oa), .val (.int pi), .val (.long pp), .second] [])) _
        refine Goes.by (fun _ k => XS.iconst X0.here hx rfl (hb hby d3_24) k) ?_
        show Goes p.tables e below (s₁.setTop (mkF m 25 #[.val (.ref oa), .val (.int pi), .val (.long pp), .second] [(.int (1 : Int32))])) _
        refine Goes.by (fun _ k => XS.goto X0.here hx rfl (pc0 := 25) (pc' := 29) rfl (hb hby d3_25) (by decide) (by decide) k) ?_
        show Goes p.tables e below (s₁.setTop (mkF m 29 #[.val (.ref oa), .val (.int pi), .val (.long pp), .second] [(.int (1 : Int32))])) _
        obtain ⟨fs, hr, hrun, hended, hW, hsame⟩ := X0.leave (v := some (.int (1 : Int32))) (fun h => by rw [Bd.returns] at h; cases h)
        refine ⟨_, _, retN X0 hx (t := .boolean) Bd.returns (by simp) (hb hby d3_29) hr, hrun, hended, _, _, rfl, ?_, ⟨_, rfl⟩, hW, hsame.mono (by decide) (by decide)⟩
        show Q3 Z oa pi pp pg ni nl pz h0 n0 _ s₁.heap _
        rw [e0]
        exact ⟨(by rw [fn3, if_pos hc1, if_neg hc2, if_pos hc3]), N0, rfl⟩
      · refine Goes.by (fun _ k => XS.ifYes X0.here hx rfl (pc0 := 21) (pc' := 28) rfl (hb hby d3_21) rfl (je_f hc3).2 (by decide) (by decide) k) ?_
        show Goes p.tables e below (s₁.setTop (mkF m 28 #[.val (.ref oa), .val (.int pi), .val (.long pp), .second] [])) _
        refine Goes.by (fun _ k => XS.iconst X0.here hx rfl (hb hby d3_28) k) ?_
        show Goes p.tables e below (s₁.setTop (mkF m 29 #[.val (.ref oa), .val (.int pi), .val (.long pp), .second] [(.int (0 : Int32))])) _
        obtain ⟨fs, hr, hrun, hended, hW, hsame⟩ := X0.leave (v := some (.int (0 : Int32))) (fun h => by rw [Bd.returns] at h; cases h)
        refine ⟨_, _, retN X0 hx (t := .boolean) Bd.returns (by simp) (hb hby d3_29) hr, hrun, hended, _, _, rfl, ?_, ⟨_, rfl⟩, hW, hsame.mono (by decide) (by decide)⟩
        show Q3 Z oa pi pp pg ni nl pz h0 n0 _ s₁.heap _
        rw [e0]
        exact ⟨(by rw [fn3, if_pos hc1, if_neg hc2, if_neg hc3]), N0, rfl⟩
  · refine Goes.by (fun _ k => XS.icmpYes X0.here hx rfl (pc0 := 3) (pc' := 28) rfl (hb hby d3_3) rfl (flt hc1).2.1 (by decide) (by decide) k) ?_
    show Goes p.tables e below (s₁.setTop (mkF m 28 #[.val (.ref oa), .val (.int pi), .val (.long pp), .second] [])) _
    refine Goes.by (fun _ k => XS.iconst X0.here hx rfl (hb hby d3_28) k) ?_
    show Goes p.tables e below (s₁.setTop (mkF m 29 #[.val (.ref oa), .val (.int pi), .val (.long pp), .second] [(.int (0 : Int32))])) _
    obtain ⟨fs, hr, hrun, hended, hW, hsame⟩ := X0.leave (v := some (.int (0 : Int32))) (fun h => by rw [Bd.returns] at h; cases h)
    refine ⟨_, _, retN X0 hx (t := .boolean) Bd.returns (by simp) (hb hby d3_29) hr, hrun, hended, _, _, rfl, ?_, ⟨_, rfl⟩, hW, hsame.mono (by decide) (by decide)⟩
    show Q3 Z oa pi pp pg ni nl pz h0 n0 _ s₁.heap _
    rw [e0]
    exact ⟨(by rw [fn3, if_neg hc1]), N0, rfl⟩
def own_stop (g : Nat → Int64) (p : Int64) (i : Nat) : Prop := g i = (-1 : Int64) ∨ g i = p
def own_home (p : Int64) (mk : Int32) : Int32 := ((((p * (-7046029254386353131 : Int64)).toUInt64 >>> ((34 : Int32) &&& 0x3f).toInt64.toUInt64).toInt64).toInt32) &&& mk
theorem own_msk (x mk : Int32) (nl : Nat) (hm : mk.toInt = (nl : Int) - 1) (hs : nl = 1 ∨ nl = 2 ∨ nl = 4 ∨ nl = 8) : (x &&& mk).toInt = x.toInt % (nl : Int) := by
  have e : ∀ k : Int32, mk.toInt = k.toInt → mk = k := fun k q => Int32.toInt_inj.mp q
  rcases hs with rfl | rfl | rfl | rfl
  · rw [e 0 (by rw [hm]; rfl)]; have a := c_mask x 0 0 (by decide) (by decide); omega
  · rw [e 1 (by rw [hm]; rfl)]; have a := c_mask x 1 1 (by decide) (by decide); omega
  · rw [e 3 (by rw [hm]; rfl)]; have a := c_mask x 3 2 (by decide) (by decide); omega
  · rw [e 7 (by rw [hm]; rfl)]; have a := c_mask x 7 3 (by decide) (by decide); omega
theorem own_next (q mk : Int32) (nl hm d : Nat) (hm1 : mk.toInt = (nl : Int) - 1) (hs : nl = 1 ∨ nl = 2 ∨ nl = 4 ∨ nl = 8) (ha : q.toInt = ((hm + d) % nl : Nat)) : ((q + (1 : Int32)) &&& mk).toInt = ((hm + (d + 1)) % nl : Nat) := by
  rw [own_msk _ mk nl hm1 hs]
  have a := c_iadd q 1
  have e1 : (1 : Int32).toInt = 1 := rfl
  have r := rng32 (q + 1)
  rw [e1] at a
  rcases hs with rfl | rfl | rfl | rfl <;> omega
theorem own_hm (p : Int64) (mk : Int32) (nl : Nat) (hm1 : mk.toInt = (nl : Int) - 1) (hs : nl = 1 ∨ nl = 2 ∨ nl = 4 ∨ nl = 8) : (own_home p mk).toInt = (((own_home p mk).toInt.toNat) : Int) ∧ (own_home p mk).toInt.toNat < nl := by
  have a := own_msk (((p * (-7046029254386353131 : Int64)).toUInt64 >>> ((34 : Int32) &&& 0x3f).toInt64.toUInt64).toInt64).toInt32 mk nl hm1 hs
  have e : own_home p mk = (((p * (-7046029254386353131 : Int64)).toUInt64 >>> ((34 : Int32) &&& 0x3f).toInt64.toUInt64).toInt64).toInt32 &&& mk := rfl
  rw [← e] at a
  rcases hs with rfl | rfl | rfl | rfl <;> omega
theorem own_ks (nl hm i : Nat) (hs : nl = 1 ∨ nl = 2 ∨ nl = 4 ∨ nl = 8) (hh : hm < nl) (hi : i < nl) : (i + nl - hm) % nl < nl ∧ (hm + (i + nl - hm) % nl) % nl = i := by
  rcases hs with rfl | rfl | rfl | rfl <;> omega
theorem d4_0 : decode prog_61_method_3_code 0 = .ok (.aload_n 0, 1) := by decide +kernel
theorem d4_1 : decode prog_61_method_3_code 1 = .ok (.arraylength, 1) := by decide +kernel
theorem d4_2 : decode prog_61_method_3_code 2 = .ok (.iconst 1, 1) := by decide +kernel
theorem d4_3 : decode prog_61_method_3_code 3 = .ok (.isub, 1) := by decide +kernel
theorem d4_4 : decode prog_61_method_3_code 4 = .ok (.istore_n 3, 1) := by decide +kernel
theorem d4_5 : decode prog_61_method_3_code 5 = .ok (.lload_n 1, 1) := by decide +kernel
theorem d4_6 : decode prog_61_method_3_code 6 = .ok (.ldc2_w 17, 3) := by decide +kernel
theorem d4_9 : decode prog_61_method_3_code 9 = .ok (.lmul, 1) := by decide +kernel
theorem d4_10 : decode prog_61_method_3_code 10 = .ok (.bipush 34, 2) := by decide +kernel
theorem d4_12 : decode prog_61_method_3_code 12 = .ok (.lushr, 1) := by decide +kernel
theorem d4_13 : decode prog_61_method_3_code 13 = .ok (.l2i, 1) := by decide +kernel
theorem d4_14 : decode prog_61_method_3_code 14 = .ok (.iload_n 3, 1) := by decide +kernel
theorem d4_15 : decode prog_61_method_3_code 15 = .ok (.iand, 1) := by decide +kernel
theorem d4_16 : decode prog_61_method_3_code 16 = .ok (.istore 4, 2) := by decide +kernel
theorem d4_18 : decode prog_61_method_3_code 18 = .ok (.aload_n 0, 1) := by decide +kernel
theorem d4_19 : decode prog_61_method_3_code 19 = .ok (.iload 4, 2) := by decide +kernel
theorem d4_21 : decode prog_61_method_3_code 21 = .ok (.laload, 1) := by decide +kernel
theorem d4_22 : decode prog_61_method_3_code 22 = .ok (.ldc2_w 9, 3) := by decide +kernel
theorem d4_25 : decode prog_61_method_3_code 25 = .ok (.lcmp, 1) := by decide +kernel
theorem d4_26 : decode prog_61_method_3_code 26 = .ok (.ifCond .eq 23, 3) := by decide +kernel
theorem d4_49 : decode prog_61_method_3_code 49 = .ok (.iload 4, 2) := by decide +kernel
theorem d4_51 : decode prog_61_method_3_code 51 = .ok (.ireturn, 1) := by decide +kernel
theorem d4_29 : decode prog_61_method_3_code 29 = .ok (.aload_n 0, 1) := by decide +kernel
theorem d4_30 : decode prog_61_method_3_code 30 = .ok (.iload 4, 2) := by decide +kernel
theorem d4_32 : decode prog_61_method_3_code 32 = .ok (.laload, 1) := by decide +kernel
theorem d4_33 : decode prog_61_method_3_code 33 = .ok (.lload_n 1, 1) := by decide +kernel
theorem d4_34 : decode prog_61_method_3_code 34 = .ok (.lcmp, 1) := by decide +kernel
theorem d4_35 : decode prog_61_method_3_code 35 = .ok (.ifCond .eq 14, 3) := by decide +kernel
theorem d4_38 : decode prog_61_method_3_code 38 = .ok (.iload 4, 2) := by decide +kernel
theorem d4_40 : decode prog_61_method_3_code 40 = .ok (.iconst 1, 1) := by decide +kernel
theorem d4_41 : decode prog_61_method_3_code 41 = .ok (.iadd, 1) := by decide +kernel
theorem d4_42 : decode prog_61_method_3_code 42 = .ok (.iload_n 3, 1) := by decide +kernel
theorem d4_43 : decode prog_61_method_3_code 43 = .ok (.iand, 1) := by decide +kernel
theorem d4_44 : decode prog_61_method_3_code 44 = .ok (.istore 4, 2) := by decide +kernel
theorem d4_46 : decode prog_61_method_3_code 46 = .ok (.goto (-28), 3) := by decide +kernel
theorem pn_1 : plainName "com/example/xml_graph_join/xmlgraphjoin/labels/PackedSlots" = true := by first | (simp [plainName, overriddenIn]; done) | decide +kernel
theorem ef4 (m : MethodId) (oa : Addr) (pp : Int64) : entryFrame m #[(.ref oa), (.long pp)] 5 = mkF m 0 #[.val (.ref oa), .val (.long pp), .second, .unset, .unset] [] := by first | (simp [entryFrame, mkF, argsToLocals, Value.category]; done) | rfl
def Q4 (Z : State) (oa : Addr) (pp : Int64) (pg : Nat → Int64) (nl : Nat) (pz : Int32) (pm : Int32) (h0 : Heap) (n0 : Nat) (v : Option Value) (h : Heap) (L : List Loc) : Prop := ∃ zr : Int32, ∃ zd : Nat, v = some (.int zr) ∧ Fr n0 L ∧ h = h0 ∧ (zr.toInt = ((((own_home pp pm).toInt.toNat) + zd) % nl : Nat)) ∧ (own_stop pg pp ((((own_home pp pm).toInt.toNat) + zd) % nl)) ∧ (zd < nl) ∧ (∀ k, k < zd → ¬ own_stop pg pp ((((own_home pp pm).toInt.toNat) + k) % nl))
set_option maxRecDepth 65536 in
set_option maxHeartbeats 40000000 in
theorem rm4 (l : Launch) (Z : State) (a0 : Array Value) (hw : ∀ d ∈ tables_1, d.before a0 Z = true) (ws : List Jvm.Cond) (oa : Addr) (pp : Int64) (pg : Nat → Int64) (nl : Nat) (pz : Int32) (pm : Int32) (h0 : Heap) (n0 : Nat) (Z0 : n0 ≤ h0.size) (A_oa : AJ Z h0 oa nl pg) (hz : pz.toInt = (nl : Int)) (hmz : pm = pz - (1 : Int32)) (hpm : pm.toInt = (nl : Int) - 1) (hs : nl = 1 ∨ nl = 2 ∨ nl = 4 ∨ nl = 8) (hex : ∃ i, i < nl ∧ own_stop pg pp i) :
    MetFree l (⟨"com/example/xml_graph_join/xmlgraphjoin/labels/PackedSlots", "find", "([JJ)I"⟩ : MethodName) (head1 (Jvm.Cond.code (⟨"com/example/xml_graph_join/xmlgraphjoin/labels/PackedSlots", "find", "([JJ)I"⟩ : MethodName) prog_61_method_3_code 5 (some .int) :: ws) ({ frames := 0, cells := 0, slots := 0, locals := 0 } : Room)) (fun a U => a = #[(.ref oa), (.long pp)] ∧ Z.Warmed39 U.vm ∧ U.heap = h0) (fun _ _ _ _ _ => True) (fun _ U o U' => ∃ v L, o = .returned v ∧ Q4 Z oa pp pg nl pz pm h0 n0 v U'.heap L ∧ FrameEnd U o U' L ({ frames := 0, cells := 0, slots := 0, locals := 0 } : Room).cells ({ frames := 0, cells := 0, slots := 0, locals := 0 } : Room).slots) := by
  refine MetFree.of_bodySF (plainFor_of_name pn_1) hisR ?_
  intro p e s m args below meth c s₁ Bd hml0 hP hK
  obtain ⟨rfl, hZ, hh⟩ := hP
  have hx := Bd.exec
  have hby := Bd.bytes
  have hml : c.maxLocals = 5 := hml0
  have hown : s.vm.findClass "com/example/xml_graph_join/xmlgraphjoin/labels/PackedSlots" = some m.cls := findClass_of_methodNamed Bd.named
  have hnm := (name_of_methodNamed Bd.named Bd.method).1
  have X0 : Stand p l e ({ frames := 0, cells := 0, slots := 0, locals := 0 } : Room) s m #[(.ref oa), (.long pp)] below meth c s₁ [] 0 0 := Stand.of_body Bd
  have e0 : s₁.heap = h0 := by rw [← hh, Bd.state]; rfl
  have N0 := Fr.nil n0
  refine Goes.by (fun _ k => castTop (ef4 m oa pp) k) ?_
  show Goes p.tables e below (s₁.setTop (mkF m 0 #[.val (.ref oa), .val (.long pp), .second, .unset, .unset] [])) _
  refine Goes.by (fun _ k => XS.aloadN X0.here hx rfl (hb hby d4_0) rfl rfl k) ?_
  show Goes p.tables e below (s₁.setTop (mkF m 1 #[.val (.ref oa), .val (.long pp), .second, .unset, .unset] [(.ref oa)])) _
  refine Goes.by (fun _ k => alen (z := pz) (fr := (mkF m 1 #[.val (.ref oa), .val (.long pp), .second, .unset, .unset] [(.ref oa)])) X0 hx hZ e0 A_oa hz rfl rfl (hb hby d4_1) k) ?_
  show Goes p.tables e below (s₁.setTop (mkF m 2 #[.val (.ref oa), .val (.long pp), .second, .unset, .unset] [(.int pz)])) _
  refine Goes.by (fun _ k => XS.iconst X0.here hx rfl (hb hby d4_2) k) ?_
  show Goes p.tables e below (s₁.setTop (mkF m 3 #[.val (.ref oa), .val (.long pp), .second, .unset, .unset] [(.int (1 : Int32)), (.int pz)])) _
  refine Goes.by (fun _ k => XS.isub X0.here hx rfl (hb hby d4_3) rfl k) ?_
  show Goes p.tables e below (s₁.setTop (mkF m 4 #[.val (.ref oa), .val (.long pp), .second, .unset, .unset] [(.int (pz - (1 : Int32)))])) _
  refine Goes.by (fun _ k => XS.istoreN X0.here hx rfl (hb hby d4_4) rfl (l' := #[.val (.ref oa), .val (.long pp), .second, .val (.int pm), .unset]) (by rw [hmz]; rfl) k) ?_
  show Goes p.tables e below (s₁.setTop (mkF m 5 #[.val (.ref oa), .val (.long pp), .second, .val (.int pm), .unset] [])) _
  refine Goes.by (fun _ k => XS.lloadN X0.here hx rfl (hb hby d4_5) rfl k) ?_
  show Goes p.tables e below (s₁.setTop (mkF m 6 #[.val (.ref oa), .val (.long pp), .second, .val (.int pm), .unset] [(.long pp)])) _
  refine Goes.by (fun _ k => X0.ldc2J hx hown (mvT hZ (hw _ (List.mem_of_getElem? (i := 17) rfl))) (g := (mkF m 6 #[.val (.ref oa), .val (.long pp), .second, .val (.int pm), .unset] [(.long pp)])) rfl (hb hby d4_6) k) ?_
  show Goes p.tables e below (s₁.setTop (mkF m 9 #[.val (.ref oa), .val (.long pp), .second, .val (.int pm), .unset] [(.long (-7046029254386353131 : Int64)), (.long pp)])) _
  refine Goes.by (fun _ k => XS.lmul X0.here hx rfl (hb hby d4_9) rfl k) ?_
  show Goes p.tables e below (s₁.setTop (mkF m 10 #[.val (.ref oa), .val (.long pp), .second, .val (.int pm), .unset] [(.long (pp * (-7046029254386353131 : Int64)))])) _
  refine Goes.by (fun _ k => XS.bipush X0.here hx rfl (hb hby d4_10) k) ?_
  show Goes p.tables e below (s₁.setTop (mkF m 12 #[.val (.ref oa), .val (.long pp), .second, .val (.int pm), .unset] [(.int (34 : Int32)), (.long (pp * (-7046029254386353131 : Int64)))])) _
  refine Goes.by (fun _ k => XS.lushr X0.here hx rfl (hb hby d4_12) rfl k) ?_
  show Goes p.tables e below (s₁.setTop (mkF m 13 #[.val (.ref oa), .val (.long pp), .second, .val (.int pm), .unset] [(.long (((pp * (-7046029254386353131 : Int64)).toUInt64 >>> ((34 : Int32) &&& 0x3f).toInt64.toUInt64).toInt64))])) _
  refine Goes.by (fun _ k => XS.l2i X0.here hx rfl (hb hby d4_13) rfl k) ?_
  show Goes p.tables e below (s₁.setTop (mkF m 14 #[.val (.ref oa), .val (.long pp), .second, .val (.int pm), .unset] [(.int ((((pp * (-7046029254386353131 : Int64)).toUInt64 >>> ((34 : Int32) &&& 0x3f).toInt64.toUInt64).toInt64).toInt32))])) _
  refine Goes.by (fun _ k => XS.iloadN X0.here hx rfl (hb hby d4_14) rfl k) ?_
  show Goes p.tables e below (s₁.setTop (mkF m 15 #[.val (.ref oa), .val (.long pp), .second, .val (.int pm), .unset] [(.int pm), (.int ((((pp * (-7046029254386353131 : Int64)).toUInt64 >>> ((34 : Int32) &&& 0x3f).toInt64.toUInt64).toInt64).toInt32))])) _
  refine Goes.by (fun _ k => XS.iand X0.here hx rfl (hb hby d4_15) rfl k) ?_
  show Goes p.tables e below (s₁.setTop (mkF m 16 #[.val (.ref oa), .val (.long pp), .second, .val (.int pm), .unset] [(.int (((((pp * (-7046029254386353131 : Int64)).toUInt64 >>> ((34 : Int32) &&& 0x3f).toInt64.toUInt64).toInt64).toInt32) &&& pm))])) _
  obtain ⟨x1, hx1⟩ : ∃ z : Int32, z = (((((pp * (-7046029254386353131 : Int64)).toUInt64 >>> ((34 : Int32) &&& 0x3f).toInt64.toUInt64).toInt64).toInt32) &&& pm) := ⟨_, rfl⟩
  refine Goes.by (fun _ k => XS.istore X0.here hx rfl (hb hby d4_16) rfl (l' := #[.val (.ref oa), .val (.long pp), .second, .val (.int pm), .val (.int x1)]) (by rw [hx1]; rfl) k) ?_
  show Goes p.tables e below (s₁.setTop (mkF m 18 #[.val (.ref oa), .val (.long pp), .second, .val (.int pm), .val (.int x1)] [])) _
  obtain ⟨i0, hi0, hstop⟩ := hex
  obtain ⟨hh1, hh2⟩ := own_hm pp pm nl hpm hs
  obtain ⟨ks, hks⟩ : ∃ z, z = (i0 + nl - ((own_home pp pm).toInt.toNat)) % nl := ⟨_, rfl⟩
  obtain ⟨hks1, hks2⟩ := own_ks nl ((own_home pp pm).toInt.toNat) i0 hs hh2 hi0
  rw [← hks] at hks1 hks2
  refine Goes.loop (α := Int32 × Nat) (fun x => ks - x.2) (K := fun x => s₁.setTop (mkF m 18 #[.val (.ref oa), .val (.long pp), .second, .val (.int pm), .val (.int x.1)] [])) (C := fun x => x.2 ≤ ks ∧ x.1.toInt = ((((own_home pp pm).toInt.toNat) + x.2) % nl : Nat) ∧ ∀ k, k < x.2 → ¬ own_stop pg pp ((((own_home pp pm).toInt.toNat) + k) % nl)) (fun x hC IH => ?_) (x1, 0) ⟨Nat.zero_le _, by show x1.toInt = (((((own_home pp pm).toInt.toNat) + 0) % nl : Nat) : Int); rw [hx1, Nat.add_zero, Nat.mod_eq_of_lt hh2]; exact hh1, fun k hk => absurd hk (Nat.not_lt_zero k)⟩
  obtain ⟨q2, d2⟩ := x
  obtain ⟨hdd2, had2, hbed2⟩ := hC
  dsimp only at hdd2 had2 hbed2 IH
  show Goes p.tables e below (s₁.setTop (mkF m 18 #[.val (.ref oa), .val (.long pp), .second, .val (.int pm), .val (.int q2)] [])) _
  refine Goes.by (fun _ k => XS.aloadN X0.here hx rfl (hb hby d4_18) rfl rfl k) ?_
  show Goes p.tables e below (s₁.setTop (mkF m 19 #[.val (.ref oa), .val (.long pp), .second, .val (.int pm), .val (.int q2)] [(.ref oa)])) _
  refine Goes.by (fun _ k => XS.iload X0.here hx rfl (hb hby d4_19) rfl k) ?_
  show Goes p.tables e below (s₁.setTop (mkF m 21 #[.val (.ref oa), .val (.long pp), .second, .val (.int pm), .val (.int q2)] [(.int q2), (.ref oa)])) _
  obtain ⟨x3, hx3⟩ : ∃ z : Int64, z = (pg ((((own_home pp pm).toInt.toNat) + d2) % nl)) := ⟨_, rfl⟩
  refine Goes.by (fun _ k => ldJ (v := x3) (fr := (mkF m 21 #[.val (.ref oa), .val (.long pp), .second, .val (.int pm), .val (.int q2)] [(.int q2), (.ref oa)])) X0 hx hZ e0 A_oa (i := ((((own_home pp pm).toInt.toNat) + d2) % nl)) had2 (Nat.mod_lt _ (by omega)) hx3 rfl rfl (hb hby d4_21) k) ?_
  show Goes p.tables e below (s₁.setTop (mkF m 22 #[.val (.ref oa), .val (.long pp), .second, .val (.int pm), .val (.int q2)] [(.long x3)])) _
  refine Goes.by (fun _ k => X0.ldc2J hx hown (mvT hZ (hw _ (List.mem_of_getElem? (i := 18) rfl))) (g := (mkF m 22 #[.val (.ref oa), .val (.long pp), .second, .val (.int pm), .val (.int q2)] [(.long x3)])) rfl (hb hby d4_22) k) ?_
  show Goes p.tables e below (s₁.setTop (mkF m 25 #[.val (.ref oa), .val (.long pp), .second, .val (.int pm), .val (.int q2)] [(.long (-1 : Int64)), (.long x3)])) _
  refine Goes.by (fun _ k => XS.lcmp X0.here hx rfl (hb hby d4_25) rfl k) ?_
  show Goes p.tables e below (s₁.setTop (mkF m 26 #[.val (.ref oa), .val (.long pp), .second, .val (.int pm), .val (.int q2)] [(.int (lcmpW x3 (-1 : Int64)))])) _
  by_cases hc4 : x3 = (-1 : Int64)
  · refine Goes.by (fun _ k => XS.ifYes X0.here hx rfl (pc0 := 26) (pc' := 49) rfl (hb hby d4_26) rfl (je_t hc4).1 (by decide) (by decide) k) ?_
    show Goes p.tables e below (s₁.setTop (mkF m 49 #[.val (.ref oa), .val (.long pp), .second, .val (.int pm), .val (.int q2)] [])) _
    refine Goes.by (fun _ k => XS.iload X0.here hx rfl (hb hby d4_49) rfl k) ?_
    show Goes p.tables e below (s₁.setTop (mkF m 51 #[.val (.ref oa), .val (.long pp), .second, .val (.int pm), .val (.int q2)] [(.int q2)])) _
    obtain ⟨fs, hr, hrun, hended, hW, hsame⟩ := X0.leave (v := some (.int q2)) (fun h => by rw [Bd.returns] at h; cases h)
    refine ⟨_, _, retI X0 hx Bd.returns (hb hby d4_51) hr, hrun, hended, _, _, rfl, ?_, ⟨_, rfl⟩, hW, hsame.mono (by decide) (by decide)⟩
    show Q4 Z oa pp pg nl pz pm h0 n0 _ s₁.heap _
    rw [e0]
    exact ⟨q2, d2, rfl, N0, rfl, had2, (Or.inl (hx3.symm.trans hc4)), (by omega), hbed2⟩
  · refine Goes.by (fun _ k => XS.ifNo X0.here hx rfl (hb hby d4_26) rfl (je_f hc4).1 k) ?_
    show Goes p.tables e below (s₁.setTop (mkF m 29 #[.val (.ref oa), .val (.long pp), .second, .val (.int pm), .val (.int q2)] [])) _
    refine Goes.by (fun _ k => XS.aloadN X0.here hx rfl (hb hby d4_29) rfl rfl k) ?_
    show Goes p.tables e below (s₁.setTop (mkF m 30 #[.val (.ref oa), .val (.long pp), .second, .val (.int pm), .val (.int q2)] [(.ref oa)])) _
    refine Goes.by (fun _ k => XS.iload X0.here hx rfl (hb hby d4_30) rfl k) ?_
    show Goes p.tables e below (s₁.setTop (mkF m 32 #[.val (.ref oa), .val (.long pp), .second, .val (.int pm), .val (.int q2)] [(.int q2), (.ref oa)])) _
    obtain ⟨x5, hx5⟩ : ∃ z : Int64, z = (pg ((((own_home pp pm).toInt.toNat) + d2) % nl)) := ⟨_, rfl⟩
    refine Goes.by (fun _ k => ldJ (v := x5) (fr := (mkF m 32 #[.val (.ref oa), .val (.long pp), .second, .val (.int pm), .val (.int q2)] [(.int q2), (.ref oa)])) X0 hx hZ e0 A_oa (i := ((((own_home pp pm).toInt.toNat) + d2) % nl)) had2 (Nat.mod_lt _ (by omega)) hx5 rfl rfl (hb hby d4_32) k) ?_
    show Goes p.tables e below (s₁.setTop (mkF m 33 #[.val (.ref oa), .val (.long pp), .second, .val (.int pm), .val (.int q2)] [(.long x5)])) _
    refine Goes.by (fun _ k => XS.lloadN X0.here hx rfl (hb hby d4_33) rfl k) ?_
    show Goes p.tables e below (s₁.setTop (mkF m 34 #[.val (.ref oa), .val (.long pp), .second, .val (.int pm), .val (.int q2)] [(.long pp), (.long x5)])) _
    refine Goes.by (fun _ k => XS.lcmp X0.here hx rfl (hb hby d4_34) rfl k) ?_
    show Goes p.tables e below (s₁.setTop (mkF m 35 #[.val (.ref oa), .val (.long pp), .second, .val (.int pm), .val (.int q2)] [(.int (lcmpW x5 pp))])) _
    by_cases hc6 : x5 = pp
    · refine Goes.by (fun _ k => XS.ifYes X0.here hx rfl (pc0 := 35) (pc' := 49) rfl (hb hby d4_35) rfl (je_t hc6).1 (by decide) (by decide) k) ?_
      show Goes p.tables e below (s₁.setTop (mkF m 49 #[.val (.ref oa), .val (.long pp), .second, .val (.int pm), .val (.int q2)] [])) _
      refine Goes.by (fun _ k => XS.iload X0.here hx rfl (hb hby d4_49) rfl k) ?_
      show Goes p.tables e below (s₁.setTop (mkF m 51 #[.val (.ref oa), .val (.long pp), .second, .val (.int pm), .val (.int q2)] [(.int q2)])) _
      obtain ⟨fs, hr, hrun, hended, hW, hsame⟩ := X0.leave (v := some (.int q2)) (fun h => by rw [Bd.returns] at h; cases h)
      refine ⟨_, _, retI X0 hx Bd.returns (hb hby d4_51) hr, hrun, hended, _, _, rfl, ?_, ⟨_, rfl⟩, hW, hsame.mono (by decide) (by decide)⟩
      show Q4 Z oa pp pg nl pz pm h0 n0 _ s₁.heap _
      rw [e0]
      exact ⟨q2, d2, rfl, N0, rfl, had2, (Or.inr (hx5.symm.trans hc6)), (by omega), hbed2⟩
    · refine Goes.by (fun _ k => XS.ifNo X0.here hx rfl (hb hby d4_35) rfl (je_f hc6).1 k) ?_
      show Goes p.tables e below (s₁.setTop (mkF m 38 #[.val (.ref oa), .val (.long pp), .second, .val (.int pm), .val (.int q2)] [])) _
      refine Goes.by (fun _ k => XS.iload X0.here hx rfl (hb hby d4_38) rfl k) ?_
      show Goes p.tables e below (s₁.setTop (mkF m 40 #[.val (.ref oa), .val (.long pp), .second, .val (.int pm), .val (.int q2)] [(.int q2)])) _
      refine Goes.by (fun _ k => XS.iconst X0.here hx rfl (hb hby d4_40) k) ?_
      show Goes p.tables e below (s₁.setTop (mkF m 41 #[.val (.ref oa), .val (.long pp), .second, .val (.int pm), .val (.int q2)] [(.int (1 : Int32)), (.int q2)])) _
      refine Goes.by (fun _ k => XS.iadd X0.here hx rfl (hb hby d4_41) rfl k) ?_
      show Goes p.tables e below (s₁.setTop (mkF m 42 #[.val (.ref oa), .val (.long pp), .second, .val (.int pm), .val (.int q2)] [(.int (q2 + (1 : Int32)))])) _
      refine Goes.by (fun _ k => XS.iloadN X0.here hx rfl (hb hby d4_42) rfl k) ?_
      show Goes p.tables e below (s₁.setTop (mkF m 43 #[.val (.ref oa), .val (.long pp), .second, .val (.int pm), .val (.int q2)] [(.int pm), (.int (q2 + (1 : Int32)))])) _
      refine Goes.by (fun _ k => XS.iand X0.here hx rfl (hb hby d4_43) rfl k) ?_
      show Goes p.tables e below (s₁.setTop (mkF m 44 #[.val (.ref oa), .val (.long pp), .second, .val (.int pm), .val (.int q2)] [(.int ((q2 + (1 : Int32)) &&& pm))])) _
      obtain ⟨x7, hx7⟩ : ∃ z : Int32, z = ((q2 + (1 : Int32)) &&& pm) := ⟨_, rfl⟩
      refine Goes.by (fun _ k => XS.istore X0.here hx rfl (hb hby d4_44) rfl (l' := #[.val (.ref oa), .val (.long pp), .second, .val (.int pm), .val (.int x7)]) (by rw [hx7]; rfl) k) ?_
      show Goes p.tables e below (s₁.setTop (mkF m 46 #[.val (.ref oa), .val (.long pp), .second, .val (.int pm), .val (.int x7)] [])) _
      refine Goes.by (fun _ k => XS.goto X0.here hx rfl (pc0 := 46) (pc' := 18) rfl (hb hby d4_46) (by decide) (by decide) k) ?_
      show Goes p.tables e below (s₁.setTop (mkF m 18 #[.val (.ref oa), .val (.long pp), .second, .val (.int pm), .val (.int x7)] [])) _
      have hns : ¬ own_stop pg pp ((((own_home pp pm).toInt.toNat) + d2) % nl) := fun z => z.elim (fun u => hc4 (hx3.trans u)) (fun u => hc6 (hx5.trans u))
      have hlt : d2 < ks := Nat.lt_of_le_of_ne hdd2 (fun z => hns (by rw [z, hks2]; exact hstop))
      exact IH (x7, d2 + 1) (by show ks - (d2 + 1) < ks - d2; omega) ⟨hlt, (by show x7.toInt = _; rw [hx7]; exact own_next _ _ nl _ _ hpm hs had2), fun k hk => by rcases Nat.lt_succ_iff_lt_or_eq.mp hk with h | h; exact hbed2 k h; rw [h]; exact hns⟩
theorem d5_0 : decode method_6_code 0 = .ok (.iload 4, 2) := by decide +kernel
theorem d5_2 : decode method_6_code 2 = .ok (.iload_n 3, 1) := by decide +kernel
theorem d5_3 : decode method_6_code 3 = .ok (.if_icmp .lt 5, 3) := by decide +kernel
theorem d5_8 : decode method_6_code 8 = .ok (.aload_n 0, 1) := by decide +kernel
theorem d5_9 : decode method_6_code 9 = .ok (.iload_n 1, 1) := by decide +kernel
theorem d5_10 : decode method_6_code 10 = .ok (.iload 4, 2) := by decide +kernel
theorem d5_12 : decode method_6_code 12 = .ok (.iadd, 1) := by decide +kernel
theorem d5_13 : decode method_6_code 13 = .ok (.iload_n 2, 1) := by decide +kernel
theorem d5_14 : decode method_6_code 14 = .ok (.iand, 1) := by decide +kernel
theorem d5_15 : decode method_6_code 15 = .ok (.laload, 1) := by decide +kernel
theorem d5_16 : decode method_6_code 16 = .ok (.lstore 7, 2) := by decide +kernel
theorem d5_18 : decode method_6_code 18 = .ok (.lload 7, 2) := by decide +kernel
theorem d5_20 : decode method_6_code 20 = .ok (.ldc2_w 25, 3) := by decide +kernel
theorem d5_23 : decode method_6_code 23 = .ok (.lcmp, 1) := by decide +kernel
theorem d5_24 : decode method_6_code 24 = .ok (.ifCond .eq 15, 3) := by decide +kernel
theorem d5_39 : decode method_6_code 39 = .ok (.iconst 0, 1) := by decide +kernel
theorem d5_40 : decode method_6_code 40 = .ok (.ireturn, 1) := by decide +kernel
theorem d5_27 : decode method_6_code 27 = .ok (.lload 7, 2) := by decide +kernel
theorem d5_29 : decode method_6_code 29 = .ok (.lload 5, 2) := by decide +kernel
theorem d5_31 : decode method_6_code 31 = .ok (.lcmp, 1) := by decide +kernel
theorem d5_32 : decode method_6_code 32 = .ok (.ifCond .eq 7, 3) := by decide +kernel
theorem d5_35 : decode method_6_code 35 = .ok (.iconst 1, 1) := by decide +kernel
theorem d5_36 : decode method_6_code 36 = .ok (.goto 4, 3) := by decide +kernel
theorem d5_6 : decode method_6_code 6 = .ok (.iconst 1, 1) := by decide +kernel
theorem d5_7 : decode method_6_code 7 = .ok (.ireturn, 1) := by decide +kernel
def fn5 (ph : Int32) (pm : Int32) (pd : Int32) (pk : Int32) (pp : Int64) (pg : Nat → Int64) (nq : Nat) (nl : Nat) : Int32 := (if pk < pd then (if (pg nq) = (-1 : Int64) then (0 : Int32) else (if (pg nq) = pp then (0 : Int32) else (1 : Int32))) else (1 : Int32))
theorem ef5 (m : MethodId) (oa : Addr) (ph : Int32) (pm : Int32) (pd : Int32) (pk : Int32) (pp : Int64) : entryFrame m #[(.ref oa), (.int ph), (.int pm), (.int pd), (.int pk), (.long pp)] 9 = mkF m 0 #[.val (.ref oa), .val (.int ph), .val (.int pm), .val (.int pd), .val (.int pk), .val (.long pp), .second, .unset, .unset] [] := by first | (simp [entryFrame, mkF, argsToLocals, Value.category]; done) | rfl
def Q5 (Z : State) (oa : Addr) (ph : Int32) (pm : Int32) (pd : Int32) (pk : Int32) (pp : Int64) (pg : Nat → Int64) (nq : Nat) (nl : Nat) (h0 : Heap) (n0 : Nat) (v : Option Value) (h : Heap) (L : List Loc) : Prop := v = some (.int (fn5 ph pm pd pk pp pg nq nl)) ∧ Fr n0 L ∧ h = h0
set_option maxRecDepth 65536 in
set_option maxHeartbeats 40000000 in
theorem rm5 (l : Launch) (Z : State) (a0 : Array Value) (hw : ∀ d ∈ tables_1, d.before a0 Z = true) (ws : List Jvm.Cond) (oa : Addr) (ph : Int32) (pm : Int32) (pd : Int32) (pk : Int32) (pp : Int64) (pg : Nat → Int64) (nq : Nat) (nl : Nat) (h0 : Heap) (n0 : Nat) (Z0 : n0 ≤ h0.size) (A_oa : AJ Z h0 oa nl pg) (hj : ((ph + pk) &&& pm).toInt = (nq : Int)) (hi : nq < nl) :
    MetFree l (⟨"com/example/xml_graph_join/xmlgraphjoin/labels/PackedSlotsFindPinLaw", "clear", "([JIIIIJ)Z"⟩ : MethodName) (head1 (Jvm.Cond.code (⟨"com/example/xml_graph_join/xmlgraphjoin/labels/PackedSlotsFindPinLaw", "clear", "([JIIIIJ)Z"⟩ : MethodName) method_6_code 9 (some .boolean) :: ws) ({ frames := 0, cells := 0, slots := 0, locals := 0 } : Room)) (fun a U => a = #[(.ref oa), (.int ph), (.int pm), (.int pd), (.int pk), (.long pp)] ∧ Z.Warmed39 U.vm ∧ U.heap = h0) (fun _ _ _ _ _ => True) (fun _ U o U' => ∃ v L, o = .returned v ∧ Q5 Z oa ph pm pd pk pp pg nq nl h0 n0 v U'.heap L ∧ FrameEnd U o U' L ({ frames := 0, cells := 0, slots := 0, locals := 0 } : Room).cells ({ frames := 0, cells := 0, slots := 0, locals := 0 } : Room).slots) := by
  refine MetFree.of_bodySF (plainFor_of_name pn_0) hisR ?_
  intro p e s m args below meth c s₁ Bd hml0 hP hK
  obtain ⟨rfl, hZ, hh⟩ := hP
  have hx := Bd.exec
  have hby := Bd.bytes
  have hml : c.maxLocals = 9 := hml0
  have hown : s.vm.findClass "com/example/xml_graph_join/xmlgraphjoin/labels/PackedSlotsFindPinLaw" = some m.cls := findClass_of_methodNamed Bd.named
  have hnm := (name_of_methodNamed Bd.named Bd.method).1
  have X0 : Stand p l e ({ frames := 0, cells := 0, slots := 0, locals := 0 } : Room) s m #[(.ref oa), (.int ph), (.int pm), (.int pd), (.int pk), (.long pp)] below meth c s₁ [] 0 0 := Stand.of_body Bd
  have e0 : s₁.heap = h0 := by rw [← hh, Bd.state]; rfl
  have N0 := Fr.nil n0
  refine Goes.by (fun _ k => castTop (ef5 m oa ph pm pd pk pp) k) ?_
  show Goes p.tables e below (s₁.setTop (mkF m 0 #[.val (.ref oa), .val (.int ph), .val (.int pm), .val (.int pd), .val (.int pk), .val (.long pp), .second, .unset, .unset] [])) _
  refine Goes.by (fun _ k => XS.iload X0.here hx rfl (hb hby d5_0) rfl k) ?_
  show Goes p.tables e below (s₁.setTop (mkF m 2 #[.val (.ref oa), .val (.int ph), .val (.int pm), .val (.int pd), .val (.int pk), .val (.long pp), .second, .unset, .unset] [(.int pk)])) _
  refine Goes.by (fun _ k => XS.iloadN X0.here hx rfl (hb hby d5_2) rfl k) ?_
  show Goes p.tables e below (s₁.setTop (mkF m 3 #[.val (.ref oa), .val (.int ph), .val (.int pm), .val (.int pd), .val (.int pk), .val (.long pp), .second, .unset, .unset] [(.int pd), (.int pk)])) _
  by_cases hc1 : pk < pd
  · refine Goes.by (fun _ k => XS.icmpYes X0.here hx rfl (pc0 := 3) (pc' := 8) rfl (hb hby d5_3) rfl (tlt hc1).1 (by decide) (by decide) k) ?_
    show Goes p.tables e below (s₁.setTop (mkF m 8 #[.val (.ref oa), .val (.int ph), .val (.int pm), .val (.int pd), .val (.int pk), .val (.long pp), .second, .unset, .unset] [])) _
    refine Goes.by (fun _ k => XS.aloadN X0.here hx rfl (hb hby d5_8) rfl rfl k) ?_
    show Goes p.tables e below (s₁.setTop (mkF m 9 #[.val (.ref oa), .val (.int ph), .val (.int pm), .val (.int pd), .val (.int pk), .val (.long pp), .second, .unset, .unset] [(.ref oa)])) _
    refine Goes.by (fun _ k => XS.iloadN X0.here hx rfl (hb hby d5_9) rfl k) ?_
    show Goes p.tables e below (s₁.setTop (mkF m 10 #[.val (.ref oa), .val (.int ph), .val (.int pm), .val (.int pd), .val (.int pk), .val (.long pp), .second, .unset, .unset] [(.int ph), (.ref oa)])) _
    refine Goes.by (fun _ k => XS.iload X0.here hx rfl (hb hby d5_10) rfl k) ?_
    show Goes p.tables e below (s₁.setTop (mkF m 12 #[.val (.ref oa), .val (.int ph), .val (.int pm), .val (.int pd), .val (.int pk), .val (.long pp), .second, .unset, .unset] [(.int pk), (.int ph), (.ref oa)])) _
    refine Goes.by (fun _ k => XS.iadd X0.here hx rfl (hb hby d5_12) rfl k) ?_
    show Goes p.tables e below (s₁.setTop (mkF m 13 #[.val (.ref oa), .val (.int ph), .val (.int pm), .val (.int pd), .val (.int pk), .val (.long pp), .second, .unset, .unset] [(.int (ph + pk)), (.ref oa)])) _
    refine Goes.by (fun _ k => XS.iloadN X0.here hx rfl (hb hby d5_13) rfl k) ?_
    show Goes p.tables e below (s₁.setTop (mkF m 14 #[.val (.ref oa), .val (.int ph), .val (.int pm), .val (.int pd), .val (.int pk), .val (.long pp), .second, .unset, .unset] [(.int pm), (.int (ph + pk)), (.ref oa)])) _
    refine Goes.by (fun _ k => XS.iand X0.here hx rfl (hb hby d5_14) rfl k) ?_
    show Goes p.tables e below (s₁.setTop (mkF m 15 #[.val (.ref oa), .val (.int ph), .val (.int pm), .val (.int pd), .val (.int pk), .val (.long pp), .second, .unset, .unset] [(.int ((ph + pk) &&& pm)), (.ref oa)])) _
    refine Goes.by (fun _ k => ldJ (v := (pg nq)) (fr := (mkF m 15 #[.val (.ref oa), .val (.int ph), .val (.int pm), .val (.int pd), .val (.int pk), .val (.long pp), .second, .unset, .unset] [(.int ((ph + pk) &&& pm)), (.ref oa)])) X0 hx hZ e0 A_oa (i := nq) hj hi rfl rfl rfl (hb hby d5_15) k) ?_
    show Goes p.tables e below (s₁.setTop (mkF m 16 #[.val (.ref oa), .val (.int ph), .val (.int pm), .val (.int pd), .val (.int pk), .val (.long pp), .second, .unset, .unset] [(.long (pg nq))])) _
    refine Goes.by (fun _ k => XS.lstore X0.here hx rfl (hb hby d5_16) rfl (l' := #[.val (.ref oa), .val (.int ph), .val (.int pm), .val (.int pd), .val (.int pk), .val (.long pp), .second, .val (.long (pg nq)), .second]) rfl k) ?_
    show Goes p.tables e below (s₁.setTop (mkF m 18 #[.val (.ref oa), .val (.int ph), .val (.int pm), .val (.int pd), .val (.int pk), .val (.long pp), .second, .val (.long (pg nq)), .second] [])) _
    refine Goes.by (fun _ k => XS.lload X0.here hx rfl (hb hby d5_18) rfl k) ?_
    show Goes p.tables e below (s₁.setTop (mkF m 20 #[.val (.ref oa), .val (.int ph), .val (.int pm), .val (.int pd), .val (.int pk), .val (.long pp), .second, .val (.long (pg nq)), .second] [(.long (pg nq))])) _
    refine Goes.by (fun _ k => X0.ldc2J hx hown (mvT hZ (hw _ (List.mem_of_getElem? (i := 9) rfl))) (g := (mkF m 20 #[.val (.ref oa), .val (.int ph), .val (.int pm), .val (.int pd), .val (.int pk), .val (.long pp), .second, .val (.long (pg nq)), .second] [(.long (pg nq))])) rfl (hb hby d5_20) k) ?_
    show Goes p.tables e below (s₁.setTop (mkF m 23 #[.val (.ref oa), .val (.int ph), .val (.int pm), .val (.int pd), .val (.int pk), .val (.long pp), .second, .val (.long (pg nq)), .second] [(.long (-1 : Int64)), (.long (pg nq))])) _
    refine Goes.by (fun _ k => XS.lcmp X0.here hx rfl (hb hby d5_23) rfl k) ?_
    show Goes p.tables e below (s₁.setTop (mkF m 24 #[.val (.ref oa), .val (.int ph), .val (.int pm), .val (.int pd), .val (.int pk), .val (.long pp), .second, .val (.long (pg nq)), .second] [(.int (lcmpW (pg nq) (-1 : Int64)))])) _
    by_cases hc2 : (pg nq) = (-1 : Int64)
    · refine Goes.by (fun _ k => XS.ifYes X0.here hx rfl (pc0 := 24) (pc' := 39) rfl (hb hby d5_24) rfl (je_t hc2).1 (by decide) (by decide) k) ?_
      show Goes p.tables e below (s₁.setTop (mkF m 39 #[.val (.ref oa), .val (.int ph), .val (.int pm), .val (.int pd), .val (.int pk), .val (.long pp), .second, .val (.long (pg nq)), .second] [])) _
      refine Goes.by (fun _ k => XS.iconst X0.here hx rfl (hb hby d5_39) k) ?_
      show Goes p.tables e below (s₁.setTop (mkF m 40 #[.val (.ref oa), .val (.int ph), .val (.int pm), .val (.int pd), .val (.int pk), .val (.long pp), .second, .val (.long (pg nq)), .second] [(.int (0 : Int32))])) _
      obtain ⟨fs, hr, hrun, hended, hW, hsame⟩ := X0.leave (v := some (.int (0 : Int32))) (fun h => by rw [Bd.returns] at h; cases h)
      refine ⟨_, _, retN X0 hx (t := .boolean) Bd.returns (by simp) (hb hby d5_40) hr, hrun, hended, _, _, rfl, ?_, ⟨_, rfl⟩, hW, hsame.mono (by decide) (by decide)⟩
      show Q5 Z oa ph pm pd pk pp pg nq nl h0 n0 _ s₁.heap _
      rw [e0]
      exact ⟨(by rw [fn5, if_pos hc1, if_pos hc2]), N0, rfl⟩
    · refine Goes.by (fun _ k => XS.ifNo X0.here hx rfl (hb hby d5_24) rfl (je_f hc2).1 k) ?_
      show Goes p.tables e below (s₁.setTop (mkF m 27 #[.val (.ref oa), .val (.int ph), .val (.int pm), .val (.int pd), .val (.int pk), .val (.long pp), .second, .val (.long (pg nq)), .second] [])) _
      refine Goes.by (fun _ k => XS.lload X0.here hx rfl (hb hby d5_27) rfl k) ?_
      show Goes p.tables e below (s₁.setTop (mkF m 29 #[.val (.ref oa), .val (.int ph), .val (.int pm), .val (.int pd), .val (.int pk), .val (.long pp), .second, .val (.long (pg nq)), .second] [(.long (pg nq))])) _
      refine Goes.by (fun _ k => XS.lload X0.here hx rfl (hb hby d5_29) rfl k) ?_
      show Goes p.tables e below (s₁.setTop (mkF m 31 #[.val (.ref oa), .val (.int ph), .val (.int pm), .val (.int pd), .val (.int pk), .val (.long pp), .second, .val (.long (pg nq)), .second] [(.long pp), (.long (pg nq))])) _
      refine Goes.by (fun _ k => XS.lcmp X0.here hx rfl (hb hby d5_31) rfl k) ?_
      show Goes p.tables e below (s₁.setTop (mkF m 32 #[.val (.ref oa), .val (.int ph), .val (.int pm), .val (.int pd), .val (.int pk), .val (.long pp), .second, .val (.long (pg nq)), .second] [(.int (lcmpW (pg nq) pp))])) _
      by_cases hc3 : (pg nq) = pp
      · refine Goes.by (fun _ k => XS.ifYes X0.here hx rfl (pc0 := 32) (pc' := 39) rfl (hb hby d5_32) rfl (je_t hc3).1 (by decide) (by decide) k) ?_
        show Goes p.tables e below (s₁.setTop (mkF m 39 #[.val (.ref oa), .val (.int ph), .val (.int pm), .val (.int pd), .val (.int pk), .val (.long pp), .second, .val (.long (pg nq)), .second] [])) _
        refine Goes.by (fun _ k => XS.iconst X0.here hx rfl (hb hby d5_39) k) ?_
        show Goes p.tables e below (s₁.setTop (mkF m 40 #[.val (.ref oa), .val (.int ph), .val (.int pm), .val (.int pd), .val (.int pk), .val (.long pp), .second, .val (.long (pg nq)), .second] [(.int (0 : Int32))])) _
        obtain ⟨fs, hr, hrun, hended, hW, hsame⟩ := X0.leave (v := some (.int (0 : Int32))) (fun h => by rw [Bd.returns] at h; cases h)
        refine ⟨_, _, retN X0 hx (t := .boolean) Bd.returns (by simp) (hb hby d5_40) hr, hrun, hended, _, _, rfl, ?_, ⟨_, rfl⟩, hW, hsame.mono (by decide) (by decide)⟩
        show Q5 Z oa ph pm pd pk pp pg nq nl h0 n0 _ s₁.heap _
        rw [e0]
        exact ⟨(by rw [fn5, if_pos hc1, if_neg hc2, if_pos hc3]), N0, rfl⟩
      · refine Goes.by (fun _ k => XS.ifNo X0.here hx rfl (hb hby d5_32) rfl (je_f hc3).1 k) ?_
        show Goes p.tables e below (s₁.setTop (mkF m 35 #[.val (.ref oa), .val (.int ph), .val (.int pm), .val (.int pd), .val (.int pk), .val (.long pp), .second, .val (.long (pg nq)), .second] [])) _
        refine Goes.by (fun _ k => XS.iconst X0.here hx rfl (hb hby d5_35) k) ?_
        show Goes p.tables e below (s₁.setTop (mkF m 36 #[.val (.ref oa), .val (.int ph), .val (.int pm), .val (.int pd), .val (.int pk), .val (.long pp), .second, .val (.long (pg nq)), .second] [(.int (1 : Int32))])) _
        refine Goes.by (fun _ k => XS.goto X0.here hx rfl (pc0 := 36) (pc' := 40) rfl (hb hby d5_36) (by decide) (by decide) k) ?_
        show Goes p.tables e below (s₁.setTop (mkF m 40 #[.val (.ref oa), .val (.int ph), .val (.int pm), .val (.int pd), .val (.int pk), .val (.long pp), .second, .val (.long (pg nq)), .second] [(.int (1 : Int32))])) _
        obtain ⟨fs, hr, hrun, hended, hW, hsame⟩ := X0.leave (v := some (.int (1 : Int32))) (fun h => by rw [Bd.returns] at h; cases h)
        refine ⟨_, _, retN X0 hx (t := .boolean) Bd.returns (by simp) (hb hby d5_40) hr, hrun, hended, _, _, rfl, ?_, ⟨_, rfl⟩, hW, hsame.mono (by decide) (by decide)⟩
        show Q5 Z oa ph pm pd pk pp pg nq nl h0 n0 _ s₁.heap _
        rw [e0]
        exact ⟨(by rw [fn5, if_pos hc1, if_neg hc2, if_neg hc3]), N0, rfl⟩
  · refine Goes.by (fun _ k => XS.icmpNo X0.here hx rfl (hb hby d5_3) rfl (flt hc1).1 k) ?_
    show Goes p.tables e below (s₁.setTop (mkF m 6 #[.val (.ref oa), .val (.int ph), .val (.int pm), .val (.int pd), .val (.int pk), .val (.long pp), .second, .unset, .unset] [])) _
    refine Goes.by (fun _ k => XS.iconst X0.here hx rfl (hb hby d5_6) k) ?_
    show Goes p.tables e below (s₁.setTop (mkF m 7 #[.val (.ref oa), .val (.int ph), .val (.int pm), .val (.int pd), .val (.int pk), .val (.long pp), .second, .unset, .unset] [(.int (1 : Int32))])) _
    obtain ⟨fs, hr, hrun, hended, hW, hsame⟩ := X0.leave (v := some (.int (1 : Int32))) (fun h => by rw [Bd.returns] at h; cases h)
    refine ⟨_, _, retN X0 hx (t := .boolean) Bd.returns (by simp) (hb hby d5_7) hr, hrun, hended, _, _, rfl, ?_, ⟨_, rfl⟩, hW, hsame.mono (by decide) (by decide)⟩
    show Q5 Z oa ph pm pd pk pp pg nq nl h0 n0 _ s₁.heap _
    rw [e0]
    exact ⟨(by rw [fn5, if_neg hc1]), N0, rfl⟩
theorem own_size (sel x : Int32) (h : x = ((1 : Int32) <<< ((sel &&& (3 : Int32)) &&& 31))) : ∃ nl : Nat, (nl = 1 ∨ nl = 2 ∨ nl = 4 ∨ nl = 8) ∧ x.toInt = (nl : Int) ∧ (x - (1 : Int32)).toInt = (nl : Int) - 1 ∧ nl ≤ 8 ∧ 0 < nl := by
  have h1 := c_and sel 3 (by decide)
  have e3 : (3 : Int32).toInt = 3 := rfl
  have key : ∀ (k : Int32), (sel &&& 3).toInt = k.toInt → sel &&& 3 = k := fun k q => Int32.toInt_inj.mp q
  by_cases a0 : (sel &&& 3).toInt = 0
  · rw [key 0 a0] at h; subst h; exact ⟨1, by decide, by decide, by decide, by decide, by decide⟩
  by_cases a1 : (sel &&& 3).toInt = 1
  · rw [key 1 a1] at h; subst h; exact ⟨2, by decide, by decide, by decide, by decide, by decide⟩
  by_cases a2 : (sel &&& 3).toInt = 2
  · rw [key 2 a2] at h; subst h; exact ⟨4, by decide, by decide, by decide, by decide, by decide⟩
  · rw [key 3 (by rw [e3]; omega)] at h; subst h; exact ⟨8, by decide, by decide, by decide, by decide, by decide⟩
theorem own_isst (pi : Int32) (pp : Int64) (pg : Nat → Int64) (ni nl : Nat) (pz : Int32) (hj : pi.toInt = (ni : Int)) (hz : pz.toInt = (nl : Int)) (h : ¬ fn3 pi pp pg ni nl pz = (0 : Int32)) : ni < nl ∧ own_stop pg pp ni := by
  rw [fn3] at h
  by_cases c1 : pi < pz
  · refine ⟨own_ltn hj hz c1, ?_⟩
    rw [if_pos c1] at h
    by_cases c2 : pg ni = (-1 : Int64)
    · exact Or.inl c2
    · rw [if_neg c2] at h
      by_cases c3 : pg ni = pp
      · exact Or.inr c3
      · rw [if_neg c3] at h; exact absurd rfl h
  · rw [if_neg c1] at h; exact absurd rfl h
theorem own_wh (x mk : Int32) (nl : Nat) (hm : mk.toInt = (nl : Int) - 1) (hs : nl = 1 ∨ nl = 2 ∨ nl = 4 ∨ nl = 8) : (x &&& mk).toInt = (((x &&& mk).toInt.toNat) : Int) ∧ (x &&& mk).toInt.toNat < nl := by
  have a := own_msk x mk nl hm hs
  rcases hs with rfl | rfl | rfl | rfl <;> omega
theorem own_nn {a : Int32} {i : Nat} (h : a.toInt = (i : Int)) : ¬ a < (0 : Int32) := by
  rw [Int32.lt_iff_toInt_lt]; have e0 : (0 : Int32).toInt = 0 := rfl; omega
theorem own_ltI {a b : Int32} {i n : Nat} (h1 : a.toInt = (i : Int)) (h2 : b.toInt = (n : Int)) (h : i < n) : a < b := by rw [Int32.lt_iff_toInt_lt]; omega
theorem own_atk (h mk k : Int32) (nl hm kk : Nat) (hm1 : mk.toInt = (nl : Int) - 1) (hs : nl = 1 ∨ nl = 2 ∨ nl = 4 ∨ nl = 8) (hh : h.toInt = (hm : Int)) (hk : k.toInt = (kk : Int)) (h8 : hm < nl) (hk8 : kk < 8) : ((h + k) &&& mk).toInt = ((hm + kk) % nl : Nat) := by
  rw [own_msk _ mk nl hm1 hs]
  have a := c_iadd h k
  have r := rng32 (h + k)
  rcases hs with rfl | rfl | rfl | rfl <;> omega
theorem own_dd (r h mk d : Int32) (nl hm zd : Nat) (hm1 : mk.toInt = (nl : Int) - 1) (hs : nl = 1 ∨ nl = 2 ∨ nl = 4 ∨ nl = 8) (hh : h.toInt = (hm : Int)) (hr : r.toInt = ((hm + zd) % nl : Nat)) (h8 : hm < nl) (hz : zd < nl) (hd : d = ((r - h) &&& mk)) : d.toInt = (zd : Int) := by
  rw [hd, own_msk _ mk nl hm1 hs]
  have a := c_isub r h
  have q := rng32 (r - h)
  rcases hs with rfl | rfl | rfl | rfl <;> omega
theorem own_cl (ph pm pd pk : Int32) (pp : Int64) (pg : Nat → Int64) (nq nl kk zd : Nat) (hk : pk.toInt = (kk : Int)) (hd : pd.toInt = (zd : Int)) (h : kk < zd → ¬ own_stop pg pp nq) : ¬ fn5 ph pm pd pk pp pg nq nl = (0 : Int32) := by
  rw [fn5]
  by_cases c1 : pk < pd
  · have q := h (own_ltn hk hd c1)
    rw [if_pos c1, if_neg (fun z => q (Or.inl z)), if_neg (fun z => q (Or.inr z))]; decide
  · rw [if_neg c1]; decide
theorem own_res {g : Nat → Int64} {p x y : Int64} {i : Nat} (h : own_stop g p i) (hx : x = g i) (hy : y = g i) (hn : ¬ x = (-1 : Int64)) : y = p := by
  rcases h with h | h
  · exact absurd (hx.trans h) hn
  · exact hy.trans h
theorem pd_0 : parseMethodDescriptor "(IIJJJ)J" = some ⟨[.int, .int, .long, .long, .long], some .long⟩ := by decide +kernel
theorem pd_1 : parseMethodDescriptor "([JIJ)V" = some ⟨[(.array .long), .int, .long], none⟩ := by decide +kernel
theorem pd_2 : parseMethodDescriptor "([JIJ)Z" = some ⟨[(.array .long), .int, .long], some .boolean⟩ := by decide +kernel
theorem pd_3 : parseMethodDescriptor "([JJ)I" = some ⟨[(.array .long), .long], some .int⟩ := by decide +kernel
theorem pd_4 : parseMethodDescriptor "([JIIIIJ)Z" = some ⟨[(.array .long), .int, .int, .int, .int, .long], some .boolean⟩ := by decide +kernel
theorem ef0 (m : MethodId) (pr : Int64) (pa : Int64) (pb : Int64) (pc0 : Int32) (ps : Int32) (pw : Int32) : entryFrame m #[(.long pr), (.long pa), (.long pb), (.int pc0), (.int ps), (.int pw)] maxLocals = mkF m 0 #[.val (.long pr), .second, .val (.long pa), .second, .val (.long pb), .second, .val (.int pc0), .val (.int ps), .val (.int pw), .unset, .unset, .unset, .unset, .unset, .unset, .unset, .unset, .unset, .unset, .unset, .unset, .unset] [] := by first | (simp [entryFrame, mkF, argsToLocals, Value.category, maxLocals]; done) | rfl
def Q0 (Z : State) (pr : Int64) (pa : Int64) (pb : Int64) (pc0 : Int32) (ps : Int32) (pw : Int32) (h0 : Heap) (n0 : Nat) (v : Option Value) (h : Heap) (L : List Loc) : Prop := v = some (.int (1 : Int32)) ∧ Fr n0 L
set_option maxRecDepth 65536 in
set_option maxHeartbeats 40000000 in
theorem rm0 (l : Launch) (Z : State) (a0 : Array Value) (hw : ∀ d ∈ tables_1, d.before a0 Z = true) (ws : List Jvm.Cond) (pr : Int64) (pa : Int64) (pb : Int64) (pc0 : Int32) (ps : Int32) (pw : Int32) (h0 : Heap) (n0 : Nat) (Z0 : n0 ≤ h0.size) :
    MetFree l x (head1 (Jvm.Cond.code x code maxLocals ret :: ws) room_1) (fun a U => a = #[(.long pr), (.long pa), (.long pb), (.int pc0), (.int ps), (.int pw)] ∧ Z.Warmed39 U.vm ∧ U.heap = h0) (fun _ _ _ _ _ => True) (fun _ U o U' => ∃ v L, o = .returned v ∧ Q0 Z pr pa pb pc0 ps pw h0 n0 v U'.heap L ∧ FrameEnd U o U' L room_1.cells room_1.slots) := by
  refine MetFree.of_bodySF (plainFor_of_name pn_0) hisR ?_
  intro p e s m args below meth c s₁ Bd hml0 hP hK
  obtain ⟨rfl, hZ, hh⟩ := hP
  have hx := Bd.exec
  have hby := Bd.bytes
  have hml : c.maxLocals = 22 := hml0
  have hown : s.vm.findClass "com/example/xml_graph_join/xmlgraphjoin/labels/PackedSlotsFindPinLaw" = some m.cls := findClass_of_methodNamed Bd.named
  have hnm := (name_of_methodNamed Bd.named Bd.method).1
  have X0 : Stand p l e room_1 s m #[(.long pr), (.long pa), (.long pb), (.int pc0), (.int ps), (.int pw)] below meth c s₁ [] 0 0 := Stand.of_body Bd
  have e0 : s₁.heap = h0 := by rw [← hh, Bd.state]; rfl
  have N0 := Fr.nil n0
  refine Goes.by (fun _ k => castTop (ef0 m pr pa pb pc0 ps pw) k) ?_
  show Goes p.tables e below (s₁.setTop (mkF m 0 #[.val (.long pr), .second, .val (.long pa), .second, .val (.long pb), .second, .val (.int pc0), .val (.int ps), .val (.int pw), .unset, .unset, .unset, .unset, .unset, .unset, .unset, .unset, .unset, .unset, .unset, .unset, .unset] [])) _
  refine Goes.by (fun _ k => XS.lloadN X0.here hx rfl (hb hby at_0) rfl k) ?_
  show Goes p.tables e below (s₁.setTop (mkF m 1 #[.val (.long pr), .second, .val (.long pa), .second, .val (.long pb), .second, .val (.int pc0), .val (.int ps), .val (.int pw), .unset, .unset, .unset, .unset, .unset, .unset, .unset, .unset, .unset, .unset, .unset, .unset, .unset] [(.long pr)])) _
  refine Goes.by (fun _ k => X0.ldc2J hx hown (mvT hZ (hw _ (List.mem_of_getElem? (i := 0) rfl))) (g := (mkF m 1 #[.val (.long pr), .second, .val (.long pa), .second, .val (.long pb), .second, .val (.int pc0), .val (.int ps), .val (.int pw), .unset, .unset, .unset, .unset, .unset, .unset, .unset, .unset, .unset, .unset, .unset, .unset, .unset] [(.long pr)])) rfl (hb hby at_1) k) ?_
  show Goes p.tables e below (s₁.setTop (mkF m 4 #[.val (.long pr), .second, .val (.long pa), .second, .val (.long pb), .second, .val (.int pc0), .val (.int ps), .val (.int pw), .unset, .unset, .unset, .unset, .unset, .unset, .unset, .unset, .unset, .unset, .unset, .unset, .unset] [(.long (9223372034707292159 : Int64)), (.long pr)])) _
  refine Goes.by (fun _ k => XS.land X0.here hx rfl (hb hby at_4) rfl k) ?_
  show Goes p.tables e below (s₁.setTop (mkF m 5 #[.val (.long pr), .second, .val (.long pa), .second, .val (.long pb), .second, .val (.int pc0), .val (.int ps), .val (.int pw), .unset, .unset, .unset, .unset, .unset, .unset, .unset, .unset, .unset, .unset, .unset, .unset, .unset] [(.long (pr &&& (9223372034707292159 : Int64)))])) _
  obtain ⟨x1, hx1⟩ : ∃ z : Int64, z = (pr &&& (9223372034707292159 : Int64)) := ⟨_, rfl⟩
  refine Goes.by (fun _ k => XS.lstore X0.here hx rfl (hb hby at_5) rfl (l' := #[.val (.long pr), .second, .val (.long pa), .second, .val (.long pb), .second, .val (.int pc0), .val (.int ps), .val (.int pw), .val (.long x1), .second, .unset, .unset, .unset, .unset, .unset, .unset, .unset, .unset, .unset, .unset, .unset]) (by rw [hx1]; rfl) k) ?_
  show Goes p.tables e below (s₁.setTop (mkF m 7 #[.val (.long pr), .second, .val (.long pa), .second, .val (.long pb), .second, .val (.int pc0), .val (.int ps), .val (.int pw), .val (.long x1), .second, .unset, .unset, .unset, .unset, .unset, .unset, .unset, .unset, .unset, .unset, .unset] [])) _
  refine Goes.by (fun _ k => XS.lloadN X0.here hx rfl (hb hby at_7) rfl k) ?_
  show Goes p.tables e below (s₁.setTop (mkF m 8 #[.val (.long pr), .second, .val (.long pa), .second, .val (.long pb), .second, .val (.int pc0), .val (.int ps), .val (.int pw), .val (.long x1), .second, .unset, .unset, .unset, .unset, .unset, .unset, .unset, .unset, .unset, .unset, .unset] [(.long pa)])) _
  refine Goes.by (fun _ k => X0.ldc2J hx hown (mvT hZ (hw _ (List.mem_of_getElem? (i := 0) rfl))) (g := (mkF m 8 #[.val (.long pr), .second, .val (.long pa), .second, .val (.long pb), .second, .val (.int pc0), .val (.int ps), .val (.int pw), .val (.long x1), .second, .unset, .unset, .unset, .unset, .unset, .unset, .unset, .unset, .unset, .unset, .unset] [(.long pa)])) rfl (hb hby at_8) k) ?_
  show Goes p.tables e below (s₁.setTop (mkF m 11 #[.val (.long pr), .second, .val (.long pa), .second, .val (.long pb), .second, .val (.int pc0), .val (.int ps), .val (.int pw), .val (.long x1), .second, .unset, .unset, .unset, .unset, .unset, .unset, .unset, .unset, .unset, .unset, .unset] [(.long (9223372034707292159 : Int64)), (.long pa)])) _
  refine Goes.by (fun _ k => XS.land X0.here hx rfl (hb hby at_11) rfl k) ?_
  show Goes p.tables e below (s₁.setTop (mkF m 12 #[.val (.long pr), .second, .val (.long pa), .second, .val (.long pb), .second, .val (.int pc0), .val (.int ps), .val (.int pw), .val (.long x1), .second, .unset, .unset, .unset, .unset, .unset, .unset, .unset, .unset, .unset, .unset, .unset] [(.long (pa &&& (9223372034707292159 : Int64)))])) _
  obtain ⟨x2, hx2⟩ : ∃ z : Int64, z = (pa &&& (9223372034707292159 : Int64)) := ⟨_, rfl⟩
  refine Goes.by (fun _ k => XS.lstore X0.here hx rfl (hb hby at_12) rfl (l' := #[.val (.long pr), .second, .val (.long pa), .second, .val (.long pb), .second, .val (.int pc0), .val (.int ps), .val (.int pw), .val (.long x1), .second, .val (.long x2), .second, .unset, .unset, .unset, .unset, .unset, .unset, .unset, .unset, .unset]) (by rw [hx2]; rfl) k) ?_
  show Goes p.tables e below (s₁.setTop (mkF m 14 #[.val (.long pr), .second, .val (.long pa), .second, .val (.long pb), .second, .val (.int pc0), .val (.int ps), .val (.int pw), .val (.long x1), .second, .val (.long x2), .second, .unset, .unset, .unset, .unset, .unset, .unset, .unset, .unset, .unset] [])) _
  refine Goes.by (fun _ k => XS.lload X0.here hx rfl (hb hby at_14) rfl k) ?_
  show Goes p.tables e below (s₁.setTop (mkF m 16 #[.val (.long pr), .second, .val (.long pa), .second, .val (.long pb), .second, .val (.int pc0), .val (.int ps), .val (.int pw), .val (.long x1), .second, .val (.long x2), .second, .unset, .unset, .unset, .unset, .unset, .unset, .unset, .unset, .unset] [(.long pb)])) _
  refine Goes.by (fun _ k => X0.ldc2J hx hown (mvT hZ (hw _ (List.mem_of_getElem? (i := 0) rfl))) (g := (mkF m 16 #[.val (.long pr), .second, .val (.long pa), .second, .val (.long pb), .second, .val (.int pc0), .val (.int ps), .val (.int pw), .val (.long x1), .second, .val (.long x2), .second, .unset, .unset, .unset, .unset, .unset, .unset, .unset, .unset, .unset] [(.long pb)])) rfl (hb hby at_16) k) ?_
  show Goes p.tables e below (s₁.setTop (mkF m 19 #[.val (.long pr), .second, .val (.long pa), .second, .val (.long pb), .second, .val (.int pc0), .val (.int ps), .val (.int pw), .val (.long x1), .second, .val (.long x2), .second, .unset, .unset, .unset, .unset, .unset, .unset, .unset, .unset, .unset] [(.long (9223372034707292159 : Int64)), (.long pb)])) _
  refine Goes.by (fun _ k => XS.land X0.here hx rfl (hb hby at_19) rfl k) ?_
  show Goes p.tables e below (s₁.setTop (mkF m 20 #[.val (.long pr), .second, .val (.long pa), .second, .val (.long pb), .second, .val (.int pc0), .val (.int ps), .val (.int pw), .val (.long x1), .second, .val (.long x2), .second, .unset, .unset, .unset, .unset, .unset, .unset, .unset, .unset, .unset] [(.long (pb &&& (9223372034707292159 : Int64)))])) _
  obtain ⟨x3, hx3⟩ : ∃ z : Int64, z = (pb &&& (9223372034707292159 : Int64)) := ⟨_, rfl⟩
  refine Goes.by (fun _ k => XS.lstore X0.here hx rfl (hb hby at_20) rfl (l' := #[.val (.long pr), .second, .val (.long pa), .second, .val (.long pb), .second, .val (.int pc0), .val (.int ps), .val (.int pw), .val (.long x1), .second, .val (.long x2), .second, .val (.long x3), .second, .unset, .unset, .unset, .unset, .unset, .unset, .unset]) (by rw [hx3]; rfl) k) ?_
  show Goes p.tables e below (s₁.setTop (mkF m 22 #[.val (.long pr), .second, .val (.long pa), .second, .val (.long pb), .second, .val (.int pc0), .val (.int ps), .val (.int pw), .val (.long x1), .second, .val (.long x2), .second, .val (.long x3), .second, .unset, .unset, .unset, .unset, .unset, .unset, .unset] [])) _
  refine Goes.by (fun _ k => XS.iconst X0.here hx rfl (hb hby at_22) k) ?_
  show Goes p.tables e below (s₁.setTop (mkF m 23 #[.val (.long pr), .second, .val (.long pa), .second, .val (.long pb), .second, .val (.int pc0), .val (.int ps), .val (.int pw), .val (.long x1), .second, .val (.long x2), .second, .val (.long x3), .second, .unset, .unset, .unset, .unset, .unset, .unset, .unset] [(.int (1 : Int32))])) _
  refine Goes.by (fun _ k => XS.iload X0.here hx rfl (hb hby at_23) rfl k) ?_
  show Goes p.tables e below (s₁.setTop (mkF m 25 #[.val (.long pr), .second, .val (.long pa), .second, .val (.long pb), .second, .val (.int pc0), .val (.int ps), .val (.int pw), .val (.long x1), .second, .val (.long x2), .second, .val (.long x3), .second, .unset, .unset, .unset, .unset, .unset, .unset, .unset] [(.int ps), (.int (1 : Int32))])) _
  refine Goes.by (fun _ k => XS.iconst X0.here hx rfl (hb hby at_25) k) ?_
  show Goes p.tables e below (s₁.setTop (mkF m 26 #[.val (.long pr), .second, .val (.long pa), .second, .val (.long pb), .second, .val (.int pc0), .val (.int ps), .val (.int pw), .val (.long x1), .second, .val (.long x2), .second, .val (.long x3), .second, .unset, .unset, .unset, .unset, .unset, .unset, .unset] [(.int (3 : Int32)), (.int ps), (.int (1 : Int32))])) _
  refine Goes.by (fun _ k => XS.iand X0.here hx rfl (hb hby at_26) rfl k) ?_
  show Goes p.tables e below (s₁.setTop (mkF m 27 #[.val (.long pr), .second, .val (.long pa), .second, .val (.long pb), .second, .val (.int pc0), .val (.int ps), .val (.int pw), .val (.long x1), .second, .val (.long x2), .second, .val (.long x3), .second, .unset, .unset, .unset, .unset, .unset, .unset, .unset] [(.int (ps &&& (3 : Int32))), (.int (1 : Int32))])) _
  refine Goes.by (fun _ k => XS.ishl X0.here hx rfl (hb hby at_27) rfl k) ?_
  show Goes p.tables e below (s₁.setTop (mkF m 28 #[.val (.long pr), .second, .val (.long pa), .second, .val (.long pb), .second, .val (.int pc0), .val (.int ps), .val (.int pw), .val (.long x1), .second, .val (.long x2), .second, .val (.long x3), .second, .unset, .unset, .unset, .unset, .unset, .unset, .unset] [(.int ((1 : Int32) <<< ((ps &&& (3 : Int32)) &&& 31)))])) _
  obtain ⟨x4, hx4⟩ : ∃ z : Int32, z = ((1 : Int32) <<< ((ps &&& (3 : Int32)) &&& 31)) := ⟨_, rfl⟩
  refine Goes.by (fun _ k => XS.istore X0.here hx rfl (hb hby at_28) rfl (l' := #[.val (.long pr), .second, .val (.long pa), .second, .val (.long pb), .second, .val (.int pc0), .val (.int ps), .val (.int pw), .val (.long x1), .second, .val (.long x2), .second, .val (.long x3), .second, .val (.int x4), .unset, .unset, .unset, .unset, .unset, .unset]) (by rw [hx4]; rfl) k) ?_
  show Goes p.tables e below (s₁.setTop (mkF m 30 #[.val (.long pr), .second, .val (.long pa), .second, .val (.long pb), .second, .val (.int pc0), .val (.int ps), .val (.int pw), .val (.long x1), .second, .val (.long x2), .second, .val (.long x3), .second, .val (.int x4), .unset, .unset, .unset, .unset, .unset, .unset] [])) _
  refine Goes.by (fun _ k => XS.iload X0.here hx rfl (hb hby at_30) rfl k) ?_
  show Goes p.tables e below (s₁.setTop (mkF m 32 #[.val (.long pr), .second, .val (.long pa), .second, .val (.long pb), .second, .val (.int pc0), .val (.int ps), .val (.int pw), .val (.long x1), .second, .val (.long x2), .second, .val (.long x3), .second, .val (.int x4), .unset, .unset, .unset, .unset, .unset, .unset] [(.int x4)])) _
  refine Goes.by (fun _ k => XS.iconst X0.here hx rfl (hb hby at_32) k) ?_
  show Goes p.tables e below (s₁.setTop (mkF m 33 #[.val (.long pr), .second, .val (.long pa), .second, .val (.long pb), .second, .val (.int pc0), .val (.int ps), .val (.int pw), .val (.long x1), .second, .val (.long x2), .second, .val (.long x3), .second, .val (.int x4), .unset, .unset, .unset, .unset, .unset, .unset] [(.int (1 : Int32)), (.int x4)])) _
  refine Goes.by (fun _ k => XS.isub X0.here hx rfl (hb hby at_33) rfl k) ?_
  show Goes p.tables e below (s₁.setTop (mkF m 34 #[.val (.long pr), .second, .val (.long pa), .second, .val (.long pb), .second, .val (.int pc0), .val (.int ps), .val (.int pw), .val (.long x1), .second, .val (.long x2), .second, .val (.long x3), .second, .val (.int x4), .unset, .unset, .unset, .unset, .unset, .unset] [(.int (x4 - (1 : Int32)))])) _
  obtain ⟨x5, hx5⟩ : ∃ z : Int32, z = (x4 - (1 : Int32)) := ⟨_, rfl⟩
  refine Goes.by (fun _ k => XS.istore X0.here hx rfl (hb hby at_34) rfl (l' := #[.val (.long pr), .second, .val (.long pa), .second, .val (.long pb), .second, .val (.int pc0), .val (.int ps), .val (.int pw), .val (.long x1), .second, .val (.long x2), .second, .val (.long x3), .second, .val (.int x4), .val (.int x5), .unset, .unset, .unset, .unset, .unset]) (by rw [hx5]; rfl) k) ?_
  show Goes p.tables e below (s₁.setTop (mkF m 36 #[.val (.long pr), .second, .val (.long pa), .second, .val (.long pb), .second, .val (.int pc0), .val (.int ps), .val (.int pw), .val (.long x1), .second, .val (.long x2), .second, .val (.long x3), .second, .val (.int x4), .val (.int x5), .unset, .unset, .unset, .unset, .unset] [])) _
  obtain ⟨nl, hs, hz, hpm, hnl8, hnl0⟩ := own_size _ _ hx4
  rw [← hx5] at hpm
  refine Goes.by (fun _ k => XS.iload X0.here hx rfl (hb hby at_36) rfl k) ?_
  show Goes p.tables e below (s₁.setTop (mkF m 38 #[.val (.long pr), .second, .val (.long pa), .second, .val (.long pb), .second, .val (.int pc0), .val (.int ps), .val (.int pw), .val (.long x1), .second, .val (.long x2), .second, .val (.long x3), .second, .val (.int x4), .val (.int x5), .unset, .unset, .unset, .unset, .unset] [(.int x4)])) _
  obtain ⟨T6, h6, X6, e6, E6, A6, st6⟩ := nwA (n := nl) (cap := 8) (fr := (mkF m 38 #[.val (.long pr), .second, .val (.long pa), .second, .val (.long pb), .second, .val (.int pc0), .val (.int ps), .val (.int pw), .val (.long x1), .second, .val (.long x2), .second, .val (.long x3), .second, .val (.int x4), .val (.int x5), .unset, .unset, .unset, .unset, .unset] [(.int x4)])) X0 hx hZ (hw _ (List.mem_of_getElem? (i := 1) rfl)) e0 hz hnl8 (by decide) (by decide) (by decide) rfl rfl (hb hby at_38)
  obtain ⟨b6, g6⟩ : ∃ z, z = h0.size := ⟨_, rfl⟩
  rw [← g6] at A6 st6
  have g_b6 : n0 ≤ b6 := Nat.le_trans Z0 (Nat.le_of_eq g6.symm)
  have sz_b6 : h0.size ≤ b6 := Nat.le_trans (Keep.refl h0 []).1 (Nat.le_of_eq g6.symm)
  have Zs6 : n0 ≤ h6.size := Nat.le_trans Z0 E6.1
  have K6 : Keep h0 h6 [] := (Keep.refl h0 []).ext E6
  refine Goes.by st6 ?_
  have A_b6 : AJ Z h6 b6 nl (fun _ => (0 : Int64)) := A6
  show Goes p.tables e below (T6.setTop (mkF m 40 #[.val (.long pr), .second, .val (.long pa), .second, .val (.long pb), .second, .val (.int pc0), .val (.int ps), .val (.int pw), .val (.long x1), .second, .val (.long x2), .second, .val (.long x3), .second, .val (.int x4), .val (.int x5), .unset, .unset, .unset, .unset, .unset] [(.ref b6)])) _
  refine Goes.by (fun _ k => XS.astore X6.here hx rfl (hb hby at_40) rfl rfl (l' := #[.val (.long pr), .second, .val (.long pa), .second, .val (.long pb), .second, .val (.int pc0), .val (.int ps), .val (.int pw), .val (.long x1), .second, .val (.long x2), .second, .val (.long x3), .second, .val (.int x4), .val (.int x5), .val (.ref b6), .unset, .unset, .unset, .unset]) rfl k) ?_
  show Goes p.tables e below (T6.setTop (mkF m 42 #[.val (.long pr), .second, .val (.long pa), .second, .val (.long pb), .second, .val (.int pc0), .val (.int ps), .val (.int pw), .val (.long x1), .second, .val (.long x2), .second, .val (.long x3), .second, .val (.int x4), .val (.int x5), .val (.ref b6), .unset, .unset, .unset, .unset] [])) _
  refine Goes.by (fun _ k => XS.aload X6.here hx rfl (hb hby at_42) rfl rfl k) ?_
  show Goes p.tables e below (T6.setTop (mkF m 44 #[.val (.long pr), .second, .val (.long pa), .second, .val (.long pb), .second, .val (.int pc0), .val (.int ps), .val (.int pw), .val (.long x1), .second, .val (.long x2), .second, .val (.long x3), .second, .val (.int x4), .val (.int x5), .val (.ref b6), .unset, .unset, .unset, .unset] [(.ref b6)])) _
  refine Goes.by (fun _ k => XS.iconst X6.here hx rfl (hb hby at_44) k) ?_
  show Goes p.tables e below (T6.setTop (mkF m 45 #[.val (.long pr), .second, .val (.long pa), .second, .val (.long pb), .second, .val (.int pc0), .val (.int ps), .val (.int pw), .val (.long x1), .second, .val (.long x2), .second, .val (.long x3), .second, .val (.int x4), .val (.int x5), .val (.ref b6), .unset, .unset, .unset, .unset] [(.int (0 : Int32)), (.ref b6)])) _
  refine Goes.by (fun _ k => XS.iload X6.here hx rfl (hb hby at_45) rfl k) ?_
  show Goes p.tables e below (T6.setTop (mkF m 47 #[.val (.long pr), .second, .val (.long pa), .second, .val (.long pb), .second, .val (.int pc0), .val (.int ps), .val (.int pw), .val (.long x1), .second, .val (.long x2), .second, .val (.long x3), .second, .val (.int x4), .val (.int x5), .val (.ref b6), .unset, .unset, .unset, .unset] [(.int pc0), (.int (0 : Int32)), (.ref b6)])) _
  refine Goes.by (fun _ k => XS.iconst X6.here hx rfl (hb hby at_47) k) ?_
  show Goes p.tables e below (T6.setTop (mkF m 48 #[.val (.long pr), .second, .val (.long pa), .second, .val (.long pb), .second, .val (.int pc0), .val (.int ps), .val (.int pw), .val (.long x1), .second, .val (.long x2), .second, .val (.long x3), .second, .val (.int x4), .val (.int x5), .val (.ref b6), .unset, .unset, .unset, .unset] [(.int (0 : Int32)), (.int pc0), (.int (0 : Int32)), (.ref b6)])) _
  refine Goes.by (fun _ k => XS.lload X6.here hx rfl (hb hby at_48) rfl k) ?_
  show Goes p.tables e below (T6.setTop (mkF m 50 #[.val (.long pr), .second, .val (.long pa), .second, .val (.long pb), .second, .val (.int pc0), .val (.int ps), .val (.int pw), .val (.long x1), .second, .val (.long x2), .second, .val (.long x3), .second, .val (.int x4), .val (.int x5), .val (.ref b6), .unset, .unset, .unset, .unset] [(.long x1), (.int (0 : Int32)), (.int pc0), (.int (0 : Int32)), (.ref b6)])) _
  refine Goes.by (fun _ k => XS.lload X6.here hx rfl (hb hby at_50) rfl k) ?_
  show Goes p.tables e below (T6.setTop (mkF m 52 #[.val (.long pr), .second, .val (.long pa), .second, .val (.long pb), .second, .val (.int pc0), .val (.int ps), .val (.int pw), .val (.long x1), .second, .val (.long x2), .second, .val (.long x3), .second, .val (.int x4), .val (.int x5), .val (.ref b6), .unset, .unset, .unset, .unset] [(.long x2), (.long x1), (.int (0 : Int32)), (.int pc0), (.int (0 : Int32)), (.ref b6)])) _
  refine Goes.by (fun _ k => XS.lload X6.here hx rfl (hb hby at_52) rfl k) ?_
  show Goes p.tables e below (T6.setTop (mkF m 54 #[.val (.long pr), .second, .val (.long pa), .second, .val (.long pb), .second, .val (.int pc0), .val (.int ps), .val (.int pw), .val (.long x1), .second, .val (.long x2), .second, .val (.long x3), .second, .val (.int x4), .val (.int x5), .val (.ref b6), .unset, .unset, .unset, .unset] [(.long x3), (.long x2), (.long x1), (.int (0 : Int32)), (.int pc0), (.int (0 : Int32)), (.ref b6)])) _
  obtain ⟨_, _, ⟨T7, L7, k7, n7⟩, -, X7, ⟨Lc7, hQ7, l7, y7, z7⟩, st7⟩ := Jvm.LawKit.callS X6 hx (y := (⟨"com/example/xml_graph_join/xmlgraphjoin/labels/PackedSlotsFindPinLaw", "pick", "(IIJJJ)J"⟩ : MethodName)) hown (mvT hZ (hw _ (List.mem_of_getElem? (i := 2) rfl))) (mvT hZ (hw _ (List.mem_of_getElem? (i := 3) rfl))) (mvT hZ (hw _ (List.mem_of_getElem? (i := 4) rfl))) (mvT hZ (hw _ (List.mem_of_getElem? (i := 5) rfl))) (by decide) (backOf (W := 2) (rm1 l Z a0 hw [] pc0 (0 : Int32) x1 x2 x3 h6 n0 Zs6) hZ (hw _ (List.mem_of_getElem? (i := 5) rfl)) (hw _ (List.mem_of_getElem? (i := 4) rfl)) (by decide) (by decide)) (g := (mkF m 54 #[.val (.long pr), .second, .val (.long pa), .second, .val (.long pb), .second, .val (.int pc0), .val (.int ps), .val (.int pw), .val (.long x1), .second, .val (.long x2), .second, .val (.long x3), .second, .val (.int x4), .val (.int x5), .val (.ref b6), .unset, .unset, .unset, .unset] [(.long x3), (.long x2), (.long x1), (.int (0 : Int32)), (.int pc0), (.int (0 : Int32)), (.ref b6)])) rfl (by rw [hml]; rfl) (argsL := [(.int pc0), (.int (0 : Int32)), (.long x1), (.long x2), (.long x3)]) (rest := [(.int (0 : Int32)), (.ref b6)]) (lenOf pd_0 rfl) rfl (by show 2 * 0 + (1 + (1 + 0)) ≤ _; decide) (hb hby at_54) (fun _ _ => ⟨rfl, e6, (by decide : 1 + 0 ≤ _), (by decide : 8 + 0 ≤ _)⟩)
  dsimp only [Pt.U, Pt.locs, Pt.cells, Pt.slots] at X7 l7 y7 z7 st7 hQ7
  rw [l7, y7, z7] at X7
  obtain ⟨rfl, N7q, e7⟩ := hQ7
  have N7 := Fr.app N0 N7q
  refine Goes.by st7 ?_
  show Goes p.tables e below (T7.setTop (mkF m 57 #[.val (.long pr), .second, .val (.long pa), .second, .val (.long pb), .second, .val (.int pc0), .val (.int ps), .val (.int pw), .val (.long x1), .second, .val (.long x2), .second, .val (.long x3), .second, .val (.int x4), .val (.int x5), .val (.ref b6), .unset, .unset, .unset, .unset] [(.long (fn1 pc0 (0 : Int32) x1 x2 x3)), (.int (0 : Int32)), (.ref b6)])) _
  obtain ⟨_, _, ⟨T8, L8, k8, n8⟩, -, X8, ⟨Lc8, hQ8, l8, y8, z8⟩, st8⟩ := Jvm.LawKit.callS X7 hx (y := (⟨"com/example/xml_graph_join/xmlgraphjoin/labels/PackedSlotsFindPinLaw", "put", "([JIJ)V"⟩ : MethodName)) hown (mvT hZ (hw _ (List.mem_of_getElem? (i := 6) rfl))) (mvT hZ (hw _ (List.mem_of_getElem? (i := 7) rfl))) (mvT hZ (hw _ (List.mem_of_getElem? (i := 4) rfl))) (mvT hZ (hw _ (List.mem_of_getElem? (i := 8) rfl))) (by decide) (backOf (W := 0) (rm2 l Z a0 hw [] b6 (0 : Int32) (fn1 pc0 (0 : Int32) x1 x2 x3) (fun _ => (0 : Int64)) 0 nl x4 h6 n0 Zs6 A_b6 (by decide) (hz) g_b6) hZ (hw _ (List.mem_of_getElem? (i := 8) rfl)) (hw _ (List.mem_of_getElem? (i := 4) rfl)) (by decide) (by decide)) (g := (mkF m 57 #[.val (.long pr), .second, .val (.long pa), .second, .val (.long pb), .second, .val (.int pc0), .val (.int ps), .val (.int pw), .val (.long x1), .second, .val (.long x2), .second, .val (.long x3), .second, .val (.int x4), .val (.int x5), .val (.ref b6), .unset, .unset, .unset, .unset] [(.long (fn1 pc0 (0 : Int32) x1 x2 x3)), (.int (0 : Int32)), (.ref b6)])) rfl (by rw [hml]; rfl) (argsL := [(.ref b6), (.int (0 : Int32)), (.long (fn1 pc0 (0 : Int32) x1 x2 x3))]) (rest := []) (lenOf pd_1 rfl) rfl (by show 2 * 0 + _ ≤ _; exact Nat.le_of_eq rfl) (hb hby at_57) (fun _ _ => ⟨rfl, e7, (by decide : 1 + 0 ≤ _), (by decide : 8 + 0 ≤ _)⟩)
  dsimp only [Pt.U, Pt.locs, Pt.cells, Pt.slots] at X8 l8 y8 z8 st8 hQ8
  rw [l8, y8, z8] at X8
  obtain ⟨rfl, N8q, Kq8, po8_0⟩ := hQ8
  have N8 := Fr.app N7 N8q
  refine Goes.by st8 ?_
  have Zs8 : n0 ≤ T8.heap.size := Nat.le_trans Zs6 Kq8.1
  have K8 : Keep h0 T8.heap [] := K6.trans Kq8 (allS (Or.inr sz_b6) all0)
  have A_b6 : AJ Z T8.heap b6 nl (up (fun _ => (0 : Int64)) 0 (fn1 pc0 (0 : Int32) x1 x2 x3)) := po8_0
  show Goes p.tables e below (T8.setTop (mkF m 60 #[.val (.long pr), .second, .val (.long pa), .second, .val (.long pb), .second, .val (.int pc0), .val (.int ps), .val (.int pw), .val (.long x1), .second, .val (.long x2), .second, .val (.long x3), .second, .val (.int x4), .val (.int x5), .val (.ref b6), .unset, .unset, .unset, .unset] [])) _
  refine Goes.by (fun _ k => XS.aload X8.here hx rfl (hb hby at_60) rfl rfl k) ?_
  show Goes p.tables e below (T8.setTop (mkF m 62 #[.val (.long pr), .second, .val (.long pa), .second, .val (.long pb), .second, .val (.int pc0), .val (.int ps), .val (.int pw), .val (.long x1), .second, .val (.long x2), .second, .val (.long x3), .second, .val (.int x4), .val (.int x5), .val (.ref b6), .unset, .unset, .unset, .unset] [(.ref b6)])) _
  refine Goes.by (fun _ k => XS.iconst X8.here hx rfl (hb hby at_62) k) ?_
  show Goes p.tables e below (T8.setTop (mkF m 63 #[.val (.long pr), .second, .val (.long pa), .second, .val (.long pb), .second, .val (.int pc0), .val (.int ps), .val (.int pw), .val (.long x1), .second, .val (.long x2), .second, .val (.long x3), .second, .val (.int x4), .val (.int x5), .val (.ref b6), .unset, .unset, .unset, .unset] [(.int (1 : Int32)), (.ref b6)])) _
  refine Goes.by (fun _ k => XS.iload X8.here hx rfl (hb hby at_63) rfl k) ?_
  show Goes p.tables e below (T8.setTop (mkF m 65 #[.val (.long pr), .second, .val (.long pa), .second, .val (.long pb), .second, .val (.int pc0), .val (.int ps), .val (.int pw), .val (.long x1), .second, .val (.long x2), .second, .val (.long x3), .second, .val (.int x4), .val (.int x5), .val (.ref b6), .unset, .unset, .unset, .unset] [(.int pc0), (.int (1 : Int32)), (.ref b6)])) _
  refine Goes.by (fun _ k => XS.iconst X8.here hx rfl (hb hby at_65) k) ?_
  show Goes p.tables e below (T8.setTop (mkF m 66 #[.val (.long pr), .second, .val (.long pa), .second, .val (.long pb), .second, .val (.int pc0), .val (.int ps), .val (.int pw), .val (.long x1), .second, .val (.long x2), .second, .val (.long x3), .second, .val (.int x4), .val (.int x5), .val (.ref b6), .unset, .unset, .unset, .unset] [(.int (1 : Int32)), (.int pc0), (.int (1 : Int32)), (.ref b6)])) _
  refine Goes.by (fun _ k => XS.lload X8.here hx rfl (hb hby at_66) rfl k) ?_
  show Goes p.tables e below (T8.setTop (mkF m 68 #[.val (.long pr), .second, .val (.long pa), .second, .val (.long pb), .second, .val (.int pc0), .val (.int ps), .val (.int pw), .val (.long x1), .second, .val (.long x2), .second, .val (.long x3), .second, .val (.int x4), .val (.int x5), .val (.ref b6), .unset, .unset, .unset, .unset] [(.long x1), (.int (1 : Int32)), (.int pc0), (.int (1 : Int32)), (.ref b6)])) _
  refine Goes.by (fun _ k => XS.lload X8.here hx rfl (hb hby at_68) rfl k) ?_
  show Goes p.tables e below (T8.setTop (mkF m 70 #[.val (.long pr), .second, .val (.long pa), .second, .val (.long pb), .second, .val (.int pc0), .val (.int ps), .val (.int pw), .val (.long x1), .second, .val (.long x2), .second, .val (.long x3), .second, .val (.int x4), .val (.int x5), .val (.ref b6), .unset, .unset, .unset, .unset] [(.long x2), (.long x1), (.int (1 : Int32)), (.int pc0), (.int (1 : Int32)), (.ref b6)])) _
  refine Goes.by (fun _ k => XS.lload X8.here hx rfl (hb hby at_70) rfl k) ?_
  show Goes p.tables e below (T8.setTop (mkF m 72 #[.val (.long pr), .second, .val (.long pa), .second, .val (.long pb), .second, .val (.int pc0), .val (.int ps), .val (.int pw), .val (.long x1), .second, .val (.long x2), .second, .val (.long x3), .second, .val (.int x4), .val (.int x5), .val (.ref b6), .unset, .unset, .unset, .unset] [(.long x3), (.long x2), (.long x1), (.int (1 : Int32)), (.int pc0), (.int (1 : Int32)), (.ref b6)])) _
  obtain ⟨_, _, ⟨T9, L9, k9, n9⟩, -, X9, ⟨Lc9, hQ9, l9, y9, z9⟩, st9⟩ := Jvm.LawKit.callS X8 hx (y := (⟨"com/example/xml_graph_join/xmlgraphjoin/labels/PackedSlotsFindPinLaw", "pick", "(IIJJJ)J"⟩ : MethodName)) hown (mvT hZ (hw _ (List.mem_of_getElem? (i := 2) rfl))) (mvT hZ (hw _ (List.mem_of_getElem? (i := 3) rfl))) (mvT hZ (hw _ (List.mem_of_getElem? (i := 4) rfl))) (mvT hZ (hw _ (List.mem_of_getElem? (i := 5) rfl))) (by decide) (backOf (W := 2) (rm1 l Z a0 hw [] pc0 (1 : Int32) x1 x2 x3 T8.heap n0 Zs8) hZ (hw _ (List.mem_of_getElem? (i := 5) rfl)) (hw _ (List.mem_of_getElem? (i := 4) rfl)) (by decide) (by decide)) (g := (mkF m 72 #[.val (.long pr), .second, .val (.long pa), .second, .val (.long pb), .second, .val (.int pc0), .val (.int ps), .val (.int pw), .val (.long x1), .second, .val (.long x2), .second, .val (.long x3), .second, .val (.int x4), .val (.int x5), .val (.ref b6), .unset, .unset, .unset, .unset] [(.long x3), (.long x2), (.long x1), (.int (1 : Int32)), (.int pc0), (.int (1 : Int32)), (.ref b6)])) rfl (by rw [hml]; rfl) (argsL := [(.int pc0), (.int (1 : Int32)), (.long x1), (.long x2), (.long x3)]) (rest := [(.int (1 : Int32)), (.ref b6)]) (lenOf pd_0 rfl) rfl (by show 2 * 0 + (1 + (1 + 0)) ≤ _; decide) (hb hby at_72) (fun _ _ => ⟨rfl, rfl, (by decide : 1 + 0 ≤ _), (by decide : 8 + 0 ≤ _)⟩)
  dsimp only [Pt.U, Pt.locs, Pt.cells, Pt.slots] at X9 l9 y9 z9 st9 hQ9
  rw [l9, y9, z9] at X9
  obtain ⟨rfl, N9q, e9⟩ := hQ9
  have N9 := Fr.app N8 N9q
  refine Goes.by st9 ?_
  show Goes p.tables e below (T9.setTop (mkF m 75 #[.val (.long pr), .second, .val (.long pa), .second, .val (.long pb), .second, .val (.int pc0), .val (.int ps), .val (.int pw), .val (.long x1), .second, .val (.long x2), .second, .val (.long x3), .second, .val (.int x4), .val (.int x5), .val (.ref b6), .unset, .unset, .unset, .unset] [(.long (fn1 pc0 (1 : Int32) x1 x2 x3)), (.int (1 : Int32)), (.ref b6)])) _
  obtain ⟨_, _, ⟨T10, L10, k10, n10⟩, -, X10, ⟨Lc10, hQ10, l10, y10, z10⟩, st10⟩ := Jvm.LawKit.callS X9 hx (y := (⟨"com/example/xml_graph_join/xmlgraphjoin/labels/PackedSlotsFindPinLaw", "put", "([JIJ)V"⟩ : MethodName)) hown (mvT hZ (hw _ (List.mem_of_getElem? (i := 6) rfl))) (mvT hZ (hw _ (List.mem_of_getElem? (i := 7) rfl))) (mvT hZ (hw _ (List.mem_of_getElem? (i := 4) rfl))) (mvT hZ (hw _ (List.mem_of_getElem? (i := 8) rfl))) (by decide) (backOf (W := 0) (rm2 l Z a0 hw [] b6 (1 : Int32) (fn1 pc0 (1 : Int32) x1 x2 x3) (up (fun _ => (0 : Int64)) 0 (fn1 pc0 (0 : Int32) x1 x2 x3)) 1 nl x4 T8.heap n0 Zs8 A_b6 (by decide) (hz) g_b6) hZ (hw _ (List.mem_of_getElem? (i := 8) rfl)) (hw _ (List.mem_of_getElem? (i := 4) rfl)) (by decide) (by decide)) (g := (mkF m 75 #[.val (.long pr), .second, .val (.long pa), .second, .val (.long pb), .second, .val (.int pc0), .val (.int ps), .val (.int pw), .val (.long x1), .second, .val (.long x2), .second, .val (.long x3), .second, .val (.int x4), .val (.int x5), .val (.ref b6), .unset, .unset, .unset, .unset] [(.long (fn1 pc0 (1 : Int32) x1 x2 x3)), (.int (1 : Int32)), (.ref b6)])) rfl (by rw [hml]; rfl) (argsL := [(.ref b6), (.int (1 : Int32)), (.long (fn1 pc0 (1 : Int32) x1 x2 x3))]) (rest := []) (lenOf pd_1 rfl) rfl (by show 2 * 0 + _ ≤ _; exact Nat.le_of_eq rfl) (hb hby at_75) (fun _ _ => ⟨rfl, e9, (by decide : 1 + 0 ≤ _), (by decide : 8 + 0 ≤ _)⟩)
  dsimp only [Pt.U, Pt.locs, Pt.cells, Pt.slots] at X10 l10 y10 z10 st10 hQ10
  rw [l10, y10, z10] at X10
  obtain ⟨rfl, N10q, Kq10, po10_0⟩ := hQ10
  have N10 := Fr.app N9 N10q
  refine Goes.by st10 ?_
  have Zs10 : n0 ≤ T10.heap.size := Nat.le_trans Zs8 Kq10.1
  have K10 : Keep h0 T10.heap [] := K8.trans Kq10 (allS (Or.inr sz_b6) all0)
  have A_b6 : AJ Z T10.heap b6 nl (up (up (fun _ => (0 : Int64)) 0 (fn1 pc0 (0 : Int32) x1 x2 x3)) 1 (fn1 pc0 (1 : Int32) x1 x2 x3)) := po10_0
  show Goes p.tables e below (T10.setTop (mkF m 78 #[.val (.long pr), .second, .val (.long pa), .second, .val (.long pb), .second, .val (.int pc0), .val (.int ps), .val (.int pw), .val (.long x1), .second, .val (.long x2), .second, .val (.long x3), .second, .val (.int x4), .val (.int x5), .val (.ref b6), .unset, .unset, .unset, .unset] [])) _
  refine Goes.by (fun _ k => XS.aload X10.here hx rfl (hb hby at_78) rfl rfl k) ?_
  show Goes p.tables e below (T10.setTop (mkF m 80 #[.val (.long pr), .second, .val (.long pa), .second, .val (.long pb), .second, .val (.int pc0), .val (.int ps), .val (.int pw), .val (.long x1), .second, .val (.long x2), .second, .val (.long x3), .second, .val (.int x4), .val (.int x5), .val (.ref b6), .unset, .unset, .unset, .unset] [(.ref b6)])) _
  refine Goes.by (fun _ k => XS.iconst X10.here hx rfl (hb hby at_80) k) ?_
  show Goes p.tables e below (T10.setTop (mkF m 81 #[.val (.long pr), .second, .val (.long pa), .second, .val (.long pb), .second, .val (.int pc0), .val (.int ps), .val (.int pw), .val (.long x1), .second, .val (.long x2), .second, .val (.long x3), .second, .val (.int x4), .val (.int x5), .val (.ref b6), .unset, .unset, .unset, .unset] [(.int (2 : Int32)), (.ref b6)])) _
  refine Goes.by (fun _ k => XS.iload X10.here hx rfl (hb hby at_81) rfl k) ?_
  show Goes p.tables e below (T10.setTop (mkF m 83 #[.val (.long pr), .second, .val (.long pa), .second, .val (.long pb), .second, .val (.int pc0), .val (.int ps), .val (.int pw), .val (.long x1), .second, .val (.long x2), .second, .val (.long x3), .second, .val (.int x4), .val (.int x5), .val (.ref b6), .unset, .unset, .unset, .unset] [(.int pc0), (.int (2 : Int32)), (.ref b6)])) _
  refine Goes.by (fun _ k => XS.iconst X10.here hx rfl (hb hby at_83) k) ?_
  show Goes p.tables e below (T10.setTop (mkF m 84 #[.val (.long pr), .second, .val (.long pa), .second, .val (.long pb), .second, .val (.int pc0), .val (.int ps), .val (.int pw), .val (.long x1), .second, .val (.long x2), .second, .val (.long x3), .second, .val (.int x4), .val (.int x5), .val (.ref b6), .unset, .unset, .unset, .unset] [(.int (2 : Int32)), (.int pc0), (.int (2 : Int32)), (.ref b6)])) _
  refine Goes.by (fun _ k => XS.lload X10.here hx rfl (hb hby at_84) rfl k) ?_
  show Goes p.tables e below (T10.setTop (mkF m 86 #[.val (.long pr), .second, .val (.long pa), .second, .val (.long pb), .second, .val (.int pc0), .val (.int ps), .val (.int pw), .val (.long x1), .second, .val (.long x2), .second, .val (.long x3), .second, .val (.int x4), .val (.int x5), .val (.ref b6), .unset, .unset, .unset, .unset] [(.long x1), (.int (2 : Int32)), (.int pc0), (.int (2 : Int32)), (.ref b6)])) _
  refine Goes.by (fun _ k => XS.lload X10.here hx rfl (hb hby at_86) rfl k) ?_
  show Goes p.tables e below (T10.setTop (mkF m 88 #[.val (.long pr), .second, .val (.long pa), .second, .val (.long pb), .second, .val (.int pc0), .val (.int ps), .val (.int pw), .val (.long x1), .second, .val (.long x2), .second, .val (.long x3), .second, .val (.int x4), .val (.int x5), .val (.ref b6), .unset, .unset, .unset, .unset] [(.long x2), (.long x1), (.int (2 : Int32)), (.int pc0), (.int (2 : Int32)), (.ref b6)])) _
  refine Goes.by (fun _ k => XS.lload X10.here hx rfl (hb hby at_88) rfl k) ?_
  show Goes p.tables e below (T10.setTop (mkF m 90 #[.val (.long pr), .second, .val (.long pa), .second, .val (.long pb), .second, .val (.int pc0), .val (.int ps), .val (.int pw), .val (.long x1), .second, .val (.long x2), .second, .val (.long x3), .second, .val (.int x4), .val (.int x5), .val (.ref b6), .unset, .unset, .unset, .unset] [(.long x3), (.long x2), (.long x1), (.int (2 : Int32)), (.int pc0), (.int (2 : Int32)), (.ref b6)])) _
  obtain ⟨_, _, ⟨T11, L11, k11, n11⟩, -, X11, ⟨Lc11, hQ11, l11, y11, z11⟩, st11⟩ := Jvm.LawKit.callS X10 hx (y := (⟨"com/example/xml_graph_join/xmlgraphjoin/labels/PackedSlotsFindPinLaw", "pick", "(IIJJJ)J"⟩ : MethodName)) hown (mvT hZ (hw _ (List.mem_of_getElem? (i := 2) rfl))) (mvT hZ (hw _ (List.mem_of_getElem? (i := 3) rfl))) (mvT hZ (hw _ (List.mem_of_getElem? (i := 4) rfl))) (mvT hZ (hw _ (List.mem_of_getElem? (i := 5) rfl))) (by decide) (backOf (W := 2) (rm1 l Z a0 hw [] pc0 (2 : Int32) x1 x2 x3 T10.heap n0 Zs10) hZ (hw _ (List.mem_of_getElem? (i := 5) rfl)) (hw _ (List.mem_of_getElem? (i := 4) rfl)) (by decide) (by decide)) (g := (mkF m 90 #[.val (.long pr), .second, .val (.long pa), .second, .val (.long pb), .second, .val (.int pc0), .val (.int ps), .val (.int pw), .val (.long x1), .second, .val (.long x2), .second, .val (.long x3), .second, .val (.int x4), .val (.int x5), .val (.ref b6), .unset, .unset, .unset, .unset] [(.long x3), (.long x2), (.long x1), (.int (2 : Int32)), (.int pc0), (.int (2 : Int32)), (.ref b6)])) rfl (by rw [hml]; rfl) (argsL := [(.int pc0), (.int (2 : Int32)), (.long x1), (.long x2), (.long x3)]) (rest := [(.int (2 : Int32)), (.ref b6)]) (lenOf pd_0 rfl) rfl (by show 2 * 0 + (1 + (1 + 0)) ≤ _; decide) (hb hby at_90) (fun _ _ => ⟨rfl, rfl, (by decide : 1 + 0 ≤ _), (by decide : 8 + 0 ≤ _)⟩)
  dsimp only [Pt.U, Pt.locs, Pt.cells, Pt.slots] at X11 l11 y11 z11 st11 hQ11
  rw [l11, y11, z11] at X11
  obtain ⟨rfl, N11q, e11⟩ := hQ11
  have N11 := Fr.app N10 N11q
  refine Goes.by st11 ?_
  show Goes p.tables e below (T11.setTop (mkF m 93 #[.val (.long pr), .second, .val (.long pa), .second, .val (.long pb), .second, .val (.int pc0), .val (.int ps), .val (.int pw), .val (.long x1), .second, .val (.long x2), .second, .val (.long x3), .second, .val (.int x4), .val (.int x5), .val (.ref b6), .unset, .unset, .unset, .unset] [(.long (fn1 pc0 (2 : Int32) x1 x2 x3)), (.int (2 : Int32)), (.ref b6)])) _
  obtain ⟨_, _, ⟨T12, L12, k12, n12⟩, -, X12, ⟨Lc12, hQ12, l12, y12, z12⟩, st12⟩ := Jvm.LawKit.callS X11 hx (y := (⟨"com/example/xml_graph_join/xmlgraphjoin/labels/PackedSlotsFindPinLaw", "put", "([JIJ)V"⟩ : MethodName)) hown (mvT hZ (hw _ (List.mem_of_getElem? (i := 6) rfl))) (mvT hZ (hw _ (List.mem_of_getElem? (i := 7) rfl))) (mvT hZ (hw _ (List.mem_of_getElem? (i := 4) rfl))) (mvT hZ (hw _ (List.mem_of_getElem? (i := 8) rfl))) (by decide) (backOf (W := 0) (rm2 l Z a0 hw [] b6 (2 : Int32) (fn1 pc0 (2 : Int32) x1 x2 x3) (up (up (fun _ => (0 : Int64)) 0 (fn1 pc0 (0 : Int32) x1 x2 x3)) 1 (fn1 pc0 (1 : Int32) x1 x2 x3)) 2 nl x4 T10.heap n0 Zs10 A_b6 (by decide) (hz) g_b6) hZ (hw _ (List.mem_of_getElem? (i := 8) rfl)) (hw _ (List.mem_of_getElem? (i := 4) rfl)) (by decide) (by decide)) (g := (mkF m 93 #[.val (.long pr), .second, .val (.long pa), .second, .val (.long pb), .second, .val (.int pc0), .val (.int ps), .val (.int pw), .val (.long x1), .second, .val (.long x2), .second, .val (.long x3), .second, .val (.int x4), .val (.int x5), .val (.ref b6), .unset, .unset, .unset, .unset] [(.long (fn1 pc0 (2 : Int32) x1 x2 x3)), (.int (2 : Int32)), (.ref b6)])) rfl (by rw [hml]; rfl) (argsL := [(.ref b6), (.int (2 : Int32)), (.long (fn1 pc0 (2 : Int32) x1 x2 x3))]) (rest := []) (lenOf pd_1 rfl) rfl (by show 2 * 0 + _ ≤ _; exact Nat.le_of_eq rfl) (hb hby at_93) (fun _ _ => ⟨rfl, e11, (by decide : 1 + 0 ≤ _), (by decide : 8 + 0 ≤ _)⟩)
  dsimp only [Pt.U, Pt.locs, Pt.cells, Pt.slots] at X12 l12 y12 z12 st12 hQ12
  rw [l12, y12, z12] at X12
  obtain ⟨rfl, N12q, Kq12, po12_0⟩ := hQ12
  have N12 := Fr.app N11 N12q
  refine Goes.by st12 ?_
  have Zs12 : n0 ≤ T12.heap.size := Nat.le_trans Zs10 Kq12.1
  have K12 : Keep h0 T12.heap [] := K10.trans Kq12 (allS (Or.inr sz_b6) all0)
  have A_b6 : AJ Z T12.heap b6 nl (up (up (up (fun _ => (0 : Int64)) 0 (fn1 pc0 (0 : Int32) x1 x2 x3)) 1 (fn1 pc0 (1 : Int32) x1 x2 x3)) 2 (fn1 pc0 (2 : Int32) x1 x2 x3)) := po12_0
  show Goes p.tables e below (T12.setTop (mkF m 96 #[.val (.long pr), .second, .val (.long pa), .second, .val (.long pb), .second, .val (.int pc0), .val (.int ps), .val (.int pw), .val (.long x1), .second, .val (.long x2), .second, .val (.long x3), .second, .val (.int x4), .val (.int x5), .val (.ref b6), .unset, .unset, .unset, .unset] [])) _
  refine Goes.by (fun _ k => XS.aload X12.here hx rfl (hb hby at_96) rfl rfl k) ?_
  show Goes p.tables e below (T12.setTop (mkF m 98 #[.val (.long pr), .second, .val (.long pa), .second, .val (.long pb), .second, .val (.int pc0), .val (.int ps), .val (.int pw), .val (.long x1), .second, .val (.long x2), .second, .val (.long x3), .second, .val (.int x4), .val (.int x5), .val (.ref b6), .unset, .unset, .unset, .unset] [(.ref b6)])) _
  refine Goes.by (fun _ k => XS.iconst X12.here hx rfl (hb hby at_98) k) ?_
  show Goes p.tables e below (T12.setTop (mkF m 99 #[.val (.long pr), .second, .val (.long pa), .second, .val (.long pb), .second, .val (.int pc0), .val (.int ps), .val (.int pw), .val (.long x1), .second, .val (.long x2), .second, .val (.long x3), .second, .val (.int x4), .val (.int x5), .val (.ref b6), .unset, .unset, .unset, .unset] [(.int (3 : Int32)), (.ref b6)])) _
  refine Goes.by (fun _ k => XS.iload X12.here hx rfl (hb hby at_99) rfl k) ?_
  show Goes p.tables e below (T12.setTop (mkF m 101 #[.val (.long pr), .second, .val (.long pa), .second, .val (.long pb), .second, .val (.int pc0), .val (.int ps), .val (.int pw), .val (.long x1), .second, .val (.long x2), .second, .val (.long x3), .second, .val (.int x4), .val (.int x5), .val (.ref b6), .unset, .unset, .unset, .unset] [(.int pc0), (.int (3 : Int32)), (.ref b6)])) _
  refine Goes.by (fun _ k => XS.iconst X12.here hx rfl (hb hby at_101) k) ?_
  show Goes p.tables e below (T12.setTop (mkF m 102 #[.val (.long pr), .second, .val (.long pa), .second, .val (.long pb), .second, .val (.int pc0), .val (.int ps), .val (.int pw), .val (.long x1), .second, .val (.long x2), .second, .val (.long x3), .second, .val (.int x4), .val (.int x5), .val (.ref b6), .unset, .unset, .unset, .unset] [(.int (3 : Int32)), (.int pc0), (.int (3 : Int32)), (.ref b6)])) _
  refine Goes.by (fun _ k => XS.lload X12.here hx rfl (hb hby at_102) rfl k) ?_
  show Goes p.tables e below (T12.setTop (mkF m 104 #[.val (.long pr), .second, .val (.long pa), .second, .val (.long pb), .second, .val (.int pc0), .val (.int ps), .val (.int pw), .val (.long x1), .second, .val (.long x2), .second, .val (.long x3), .second, .val (.int x4), .val (.int x5), .val (.ref b6), .unset, .unset, .unset, .unset] [(.long x1), (.int (3 : Int32)), (.int pc0), (.int (3 : Int32)), (.ref b6)])) _
  refine Goes.by (fun _ k => XS.lload X12.here hx rfl (hb hby at_104) rfl k) ?_
  show Goes p.tables e below (T12.setTop (mkF m 106 #[.val (.long pr), .second, .val (.long pa), .second, .val (.long pb), .second, .val (.int pc0), .val (.int ps), .val (.int pw), .val (.long x1), .second, .val (.long x2), .second, .val (.long x3), .second, .val (.int x4), .val (.int x5), .val (.ref b6), .unset, .unset, .unset, .unset] [(.long x2), (.long x1), (.int (3 : Int32)), (.int pc0), (.int (3 : Int32)), (.ref b6)])) _
  refine Goes.by (fun _ k => XS.lload X12.here hx rfl (hb hby at_106) rfl k) ?_
  show Goes p.tables e below (T12.setTop (mkF m 108 #[.val (.long pr), .second, .val (.long pa), .second, .val (.long pb), .second, .val (.int pc0), .val (.int ps), .val (.int pw), .val (.long x1), .second, .val (.long x2), .second, .val (.long x3), .second, .val (.int x4), .val (.int x5), .val (.ref b6), .unset, .unset, .unset, .unset] [(.long x3), (.long x2), (.long x1), (.int (3 : Int32)), (.int pc0), (.int (3 : Int32)), (.ref b6)])) _
  obtain ⟨_, _, ⟨T13, L13, k13, n13⟩, -, X13, ⟨Lc13, hQ13, l13, y13, z13⟩, st13⟩ := Jvm.LawKit.callS X12 hx (y := (⟨"com/example/xml_graph_join/xmlgraphjoin/labels/PackedSlotsFindPinLaw", "pick", "(IIJJJ)J"⟩ : MethodName)) hown (mvT hZ (hw _ (List.mem_of_getElem? (i := 2) rfl))) (mvT hZ (hw _ (List.mem_of_getElem? (i := 3) rfl))) (mvT hZ (hw _ (List.mem_of_getElem? (i := 4) rfl))) (mvT hZ (hw _ (List.mem_of_getElem? (i := 5) rfl))) (by decide) (backOf (W := 2) (rm1 l Z a0 hw [] pc0 (3 : Int32) x1 x2 x3 T12.heap n0 Zs12) hZ (hw _ (List.mem_of_getElem? (i := 5) rfl)) (hw _ (List.mem_of_getElem? (i := 4) rfl)) (by decide) (by decide)) (g := (mkF m 108 #[.val (.long pr), .second, .val (.long pa), .second, .val (.long pb), .second, .val (.int pc0), .val (.int ps), .val (.int pw), .val (.long x1), .second, .val (.long x2), .second, .val (.long x3), .second, .val (.int x4), .val (.int x5), .val (.ref b6), .unset, .unset, .unset, .unset] [(.long x3), (.long x2), (.long x1), (.int (3 : Int32)), (.int pc0), (.int (3 : Int32)), (.ref b6)])) rfl (by rw [hml]; rfl) (argsL := [(.int pc0), (.int (3 : Int32)), (.long x1), (.long x2), (.long x3)]) (rest := [(.int (3 : Int32)), (.ref b6)]) (lenOf pd_0 rfl) rfl (by show 2 * 0 + (1 + (1 + 0)) ≤ _; decide) (hb hby at_108) (fun _ _ => ⟨rfl, rfl, (by decide : 1 + 0 ≤ _), (by decide : 8 + 0 ≤ _)⟩)
  dsimp only [Pt.U, Pt.locs, Pt.cells, Pt.slots] at X13 l13 y13 z13 st13 hQ13
  rw [l13, y13, z13] at X13
  obtain ⟨rfl, N13q, e13⟩ := hQ13
  have N13 := Fr.app N12 N13q
  refine Goes.by st13 ?_
  show Goes p.tables e below (T13.setTop (mkF m 111 #[.val (.long pr), .second, .val (.long pa), .second, .val (.long pb), .second, .val (.int pc0), .val (.int ps), .val (.int pw), .val (.long x1), .second, .val (.long x2), .second, .val (.long x3), .second, .val (.int x4), .val (.int x5), .val (.ref b6), .unset, .unset, .unset, .unset] [(.long (fn1 pc0 (3 : Int32) x1 x2 x3)), (.int (3 : Int32)), (.ref b6)])) _
  obtain ⟨_, _, ⟨T14, L14, k14, n14⟩, -, X14, ⟨Lc14, hQ14, l14, y14, z14⟩, st14⟩ := Jvm.LawKit.callS X13 hx (y := (⟨"com/example/xml_graph_join/xmlgraphjoin/labels/PackedSlotsFindPinLaw", "put", "([JIJ)V"⟩ : MethodName)) hown (mvT hZ (hw _ (List.mem_of_getElem? (i := 6) rfl))) (mvT hZ (hw _ (List.mem_of_getElem? (i := 7) rfl))) (mvT hZ (hw _ (List.mem_of_getElem? (i := 4) rfl))) (mvT hZ (hw _ (List.mem_of_getElem? (i := 8) rfl))) (by decide) (backOf (W := 0) (rm2 l Z a0 hw [] b6 (3 : Int32) (fn1 pc0 (3 : Int32) x1 x2 x3) (up (up (up (fun _ => (0 : Int64)) 0 (fn1 pc0 (0 : Int32) x1 x2 x3)) 1 (fn1 pc0 (1 : Int32) x1 x2 x3)) 2 (fn1 pc0 (2 : Int32) x1 x2 x3)) 3 nl x4 T12.heap n0 Zs12 A_b6 (by decide) (hz) g_b6) hZ (hw _ (List.mem_of_getElem? (i := 8) rfl)) (hw _ (List.mem_of_getElem? (i := 4) rfl)) (by decide) (by decide)) (g := (mkF m 111 #[.val (.long pr), .second, .val (.long pa), .second, .val (.long pb), .second, .val (.int pc0), .val (.int ps), .val (.int pw), .val (.long x1), .second, .val (.long x2), .second, .val (.long x3), .second, .val (.int x4), .val (.int x5), .val (.ref b6), .unset, .unset, .unset, .unset] [(.long (fn1 pc0 (3 : Int32) x1 x2 x3)), (.int (3 : Int32)), (.ref b6)])) rfl (by rw [hml]; rfl) (argsL := [(.ref b6), (.int (3 : Int32)), (.long (fn1 pc0 (3 : Int32) x1 x2 x3))]) (rest := []) (lenOf pd_1 rfl) rfl (by show 2 * 0 + _ ≤ _; exact Nat.le_of_eq rfl) (hb hby at_111) (fun _ _ => ⟨rfl, e13, (by decide : 1 + 0 ≤ _), (by decide : 8 + 0 ≤ _)⟩)
  dsimp only [Pt.U, Pt.locs, Pt.cells, Pt.slots] at X14 l14 y14 z14 st14 hQ14
  rw [l14, y14, z14] at X14
  obtain ⟨rfl, N14q, Kq14, po14_0⟩ := hQ14
  have N14 := Fr.app N13 N14q
  refine Goes.by st14 ?_
  have Zs14 : n0 ≤ T14.heap.size := Nat.le_trans Zs12 Kq14.1
  have K14 : Keep h0 T14.heap [] := K12.trans Kq14 (allS (Or.inr sz_b6) all0)
  have A_b6 : AJ Z T14.heap b6 nl (up (up (up (up (fun _ => (0 : Int64)) 0 (fn1 pc0 (0 : Int32) x1 x2 x3)) 1 (fn1 pc0 (1 : Int32) x1 x2 x3)) 2 (fn1 pc0 (2 : Int32) x1 x2 x3)) 3 (fn1 pc0 (3 : Int32) x1 x2 x3)) := po14_0
  show Goes p.tables e below (T14.setTop (mkF m 114 #[.val (.long pr), .second, .val (.long pa), .second, .val (.long pb), .second, .val (.int pc0), .val (.int ps), .val (.int pw), .val (.long x1), .second, .val (.long x2), .second, .val (.long x3), .second, .val (.int x4), .val (.int x5), .val (.ref b6), .unset, .unset, .unset, .unset] [])) _
  refine Goes.by (fun _ k => XS.aload X14.here hx rfl (hb hby at_114) rfl rfl k) ?_
  show Goes p.tables e below (T14.setTop (mkF m 116 #[.val (.long pr), .second, .val (.long pa), .second, .val (.long pb), .second, .val (.int pc0), .val (.int ps), .val (.int pw), .val (.long x1), .second, .val (.long x2), .second, .val (.long x3), .second, .val (.int x4), .val (.int x5), .val (.ref b6), .unset, .unset, .unset, .unset] [(.ref b6)])) _
  refine Goes.by (fun _ k => XS.iconst X14.here hx rfl (hb hby at_116) k) ?_
  show Goes p.tables e below (T14.setTop (mkF m 117 #[.val (.long pr), .second, .val (.long pa), .second, .val (.long pb), .second, .val (.int pc0), .val (.int ps), .val (.int pw), .val (.long x1), .second, .val (.long x2), .second, .val (.long x3), .second, .val (.int x4), .val (.int x5), .val (.ref b6), .unset, .unset, .unset, .unset] [(.int (4 : Int32)), (.ref b6)])) _
  refine Goes.by (fun _ k => XS.iload X14.here hx rfl (hb hby at_117) rfl k) ?_
  show Goes p.tables e below (T14.setTop (mkF m 119 #[.val (.long pr), .second, .val (.long pa), .second, .val (.long pb), .second, .val (.int pc0), .val (.int ps), .val (.int pw), .val (.long x1), .second, .val (.long x2), .second, .val (.long x3), .second, .val (.int x4), .val (.int x5), .val (.ref b6), .unset, .unset, .unset, .unset] [(.int pc0), (.int (4 : Int32)), (.ref b6)])) _
  refine Goes.by (fun _ k => XS.iconst X14.here hx rfl (hb hby at_119) k) ?_
  show Goes p.tables e below (T14.setTop (mkF m 120 #[.val (.long pr), .second, .val (.long pa), .second, .val (.long pb), .second, .val (.int pc0), .val (.int ps), .val (.int pw), .val (.long x1), .second, .val (.long x2), .second, .val (.long x3), .second, .val (.int x4), .val (.int x5), .val (.ref b6), .unset, .unset, .unset, .unset] [(.int (4 : Int32)), (.int pc0), (.int (4 : Int32)), (.ref b6)])) _
  refine Goes.by (fun _ k => XS.lload X14.here hx rfl (hb hby at_120) rfl k) ?_
  show Goes p.tables e below (T14.setTop (mkF m 122 #[.val (.long pr), .second, .val (.long pa), .second, .val (.long pb), .second, .val (.int pc0), .val (.int ps), .val (.int pw), .val (.long x1), .second, .val (.long x2), .second, .val (.long x3), .second, .val (.int x4), .val (.int x5), .val (.ref b6), .unset, .unset, .unset, .unset] [(.long x1), (.int (4 : Int32)), (.int pc0), (.int (4 : Int32)), (.ref b6)])) _
  refine Goes.by (fun _ k => XS.lload X14.here hx rfl (hb hby at_122) rfl k) ?_
  show Goes p.tables e below (T14.setTop (mkF m 124 #[.val (.long pr), .second, .val (.long pa), .second, .val (.long pb), .second, .val (.int pc0), .val (.int ps), .val (.int pw), .val (.long x1), .second, .val (.long x2), .second, .val (.long x3), .second, .val (.int x4), .val (.int x5), .val (.ref b6), .unset, .unset, .unset, .unset] [(.long x2), (.long x1), (.int (4 : Int32)), (.int pc0), (.int (4 : Int32)), (.ref b6)])) _
  refine Goes.by (fun _ k => XS.lload X14.here hx rfl (hb hby at_124) rfl k) ?_
  show Goes p.tables e below (T14.setTop (mkF m 126 #[.val (.long pr), .second, .val (.long pa), .second, .val (.long pb), .second, .val (.int pc0), .val (.int ps), .val (.int pw), .val (.long x1), .second, .val (.long x2), .second, .val (.long x3), .second, .val (.int x4), .val (.int x5), .val (.ref b6), .unset, .unset, .unset, .unset] [(.long x3), (.long x2), (.long x1), (.int (4 : Int32)), (.int pc0), (.int (4 : Int32)), (.ref b6)])) _
  obtain ⟨_, _, ⟨T15, L15, k15, n15⟩, -, X15, ⟨Lc15, hQ15, l15, y15, z15⟩, st15⟩ := Jvm.LawKit.callS X14 hx (y := (⟨"com/example/xml_graph_join/xmlgraphjoin/labels/PackedSlotsFindPinLaw", "pick", "(IIJJJ)J"⟩ : MethodName)) hown (mvT hZ (hw _ (List.mem_of_getElem? (i := 2) rfl))) (mvT hZ (hw _ (List.mem_of_getElem? (i := 3) rfl))) (mvT hZ (hw _ (List.mem_of_getElem? (i := 4) rfl))) (mvT hZ (hw _ (List.mem_of_getElem? (i := 5) rfl))) (by decide) (backOf (W := 2) (rm1 l Z a0 hw [] pc0 (4 : Int32) x1 x2 x3 T14.heap n0 Zs14) hZ (hw _ (List.mem_of_getElem? (i := 5) rfl)) (hw _ (List.mem_of_getElem? (i := 4) rfl)) (by decide) (by decide)) (g := (mkF m 126 #[.val (.long pr), .second, .val (.long pa), .second, .val (.long pb), .second, .val (.int pc0), .val (.int ps), .val (.int pw), .val (.long x1), .second, .val (.long x2), .second, .val (.long x3), .second, .val (.int x4), .val (.int x5), .val (.ref b6), .unset, .unset, .unset, .unset] [(.long x3), (.long x2), (.long x1), (.int (4 : Int32)), (.int pc0), (.int (4 : Int32)), (.ref b6)])) rfl (by rw [hml]; rfl) (argsL := [(.int pc0), (.int (4 : Int32)), (.long x1), (.long x2), (.long x3)]) (rest := [(.int (4 : Int32)), (.ref b6)]) (lenOf pd_0 rfl) rfl (by show 2 * 0 + (1 + (1 + 0)) ≤ _; decide) (hb hby at_126) (fun _ _ => ⟨rfl, rfl, (by decide : 1 + 0 ≤ _), (by decide : 8 + 0 ≤ _)⟩)
  dsimp only [Pt.U, Pt.locs, Pt.cells, Pt.slots] at X15 l15 y15 z15 st15 hQ15
  rw [l15, y15, z15] at X15
  obtain ⟨rfl, N15q, e15⟩ := hQ15
  have N15 := Fr.app N14 N15q
  refine Goes.by st15 ?_
  show Goes p.tables e below (T15.setTop (mkF m 129 #[.val (.long pr), .second, .val (.long pa), .second, .val (.long pb), .second, .val (.int pc0), .val (.int ps), .val (.int pw), .val (.long x1), .second, .val (.long x2), .second, .val (.long x3), .second, .val (.int x4), .val (.int x5), .val (.ref b6), .unset, .unset, .unset, .unset] [(.long (fn1 pc0 (4 : Int32) x1 x2 x3)), (.int (4 : Int32)), (.ref b6)])) _
  obtain ⟨_, _, ⟨T16, L16, k16, n16⟩, -, X16, ⟨Lc16, hQ16, l16, y16, z16⟩, st16⟩ := Jvm.LawKit.callS X15 hx (y := (⟨"com/example/xml_graph_join/xmlgraphjoin/labels/PackedSlotsFindPinLaw", "put", "([JIJ)V"⟩ : MethodName)) hown (mvT hZ (hw _ (List.mem_of_getElem? (i := 6) rfl))) (mvT hZ (hw _ (List.mem_of_getElem? (i := 7) rfl))) (mvT hZ (hw _ (List.mem_of_getElem? (i := 4) rfl))) (mvT hZ (hw _ (List.mem_of_getElem? (i := 8) rfl))) (by decide) (backOf (W := 0) (rm2 l Z a0 hw [] b6 (4 : Int32) (fn1 pc0 (4 : Int32) x1 x2 x3) (up (up (up (up (fun _ => (0 : Int64)) 0 (fn1 pc0 (0 : Int32) x1 x2 x3)) 1 (fn1 pc0 (1 : Int32) x1 x2 x3)) 2 (fn1 pc0 (2 : Int32) x1 x2 x3)) 3 (fn1 pc0 (3 : Int32) x1 x2 x3)) 4 nl x4 T14.heap n0 Zs14 A_b6 (by decide) (hz) g_b6) hZ (hw _ (List.mem_of_getElem? (i := 8) rfl)) (hw _ (List.mem_of_getElem? (i := 4) rfl)) (by decide) (by decide)) (g := (mkF m 129 #[.val (.long pr), .second, .val (.long pa), .second, .val (.long pb), .second, .val (.int pc0), .val (.int ps), .val (.int pw), .val (.long x1), .second, .val (.long x2), .second, .val (.long x3), .second, .val (.int x4), .val (.int x5), .val (.ref b6), .unset, .unset, .unset, .unset] [(.long (fn1 pc0 (4 : Int32) x1 x2 x3)), (.int (4 : Int32)), (.ref b6)])) rfl (by rw [hml]; rfl) (argsL := [(.ref b6), (.int (4 : Int32)), (.long (fn1 pc0 (4 : Int32) x1 x2 x3))]) (rest := []) (lenOf pd_1 rfl) rfl (by show 2 * 0 + _ ≤ _; exact Nat.le_of_eq rfl) (hb hby at_129) (fun _ _ => ⟨rfl, e15, (by decide : 1 + 0 ≤ _), (by decide : 8 + 0 ≤ _)⟩)
  dsimp only [Pt.U, Pt.locs, Pt.cells, Pt.slots] at X16 l16 y16 z16 st16 hQ16
  rw [l16, y16, z16] at X16
  obtain ⟨rfl, N16q, Kq16, po16_0⟩ := hQ16
  have N16 := Fr.app N15 N16q
  refine Goes.by st16 ?_
  have Zs16 : n0 ≤ T16.heap.size := Nat.le_trans Zs14 Kq16.1
  have K16 : Keep h0 T16.heap [] := K14.trans Kq16 (allS (Or.inr sz_b6) all0)
  have A_b6 : AJ Z T16.heap b6 nl (up (up (up (up (up (fun _ => (0 : Int64)) 0 (fn1 pc0 (0 : Int32) x1 x2 x3)) 1 (fn1 pc0 (1 : Int32) x1 x2 x3)) 2 (fn1 pc0 (2 : Int32) x1 x2 x3)) 3 (fn1 pc0 (3 : Int32) x1 x2 x3)) 4 (fn1 pc0 (4 : Int32) x1 x2 x3)) := po16_0
  show Goes p.tables e below (T16.setTop (mkF m 132 #[.val (.long pr), .second, .val (.long pa), .second, .val (.long pb), .second, .val (.int pc0), .val (.int ps), .val (.int pw), .val (.long x1), .second, .val (.long x2), .second, .val (.long x3), .second, .val (.int x4), .val (.int x5), .val (.ref b6), .unset, .unset, .unset, .unset] [])) _
  refine Goes.by (fun _ k => XS.aload X16.here hx rfl (hb hby at_132) rfl rfl k) ?_
  show Goes p.tables e below (T16.setTop (mkF m 134 #[.val (.long pr), .second, .val (.long pa), .second, .val (.long pb), .second, .val (.int pc0), .val (.int ps), .val (.int pw), .val (.long x1), .second, .val (.long x2), .second, .val (.long x3), .second, .val (.int x4), .val (.int x5), .val (.ref b6), .unset, .unset, .unset, .unset] [(.ref b6)])) _
  refine Goes.by (fun _ k => XS.iconst X16.here hx rfl (hb hby at_134) k) ?_
  show Goes p.tables e below (T16.setTop (mkF m 135 #[.val (.long pr), .second, .val (.long pa), .second, .val (.long pb), .second, .val (.int pc0), .val (.int ps), .val (.int pw), .val (.long x1), .second, .val (.long x2), .second, .val (.long x3), .second, .val (.int x4), .val (.int x5), .val (.ref b6), .unset, .unset, .unset, .unset] [(.int (5 : Int32)), (.ref b6)])) _
  refine Goes.by (fun _ k => XS.iload X16.here hx rfl (hb hby at_135) rfl k) ?_
  show Goes p.tables e below (T16.setTop (mkF m 137 #[.val (.long pr), .second, .val (.long pa), .second, .val (.long pb), .second, .val (.int pc0), .val (.int ps), .val (.int pw), .val (.long x1), .second, .val (.long x2), .second, .val (.long x3), .second, .val (.int x4), .val (.int x5), .val (.ref b6), .unset, .unset, .unset, .unset] [(.int pc0), (.int (5 : Int32)), (.ref b6)])) _
  refine Goes.by (fun _ k => XS.iconst X16.here hx rfl (hb hby at_137) k) ?_
  show Goes p.tables e below (T16.setTop (mkF m 138 #[.val (.long pr), .second, .val (.long pa), .second, .val (.long pb), .second, .val (.int pc0), .val (.int ps), .val (.int pw), .val (.long x1), .second, .val (.long x2), .second, .val (.long x3), .second, .val (.int x4), .val (.int x5), .val (.ref b6), .unset, .unset, .unset, .unset] [(.int (5 : Int32)), (.int pc0), (.int (5 : Int32)), (.ref b6)])) _
  refine Goes.by (fun _ k => XS.lload X16.here hx rfl (hb hby at_138) rfl k) ?_
  show Goes p.tables e below (T16.setTop (mkF m 140 #[.val (.long pr), .second, .val (.long pa), .second, .val (.long pb), .second, .val (.int pc0), .val (.int ps), .val (.int pw), .val (.long x1), .second, .val (.long x2), .second, .val (.long x3), .second, .val (.int x4), .val (.int x5), .val (.ref b6), .unset, .unset, .unset, .unset] [(.long x1), (.int (5 : Int32)), (.int pc0), (.int (5 : Int32)), (.ref b6)])) _
  refine Goes.by (fun _ k => XS.lload X16.here hx rfl (hb hby at_140) rfl k) ?_
  show Goes p.tables e below (T16.setTop (mkF m 142 #[.val (.long pr), .second, .val (.long pa), .second, .val (.long pb), .second, .val (.int pc0), .val (.int ps), .val (.int pw), .val (.long x1), .second, .val (.long x2), .second, .val (.long x3), .second, .val (.int x4), .val (.int x5), .val (.ref b6), .unset, .unset, .unset, .unset] [(.long x2), (.long x1), (.int (5 : Int32)), (.int pc0), (.int (5 : Int32)), (.ref b6)])) _
  refine Goes.by (fun _ k => XS.lload X16.here hx rfl (hb hby at_142) rfl k) ?_
  show Goes p.tables e below (T16.setTop (mkF m 144 #[.val (.long pr), .second, .val (.long pa), .second, .val (.long pb), .second, .val (.int pc0), .val (.int ps), .val (.int pw), .val (.long x1), .second, .val (.long x2), .second, .val (.long x3), .second, .val (.int x4), .val (.int x5), .val (.ref b6), .unset, .unset, .unset, .unset] [(.long x3), (.long x2), (.long x1), (.int (5 : Int32)), (.int pc0), (.int (5 : Int32)), (.ref b6)])) _
  obtain ⟨_, _, ⟨T17, L17, k17, n17⟩, -, X17, ⟨Lc17, hQ17, l17, y17, z17⟩, st17⟩ := Jvm.LawKit.callS X16 hx (y := (⟨"com/example/xml_graph_join/xmlgraphjoin/labels/PackedSlotsFindPinLaw", "pick", "(IIJJJ)J"⟩ : MethodName)) hown (mvT hZ (hw _ (List.mem_of_getElem? (i := 2) rfl))) (mvT hZ (hw _ (List.mem_of_getElem? (i := 3) rfl))) (mvT hZ (hw _ (List.mem_of_getElem? (i := 4) rfl))) (mvT hZ (hw _ (List.mem_of_getElem? (i := 5) rfl))) (by decide) (backOf (W := 2) (rm1 l Z a0 hw [] pc0 (5 : Int32) x1 x2 x3 T16.heap n0 Zs16) hZ (hw _ (List.mem_of_getElem? (i := 5) rfl)) (hw _ (List.mem_of_getElem? (i := 4) rfl)) (by decide) (by decide)) (g := (mkF m 144 #[.val (.long pr), .second, .val (.long pa), .second, .val (.long pb), .second, .val (.int pc0), .val (.int ps), .val (.int pw), .val (.long x1), .second, .val (.long x2), .second, .val (.long x3), .second, .val (.int x4), .val (.int x5), .val (.ref b6), .unset, .unset, .unset, .unset] [(.long x3), (.long x2), (.long x1), (.int (5 : Int32)), (.int pc0), (.int (5 : Int32)), (.ref b6)])) rfl (by rw [hml]; rfl) (argsL := [(.int pc0), (.int (5 : Int32)), (.long x1), (.long x2), (.long x3)]) (rest := [(.int (5 : Int32)), (.ref b6)]) (lenOf pd_0 rfl) rfl (by show 2 * 0 + (1 + (1 + 0)) ≤ _; decide) (hb hby at_144) (fun _ _ => ⟨rfl, rfl, (by decide : 1 + 0 ≤ _), (by decide : 8 + 0 ≤ _)⟩)
  dsimp only [Pt.U, Pt.locs, Pt.cells, Pt.slots] at X17 l17 y17 z17 st17 hQ17
  rw [l17, y17, z17] at X17
  obtain ⟨rfl, N17q, e17⟩ := hQ17
  have N17 := Fr.app N16 N17q
  refine Goes.by st17 ?_
  show Goes p.tables e below (T17.setTop (mkF m 147 #[.val (.long pr), .second, .val (.long pa), .second, .val (.long pb), .second, .val (.int pc0), .val (.int ps), .val (.int pw), .val (.long x1), .second, .val (.long x2), .second, .val (.long x3), .second, .val (.int x4), .val (.int x5), .val (.ref b6), .unset, .unset, .unset, .unset] [(.long (fn1 pc0 (5 : Int32) x1 x2 x3)), (.int (5 : Int32)), (.ref b6)])) _
  obtain ⟨_, _, ⟨T18, L18, k18, n18⟩, -, X18, ⟨Lc18, hQ18, l18, y18, z18⟩, st18⟩ := Jvm.LawKit.callS X17 hx (y := (⟨"com/example/xml_graph_join/xmlgraphjoin/labels/PackedSlotsFindPinLaw", "put", "([JIJ)V"⟩ : MethodName)) hown (mvT hZ (hw _ (List.mem_of_getElem? (i := 6) rfl))) (mvT hZ (hw _ (List.mem_of_getElem? (i := 7) rfl))) (mvT hZ (hw _ (List.mem_of_getElem? (i := 4) rfl))) (mvT hZ (hw _ (List.mem_of_getElem? (i := 8) rfl))) (by decide) (backOf (W := 0) (rm2 l Z a0 hw [] b6 (5 : Int32) (fn1 pc0 (5 : Int32) x1 x2 x3) (up (up (up (up (up (fun _ => (0 : Int64)) 0 (fn1 pc0 (0 : Int32) x1 x2 x3)) 1 (fn1 pc0 (1 : Int32) x1 x2 x3)) 2 (fn1 pc0 (2 : Int32) x1 x2 x3)) 3 (fn1 pc0 (3 : Int32) x1 x2 x3)) 4 (fn1 pc0 (4 : Int32) x1 x2 x3)) 5 nl x4 T16.heap n0 Zs16 A_b6 (by decide) (hz) g_b6) hZ (hw _ (List.mem_of_getElem? (i := 8) rfl)) (hw _ (List.mem_of_getElem? (i := 4) rfl)) (by decide) (by decide)) (g := (mkF m 147 #[.val (.long pr), .second, .val (.long pa), .second, .val (.long pb), .second, .val (.int pc0), .val (.int ps), .val (.int pw), .val (.long x1), .second, .val (.long x2), .second, .val (.long x3), .second, .val (.int x4), .val (.int x5), .val (.ref b6), .unset, .unset, .unset, .unset] [(.long (fn1 pc0 (5 : Int32) x1 x2 x3)), (.int (5 : Int32)), (.ref b6)])) rfl (by rw [hml]; rfl) (argsL := [(.ref b6), (.int (5 : Int32)), (.long (fn1 pc0 (5 : Int32) x1 x2 x3))]) (rest := []) (lenOf pd_1 rfl) rfl (by show 2 * 0 + _ ≤ _; exact Nat.le_of_eq rfl) (hb hby at_147) (fun _ _ => ⟨rfl, e17, (by decide : 1 + 0 ≤ _), (by decide : 8 + 0 ≤ _)⟩)
  dsimp only [Pt.U, Pt.locs, Pt.cells, Pt.slots] at X18 l18 y18 z18 st18 hQ18
  rw [l18, y18, z18] at X18
  obtain ⟨rfl, N18q, Kq18, po18_0⟩ := hQ18
  have N18 := Fr.app N17 N18q
  refine Goes.by st18 ?_
  have Zs18 : n0 ≤ T18.heap.size := Nat.le_trans Zs16 Kq18.1
  have K18 : Keep h0 T18.heap [] := K16.trans Kq18 (allS (Or.inr sz_b6) all0)
  have A_b6 : AJ Z T18.heap b6 nl (up (up (up (up (up (up (fun _ => (0 : Int64)) 0 (fn1 pc0 (0 : Int32) x1 x2 x3)) 1 (fn1 pc0 (1 : Int32) x1 x2 x3)) 2 (fn1 pc0 (2 : Int32) x1 x2 x3)) 3 (fn1 pc0 (3 : Int32) x1 x2 x3)) 4 (fn1 pc0 (4 : Int32) x1 x2 x3)) 5 (fn1 pc0 (5 : Int32) x1 x2 x3)) := po18_0
  show Goes p.tables e below (T18.setTop (mkF m 150 #[.val (.long pr), .second, .val (.long pa), .second, .val (.long pb), .second, .val (.int pc0), .val (.int ps), .val (.int pw), .val (.long x1), .second, .val (.long x2), .second, .val (.long x3), .second, .val (.int x4), .val (.int x5), .val (.ref b6), .unset, .unset, .unset, .unset] [])) _
  refine Goes.by (fun _ k => XS.aload X18.here hx rfl (hb hby at_150) rfl rfl k) ?_
  show Goes p.tables e below (T18.setTop (mkF m 152 #[.val (.long pr), .second, .val (.long pa), .second, .val (.long pb), .second, .val (.int pc0), .val (.int ps), .val (.int pw), .val (.long x1), .second, .val (.long x2), .second, .val (.long x3), .second, .val (.int x4), .val (.int x5), .val (.ref b6), .unset, .unset, .unset, .unset] [(.ref b6)])) _
  refine Goes.by (fun _ k => XS.bipush X18.here hx rfl (hb hby at_152) k) ?_
  show Goes p.tables e below (T18.setTop (mkF m 154 #[.val (.long pr), .second, .val (.long pa), .second, .val (.long pb), .second, .val (.int pc0), .val (.int ps), .val (.int pw), .val (.long x1), .second, .val (.long x2), .second, .val (.long x3), .second, .val (.int x4), .val (.int x5), .val (.ref b6), .unset, .unset, .unset, .unset] [(.int (6 : Int32)), (.ref b6)])) _
  refine Goes.by (fun _ k => XS.iload X18.here hx rfl (hb hby at_154) rfl k) ?_
  show Goes p.tables e below (T18.setTop (mkF m 156 #[.val (.long pr), .second, .val (.long pa), .second, .val (.long pb), .second, .val (.int pc0), .val (.int ps), .val (.int pw), .val (.long x1), .second, .val (.long x2), .second, .val (.long x3), .second, .val (.int x4), .val (.int x5), .val (.ref b6), .unset, .unset, .unset, .unset] [(.int pc0), (.int (6 : Int32)), (.ref b6)])) _
  refine Goes.by (fun _ k => XS.bipush X18.here hx rfl (hb hby at_156) k) ?_
  show Goes p.tables e below (T18.setTop (mkF m 158 #[.val (.long pr), .second, .val (.long pa), .second, .val (.long pb), .second, .val (.int pc0), .val (.int ps), .val (.int pw), .val (.long x1), .second, .val (.long x2), .second, .val (.long x3), .second, .val (.int x4), .val (.int x5), .val (.ref b6), .unset, .unset, .unset, .unset] [(.int (6 : Int32)), (.int pc0), (.int (6 : Int32)), (.ref b6)])) _
  refine Goes.by (fun _ k => XS.lload X18.here hx rfl (hb hby at_158) rfl k) ?_
  show Goes p.tables e below (T18.setTop (mkF m 160 #[.val (.long pr), .second, .val (.long pa), .second, .val (.long pb), .second, .val (.int pc0), .val (.int ps), .val (.int pw), .val (.long x1), .second, .val (.long x2), .second, .val (.long x3), .second, .val (.int x4), .val (.int x5), .val (.ref b6), .unset, .unset, .unset, .unset] [(.long x1), (.int (6 : Int32)), (.int pc0), (.int (6 : Int32)), (.ref b6)])) _
  refine Goes.by (fun _ k => XS.lload X18.here hx rfl (hb hby at_160) rfl k) ?_
  show Goes p.tables e below (T18.setTop (mkF m 162 #[.val (.long pr), .second, .val (.long pa), .second, .val (.long pb), .second, .val (.int pc0), .val (.int ps), .val (.int pw), .val (.long x1), .second, .val (.long x2), .second, .val (.long x3), .second, .val (.int x4), .val (.int x5), .val (.ref b6), .unset, .unset, .unset, .unset] [(.long x2), (.long x1), (.int (6 : Int32)), (.int pc0), (.int (6 : Int32)), (.ref b6)])) _
  refine Goes.by (fun _ k => XS.lload X18.here hx rfl (hb hby at_162) rfl k) ?_
  show Goes p.tables e below (T18.setTop (mkF m 164 #[.val (.long pr), .second, .val (.long pa), .second, .val (.long pb), .second, .val (.int pc0), .val (.int ps), .val (.int pw), .val (.long x1), .second, .val (.long x2), .second, .val (.long x3), .second, .val (.int x4), .val (.int x5), .val (.ref b6), .unset, .unset, .unset, .unset] [(.long x3), (.long x2), (.long x1), (.int (6 : Int32)), (.int pc0), (.int (6 : Int32)), (.ref b6)])) _
  obtain ⟨_, _, ⟨T19, L19, k19, n19⟩, -, X19, ⟨Lc19, hQ19, l19, y19, z19⟩, st19⟩ := Jvm.LawKit.callS X18 hx (y := (⟨"com/example/xml_graph_join/xmlgraphjoin/labels/PackedSlotsFindPinLaw", "pick", "(IIJJJ)J"⟩ : MethodName)) hown (mvT hZ (hw _ (List.mem_of_getElem? (i := 2) rfl))) (mvT hZ (hw _ (List.mem_of_getElem? (i := 3) rfl))) (mvT hZ (hw _ (List.mem_of_getElem? (i := 4) rfl))) (mvT hZ (hw _ (List.mem_of_getElem? (i := 5) rfl))) (by decide) (backOf (W := 2) (rm1 l Z a0 hw [] pc0 (6 : Int32) x1 x2 x3 T18.heap n0 Zs18) hZ (hw _ (List.mem_of_getElem? (i := 5) rfl)) (hw _ (List.mem_of_getElem? (i := 4) rfl)) (by decide) (by decide)) (g := (mkF m 164 #[.val (.long pr), .second, .val (.long pa), .second, .val (.long pb), .second, .val (.int pc0), .val (.int ps), .val (.int pw), .val (.long x1), .second, .val (.long x2), .second, .val (.long x3), .second, .val (.int x4), .val (.int x5), .val (.ref b6), .unset, .unset, .unset, .unset] [(.long x3), (.long x2), (.long x1), (.int (6 : Int32)), (.int pc0), (.int (6 : Int32)), (.ref b6)])) rfl (by rw [hml]; rfl) (argsL := [(.int pc0), (.int (6 : Int32)), (.long x1), (.long x2), (.long x3)]) (rest := [(.int (6 : Int32)), (.ref b6)]) (lenOf pd_0 rfl) rfl (by show 2 * 0 + (1 + (1 + 0)) ≤ _; decide) (hb hby at_164) (fun _ _ => ⟨rfl, rfl, (by decide : 1 + 0 ≤ _), (by decide : 8 + 0 ≤ _)⟩)
  dsimp only [Pt.U, Pt.locs, Pt.cells, Pt.slots] at X19 l19 y19 z19 st19 hQ19
  rw [l19, y19, z19] at X19
  obtain ⟨rfl, N19q, e19⟩ := hQ19
  have N19 := Fr.app N18 N19q
  refine Goes.by st19 ?_
  show Goes p.tables e below (T19.setTop (mkF m 167 #[.val (.long pr), .second, .val (.long pa), .second, .val (.long pb), .second, .val (.int pc0), .val (.int ps), .val (.int pw), .val (.long x1), .second, .val (.long x2), .second, .val (.long x3), .second, .val (.int x4), .val (.int x5), .val (.ref b6), .unset, .unset, .unset, .unset] [(.long (fn1 pc0 (6 : Int32) x1 x2 x3)), (.int (6 : Int32)), (.ref b6)])) _
  obtain ⟨_, _, ⟨T20, L20, k20, n20⟩, -, X20, ⟨Lc20, hQ20, l20, y20, z20⟩, st20⟩ := Jvm.LawKit.callS X19 hx (y := (⟨"com/example/xml_graph_join/xmlgraphjoin/labels/PackedSlotsFindPinLaw", "put", "([JIJ)V"⟩ : MethodName)) hown (mvT hZ (hw _ (List.mem_of_getElem? (i := 6) rfl))) (mvT hZ (hw _ (List.mem_of_getElem? (i := 7) rfl))) (mvT hZ (hw _ (List.mem_of_getElem? (i := 4) rfl))) (mvT hZ (hw _ (List.mem_of_getElem? (i := 8) rfl))) (by decide) (backOf (W := 0) (rm2 l Z a0 hw [] b6 (6 : Int32) (fn1 pc0 (6 : Int32) x1 x2 x3) (up (up (up (up (up (up (fun _ => (0 : Int64)) 0 (fn1 pc0 (0 : Int32) x1 x2 x3)) 1 (fn1 pc0 (1 : Int32) x1 x2 x3)) 2 (fn1 pc0 (2 : Int32) x1 x2 x3)) 3 (fn1 pc0 (3 : Int32) x1 x2 x3)) 4 (fn1 pc0 (4 : Int32) x1 x2 x3)) 5 (fn1 pc0 (5 : Int32) x1 x2 x3)) 6 nl x4 T18.heap n0 Zs18 A_b6 (by decide) (hz) g_b6) hZ (hw _ (List.mem_of_getElem? (i := 8) rfl)) (hw _ (List.mem_of_getElem? (i := 4) rfl)) (by decide) (by decide)) (g := (mkF m 167 #[.val (.long pr), .second, .val (.long pa), .second, .val (.long pb), .second, .val (.int pc0), .val (.int ps), .val (.int pw), .val (.long x1), .second, .val (.long x2), .second, .val (.long x3), .second, .val (.int x4), .val (.int x5), .val (.ref b6), .unset, .unset, .unset, .unset] [(.long (fn1 pc0 (6 : Int32) x1 x2 x3)), (.int (6 : Int32)), (.ref b6)])) rfl (by rw [hml]; rfl) (argsL := [(.ref b6), (.int (6 : Int32)), (.long (fn1 pc0 (6 : Int32) x1 x2 x3))]) (rest := []) (lenOf pd_1 rfl) rfl (by show 2 * 0 + _ ≤ _; exact Nat.le_of_eq rfl) (hb hby at_167) (fun _ _ => ⟨rfl, e19, (by decide : 1 + 0 ≤ _), (by decide : 8 + 0 ≤ _)⟩)
  dsimp only [Pt.U, Pt.locs, Pt.cells, Pt.slots] at X20 l20 y20 z20 st20 hQ20
  rw [l20, y20, z20] at X20
  obtain ⟨rfl, N20q, Kq20, po20_0⟩ := hQ20
  have N20 := Fr.app N19 N20q
  refine Goes.by st20 ?_
  have Zs20 : n0 ≤ T20.heap.size := Nat.le_trans Zs18 Kq20.1
  have K20 : Keep h0 T20.heap [] := K18.trans Kq20 (allS (Or.inr sz_b6) all0)
  have A_b6 : AJ Z T20.heap b6 nl (up (up (up (up (up (up (up (fun _ => (0 : Int64)) 0 (fn1 pc0 (0 : Int32) x1 x2 x3)) 1 (fn1 pc0 (1 : Int32) x1 x2 x3)) 2 (fn1 pc0 (2 : Int32) x1 x2 x3)) 3 (fn1 pc0 (3 : Int32) x1 x2 x3)) 4 (fn1 pc0 (4 : Int32) x1 x2 x3)) 5 (fn1 pc0 (5 : Int32) x1 x2 x3)) 6 (fn1 pc0 (6 : Int32) x1 x2 x3)) := po20_0
  show Goes p.tables e below (T20.setTop (mkF m 170 #[.val (.long pr), .second, .val (.long pa), .second, .val (.long pb), .second, .val (.int pc0), .val (.int ps), .val (.int pw), .val (.long x1), .second, .val (.long x2), .second, .val (.long x3), .second, .val (.int x4), .val (.int x5), .val (.ref b6), .unset, .unset, .unset, .unset] [])) _
  refine Goes.by (fun _ k => XS.aload X20.here hx rfl (hb hby at_170) rfl rfl k) ?_
  show Goes p.tables e below (T20.setTop (mkF m 172 #[.val (.long pr), .second, .val (.long pa), .second, .val (.long pb), .second, .val (.int pc0), .val (.int ps), .val (.int pw), .val (.long x1), .second, .val (.long x2), .second, .val (.long x3), .second, .val (.int x4), .val (.int x5), .val (.ref b6), .unset, .unset, .unset, .unset] [(.ref b6)])) _
  refine Goes.by (fun _ k => XS.bipush X20.here hx rfl (hb hby at_172) k) ?_
  show Goes p.tables e below (T20.setTop (mkF m 174 #[.val (.long pr), .second, .val (.long pa), .second, .val (.long pb), .second, .val (.int pc0), .val (.int ps), .val (.int pw), .val (.long x1), .second, .val (.long x2), .second, .val (.long x3), .second, .val (.int x4), .val (.int x5), .val (.ref b6), .unset, .unset, .unset, .unset] [(.int (7 : Int32)), (.ref b6)])) _
  refine Goes.by (fun _ k => XS.iload X20.here hx rfl (hb hby at_174) rfl k) ?_
  show Goes p.tables e below (T20.setTop (mkF m 176 #[.val (.long pr), .second, .val (.long pa), .second, .val (.long pb), .second, .val (.int pc0), .val (.int ps), .val (.int pw), .val (.long x1), .second, .val (.long x2), .second, .val (.long x3), .second, .val (.int x4), .val (.int x5), .val (.ref b6), .unset, .unset, .unset, .unset] [(.int pc0), (.int (7 : Int32)), (.ref b6)])) _
  refine Goes.by (fun _ k => XS.bipush X20.here hx rfl (hb hby at_176) k) ?_
  show Goes p.tables e below (T20.setTop (mkF m 178 #[.val (.long pr), .second, .val (.long pa), .second, .val (.long pb), .second, .val (.int pc0), .val (.int ps), .val (.int pw), .val (.long x1), .second, .val (.long x2), .second, .val (.long x3), .second, .val (.int x4), .val (.int x5), .val (.ref b6), .unset, .unset, .unset, .unset] [(.int (7 : Int32)), (.int pc0), (.int (7 : Int32)), (.ref b6)])) _
  refine Goes.by (fun _ k => XS.lload X20.here hx rfl (hb hby at_178) rfl k) ?_
  show Goes p.tables e below (T20.setTop (mkF m 180 #[.val (.long pr), .second, .val (.long pa), .second, .val (.long pb), .second, .val (.int pc0), .val (.int ps), .val (.int pw), .val (.long x1), .second, .val (.long x2), .second, .val (.long x3), .second, .val (.int x4), .val (.int x5), .val (.ref b6), .unset, .unset, .unset, .unset] [(.long x1), (.int (7 : Int32)), (.int pc0), (.int (7 : Int32)), (.ref b6)])) _
  refine Goes.by (fun _ k => XS.lload X20.here hx rfl (hb hby at_180) rfl k) ?_
  show Goes p.tables e below (T20.setTop (mkF m 182 #[.val (.long pr), .second, .val (.long pa), .second, .val (.long pb), .second, .val (.int pc0), .val (.int ps), .val (.int pw), .val (.long x1), .second, .val (.long x2), .second, .val (.long x3), .second, .val (.int x4), .val (.int x5), .val (.ref b6), .unset, .unset, .unset, .unset] [(.long x2), (.long x1), (.int (7 : Int32)), (.int pc0), (.int (7 : Int32)), (.ref b6)])) _
  refine Goes.by (fun _ k => XS.lload X20.here hx rfl (hb hby at_182) rfl k) ?_
  show Goes p.tables e below (T20.setTop (mkF m 184 #[.val (.long pr), .second, .val (.long pa), .second, .val (.long pb), .second, .val (.int pc0), .val (.int ps), .val (.int pw), .val (.long x1), .second, .val (.long x2), .second, .val (.long x3), .second, .val (.int x4), .val (.int x5), .val (.ref b6), .unset, .unset, .unset, .unset] [(.long x3), (.long x2), (.long x1), (.int (7 : Int32)), (.int pc0), (.int (7 : Int32)), (.ref b6)])) _
  obtain ⟨_, _, ⟨T21, L21, k21, n21⟩, -, X21, ⟨Lc21, hQ21, l21, y21, z21⟩, st21⟩ := Jvm.LawKit.callS X20 hx (y := (⟨"com/example/xml_graph_join/xmlgraphjoin/labels/PackedSlotsFindPinLaw", "pick", "(IIJJJ)J"⟩ : MethodName)) hown (mvT hZ (hw _ (List.mem_of_getElem? (i := 2) rfl))) (mvT hZ (hw _ (List.mem_of_getElem? (i := 3) rfl))) (mvT hZ (hw _ (List.mem_of_getElem? (i := 4) rfl))) (mvT hZ (hw _ (List.mem_of_getElem? (i := 5) rfl))) (by decide) (backOf (W := 2) (rm1 l Z a0 hw [] pc0 (7 : Int32) x1 x2 x3 T20.heap n0 Zs20) hZ (hw _ (List.mem_of_getElem? (i := 5) rfl)) (hw _ (List.mem_of_getElem? (i := 4) rfl)) (by decide) (by decide)) (g := (mkF m 184 #[.val (.long pr), .second, .val (.long pa), .second, .val (.long pb), .second, .val (.int pc0), .val (.int ps), .val (.int pw), .val (.long x1), .second, .val (.long x2), .second, .val (.long x3), .second, .val (.int x4), .val (.int x5), .val (.ref b6), .unset, .unset, .unset, .unset] [(.long x3), (.long x2), (.long x1), (.int (7 : Int32)), (.int pc0), (.int (7 : Int32)), (.ref b6)])) rfl (by rw [hml]; rfl) (argsL := [(.int pc0), (.int (7 : Int32)), (.long x1), (.long x2), (.long x3)]) (rest := [(.int (7 : Int32)), (.ref b6)]) (lenOf pd_0 rfl) rfl (by show 2 * 0 + (1 + (1 + 0)) ≤ _; decide) (hb hby at_184) (fun _ _ => ⟨rfl, rfl, (by decide : 1 + 0 ≤ _), (by decide : 8 + 0 ≤ _)⟩)
  dsimp only [Pt.U, Pt.locs, Pt.cells, Pt.slots] at X21 l21 y21 z21 st21 hQ21
  rw [l21, y21, z21] at X21
  obtain ⟨rfl, N21q, e21⟩ := hQ21
  have N21 := Fr.app N20 N21q
  refine Goes.by st21 ?_
  show Goes p.tables e below (T21.setTop (mkF m 187 #[.val (.long pr), .second, .val (.long pa), .second, .val (.long pb), .second, .val (.int pc0), .val (.int ps), .val (.int pw), .val (.long x1), .second, .val (.long x2), .second, .val (.long x3), .second, .val (.int x4), .val (.int x5), .val (.ref b6), .unset, .unset, .unset, .unset] [(.long (fn1 pc0 (7 : Int32) x1 x2 x3)), (.int (7 : Int32)), (.ref b6)])) _
  obtain ⟨_, _, ⟨T22, L22, k22, n22⟩, -, X22, ⟨Lc22, hQ22, l22, y22, z22⟩, st22⟩ := Jvm.LawKit.callS X21 hx (y := (⟨"com/example/xml_graph_join/xmlgraphjoin/labels/PackedSlotsFindPinLaw", "put", "([JIJ)V"⟩ : MethodName)) hown (mvT hZ (hw _ (List.mem_of_getElem? (i := 6) rfl))) (mvT hZ (hw _ (List.mem_of_getElem? (i := 7) rfl))) (mvT hZ (hw _ (List.mem_of_getElem? (i := 4) rfl))) (mvT hZ (hw _ (List.mem_of_getElem? (i := 8) rfl))) (by decide) (backOf (W := 0) (rm2 l Z a0 hw [] b6 (7 : Int32) (fn1 pc0 (7 : Int32) x1 x2 x3) (up (up (up (up (up (up (up (fun _ => (0 : Int64)) 0 (fn1 pc0 (0 : Int32) x1 x2 x3)) 1 (fn1 pc0 (1 : Int32) x1 x2 x3)) 2 (fn1 pc0 (2 : Int32) x1 x2 x3)) 3 (fn1 pc0 (3 : Int32) x1 x2 x3)) 4 (fn1 pc0 (4 : Int32) x1 x2 x3)) 5 (fn1 pc0 (5 : Int32) x1 x2 x3)) 6 (fn1 pc0 (6 : Int32) x1 x2 x3)) 7 nl x4 T20.heap n0 Zs20 A_b6 (by decide) (hz) g_b6) hZ (hw _ (List.mem_of_getElem? (i := 8) rfl)) (hw _ (List.mem_of_getElem? (i := 4) rfl)) (by decide) (by decide)) (g := (mkF m 187 #[.val (.long pr), .second, .val (.long pa), .second, .val (.long pb), .second, .val (.int pc0), .val (.int ps), .val (.int pw), .val (.long x1), .second, .val (.long x2), .second, .val (.long x3), .second, .val (.int x4), .val (.int x5), .val (.ref b6), .unset, .unset, .unset, .unset] [(.long (fn1 pc0 (7 : Int32) x1 x2 x3)), (.int (7 : Int32)), (.ref b6)])) rfl (by rw [hml]; rfl) (argsL := [(.ref b6), (.int (7 : Int32)), (.long (fn1 pc0 (7 : Int32) x1 x2 x3))]) (rest := []) (lenOf pd_1 rfl) rfl (by show 2 * 0 + _ ≤ _; exact Nat.le_of_eq rfl) (hb hby at_187) (fun _ _ => ⟨rfl, e21, (by decide : 1 + 0 ≤ _), (by decide : 8 + 0 ≤ _)⟩)
  dsimp only [Pt.U, Pt.locs, Pt.cells, Pt.slots] at X22 l22 y22 z22 st22 hQ22
  rw [l22, y22, z22] at X22
  obtain ⟨rfl, N22q, Kq22, po22_0⟩ := hQ22
  have N22 := Fr.app N21 N22q
  refine Goes.by st22 ?_
  have Zs22 : n0 ≤ T22.heap.size := Nat.le_trans Zs20 Kq22.1
  have K22 : Keep h0 T22.heap [] := K20.trans Kq22 (allS (Or.inr sz_b6) all0)
  have A_b6 : AJ Z T22.heap b6 nl (up (up (up (up (up (up (up (up (fun _ => (0 : Int64)) 0 (fn1 pc0 (0 : Int32) x1 x2 x3)) 1 (fn1 pc0 (1 : Int32) x1 x2 x3)) 2 (fn1 pc0 (2 : Int32) x1 x2 x3)) 3 (fn1 pc0 (3 : Int32) x1 x2 x3)) 4 (fn1 pc0 (4 : Int32) x1 x2 x3)) 5 (fn1 pc0 (5 : Int32) x1 x2 x3)) 6 (fn1 pc0 (6 : Int32) x1 x2 x3)) 7 (fn1 pc0 (7 : Int32) x1 x2 x3)) := po22_0
  show Goes p.tables e below (T22.setTop (mkF m 190 #[.val (.long pr), .second, .val (.long pa), .second, .val (.long pb), .second, .val (.int pc0), .val (.int ps), .val (.int pw), .val (.long x1), .second, .val (.long x2), .second, .val (.long x3), .second, .val (.int x4), .val (.int x5), .val (.ref b6), .unset, .unset, .unset, .unset] [])) _
  obtain ⟨gz, hgz⟩ : ∃ z : Nat → Int64, z = (up (up (up (up (up (up (up (up (fun _ => (0 : Int64)) 0 (fn1 pc0 (0 : Int32) x1 x2 x3)) 1 (fn1 pc0 (1 : Int32) x1 x2 x3)) 2 (fn1 pc0 (2 : Int32) x1 x2 x3)) 3 (fn1 pc0 (3 : Int32) x1 x2 x3)) 4 (fn1 pc0 (4 : Int32) x1 x2 x3)) 5 (fn1 pc0 (5 : Int32) x1 x2 x3)) 6 (fn1 pc0 (6 : Int32) x1 x2 x3)) 7 (fn1 pc0 (7 : Int32) x1 x2 x3)) := ⟨_, rfl⟩
  rw [← hgz] at A_b6
  refine Goes.cut (α := State × List Loc × Heap × (Nat → Int64) × Int32) (K := fun x => x.1.setTop (mkF m 303 #[.val (.long pr), .second, .val (.long pa), .second, .val (.long pb), .second, .val (.int pc0), .val (.int ps), .val (.int pw), .val (.long x1), .second, .val (.long x2), .second, .val (.long x3), .second, .val (.int x4), .val (.int x5), .val (.ref b6), .val (.int x.2.2.2.2), .unset, .unset, .unset] [])) (C := fun x => Stand p l e room_1 s m #[(.long pr), (.long pa), (.long pb), (.int pc0), (.int ps), (.int pw)] below meth c x.1 x.2.1 (0 + 1) (0 + 8) ∧ x.1.heap = x.2.2.1 ∧ Fr n0 x.2.1 ∧ n0 ≤ x.2.2.1.size ∧ AJ Z x.2.2.1 b6 nl x.2.2.2.1 ∧ ∃ i, i < nl ∧ own_stop x.2.2.2.1 x1 i) (fun cont23 => ?_) (fun x hC => ?_)
  · show Goes p.tables e below (T22.setTop (mkF m 190 #[.val (.long pr), .second, .val (.long pa), .second, .val (.long pb), .second, .val (.int pc0), .val (.int ps), .val (.int pw), .val (.long x1), .second, .val (.long x2), .second, .val (.long x3), .second, .val (.int x4), .val (.int x5), .val (.ref b6), .unset, .unset, .unset, .unset] [])) _
    refine Goes.by (fun _ k => XS.aload X22.here hx rfl (hb hby at_190) rfl rfl k) ?_
    show Goes p.tables e below (T22.setTop (mkF m 192 #[.val (.long pr), .second, .val (.long pa), .second, .val (.long pb), .second, .val (.int pc0), .val (.int ps), .val (.int pw), .val (.long x1), .second, .val (.long x2), .second, .val (.long x3), .second, .val (.int x4), .val (.int x5), .val (.ref b6), .unset, .unset, .unset, .unset] [(.ref b6)])) _
    refine Goes.by (fun _ k => XS.iconst X22.here hx rfl (hb hby at_192) k) ?_
    show Goes p.tables e below (T22.setTop (mkF m 193 #[.val (.long pr), .second, .val (.long pa), .second, .val (.long pb), .second, .val (.int pc0), .val (.int ps), .val (.int pw), .val (.long x1), .second, .val (.long x2), .second, .val (.long x3), .second, .val (.int x4), .val (.int x5), .val (.ref b6), .unset, .unset, .unset, .unset] [(.int (0 : Int32)), (.ref b6)])) _
    refine Goes.by (fun _ k => XS.lload X22.here hx rfl (hb hby at_193) rfl k) ?_
    show Goes p.tables e below (T22.setTop (mkF m 195 #[.val (.long pr), .second, .val (.long pa), .second, .val (.long pb), .second, .val (.int pc0), .val (.int ps), .val (.int pw), .val (.long x1), .second, .val (.long x2), .second, .val (.long x3), .second, .val (.int x4), .val (.int x5), .val (.ref b6), .unset, .unset, .unset, .unset] [(.long x1), (.int (0 : Int32)), (.ref b6)])) _
    obtain ⟨_, _, ⟨T24, L24, k24, n24⟩, -, X24, ⟨Lc24, hQ24, l24, y24, z24⟩, st24⟩ := Jvm.LawKit.callS X22 hx (y := (⟨"com/example/xml_graph_join/xmlgraphjoin/labels/PackedSlotsFindPinLaw", "stopAt", "([JIJ)Z"⟩ : MethodName)) hown (mvT hZ (hw _ (List.mem_of_getElem? (i := 10) rfl))) (mvT hZ (hw _ (List.mem_of_getElem? (i := 11) rfl))) (mvT hZ (hw _ (List.mem_of_getElem? (i := 4) rfl))) (mvT hZ (hw _ (List.mem_of_getElem? (i := 12) rfl))) (by decide) (backOf (W := 0) (rm3 l Z a0 hw [] b6 (0 : Int32) x1 gz 0 nl x4 T22.heap n0 Zs22 A_b6 (by decide) (hz)) hZ (hw _ (List.mem_of_getElem? (i := 12) rfl)) (hw _ (List.mem_of_getElem? (i := 4) rfl)) (by decide) (by decide)) (g := (mkF m 195 #[.val (.long pr), .second, .val (.long pa), .second, .val (.long pb), .second, .val (.int pc0), .val (.int ps), .val (.int pw), .val (.long x1), .second, .val (.long x2), .second, .val (.long x3), .second, .val (.int x4), .val (.int x5), .val (.ref b6), .unset, .unset, .unset, .unset] [(.long x1), (.int (0 : Int32)), (.ref b6)])) rfl (by rw [hml]; rfl) (argsL := [(.ref b6), (.int (0 : Int32)), (.long x1)]) (rest := []) (lenOf pd_2 rfl) rfl (by show 2 * 0 + _ ≤ _; exact Nat.le_of_eq rfl) (hb hby at_195) (fun _ _ => ⟨rfl, rfl, (by decide : 1 + 0 ≤ _), (by decide : 8 + 0 ≤ _)⟩)
    dsimp only [Pt.U, Pt.locs, Pt.cells, Pt.slots] at X24 l24 y24 z24 st24 hQ24
    rw [l24, y24, z24] at X24
    obtain ⟨rfl, N24q, e24⟩ := hQ24
    have N24 := Fr.app N22 N24q
    refine Goes.by st24 ?_
    show Goes p.tables e below (T24.setTop (mkF m 198 #[.val (.long pr), .second, .val (.long pa), .second, .val (.long pb), .second, .val (.int pc0), .val (.int ps), .val (.int pw), .val (.long x1), .second, .val (.long x2), .second, .val (.long x3), .second, .val (.int x4), .val (.int x5), .val (.ref b6), .unset, .unset, .unset, .unset] [(.int (fn3 (0 : Int32) x1 gz 0 nl x4))])) _
    by_cases hc25 : (fn3 (0 : Int32) x1 gz 0 nl x4) = (0 : Int32)
    · refine Goes.by (fun _ k => XS.ifNo X24.here hx rfl (hb hby at_198) rfl ((if0 _ _).trans (teq hc25).2) k) ?_
      show Goes p.tables e below (T24.setTop (mkF m 201 #[.val (.long pr), .second, .val (.long pa), .second, .val (.long pb), .second, .val (.int pc0), .val (.int ps), .val (.int pw), .val (.long x1), .second, .val (.long x2), .second, .val (.long x3), .second, .val (.int x4), .val (.int x5), .val (.ref b6), .unset, .unset, .unset, .unset] [])) _
      refine Goes.by (fun _ k => XS.aload X24.here hx rfl (hb hby at_201) rfl rfl k) ?_
      show Goes p.tables e below (T24.setTop (mkF m 203 #[.val (.long pr), .second, .val (.long pa), .second, .val (.long pb), .second, .val (.int pc0), .val (.int ps), .val (.int pw), .val (.long x1), .second, .val (.long x2), .second, .val (.long x3), .second, .val (.int x4), .val (.int x5), .val (.ref b6), .unset, .unset, .unset, .unset] [(.ref b6)])) _
      refine Goes.by (fun _ k => XS.iconst X24.here hx rfl (hb hby at_203) k) ?_
      show Goes p.tables e below (T24.setTop (mkF m 204 #[.val (.long pr), .second, .val (.long pa), .second, .val (.long pb), .second, .val (.int pc0), .val (.int ps), .val (.int pw), .val (.long x1), .second, .val (.long x2), .second, .val (.long x3), .second, .val (.int x4), .val (.int x5), .val (.ref b6), .unset, .unset, .unset, .unset] [(.int (1 : Int32)), (.ref b6)])) _
      refine Goes.by (fun _ k => XS.lload X24.here hx rfl (hb hby at_204) rfl k) ?_
      show Goes p.tables e below (T24.setTop (mkF m 206 #[.val (.long pr), .second, .val (.long pa), .second, .val (.long pb), .second, .val (.int pc0), .val (.int ps), .val (.int pw), .val (.long x1), .second, .val (.long x2), .second, .val (.long x3), .second, .val (.int x4), .val (.int x5), .val (.ref b6), .unset, .unset, .unset, .unset] [(.long x1), (.int (1 : Int32)), (.ref b6)])) _
      obtain ⟨_, _, ⟨T26, L26, k26, n26⟩, -, X26, ⟨Lc26, hQ26, l26, y26, z26⟩, st26⟩ := Jvm.LawKit.callS X24 hx (y := (⟨"com/example/xml_graph_join/xmlgraphjoin/labels/PackedSlotsFindPinLaw", "stopAt", "([JIJ)Z"⟩ : MethodName)) hown (mvT hZ (hw _ (List.mem_of_getElem? (i := 10) rfl))) (mvT hZ (hw _ (List.mem_of_getElem? (i := 11) rfl))) (mvT hZ (hw _ (List.mem_of_getElem? (i := 4) rfl))) (mvT hZ (hw _ (List.mem_of_getElem? (i := 12) rfl))) (by decide) (backOf (W := 0) (rm3 l Z a0 hw [] b6 (1 : Int32) x1 gz 1 nl x4 T22.heap n0 Zs22 A_b6 (by decide) (hz)) hZ (hw _ (List.mem_of_getElem? (i := 12) rfl)) (hw _ (List.mem_of_getElem? (i := 4) rfl)) (by decide) (by decide)) (g := (mkF m 206 #[.val (.long pr), .second, .val (.long pa), .second, .val (.long pb), .second, .val (.int pc0), .val (.int ps), .val (.int pw), .val (.long x1), .second, .val (.long x2), .second, .val (.long x3), .second, .val (.int x4), .val (.int x5), .val (.ref b6), .unset, .unset, .unset, .unset] [(.long x1), (.int (1 : Int32)), (.ref b6)])) rfl (by rw [hml]; rfl) (argsL := [(.ref b6), (.int (1 : Int32)), (.long x1)]) (rest := []) (lenOf pd_2 rfl) rfl (by show 2 * 0 + _ ≤ _; exact Nat.le_of_eq rfl) (hb hby at_206) (fun _ _ => ⟨rfl, e24, (by decide : 1 + 0 ≤ _), (by decide : 8 + 0 ≤ _)⟩)
      dsimp only [Pt.U, Pt.locs, Pt.cells, Pt.slots] at X26 l26 y26 z26 st26 hQ26
      rw [l26, y26, z26] at X26
      obtain ⟨rfl, N26q, e26⟩ := hQ26
      have N26 := Fr.app N24 N26q
      refine Goes.by st26 ?_
      show Goes p.tables e below (T26.setTop (mkF m 209 #[.val (.long pr), .second, .val (.long pa), .second, .val (.long pb), .second, .val (.int pc0), .val (.int ps), .val (.int pw), .val (.long x1), .second, .val (.long x2), .second, .val (.long x3), .second, .val (.int x4), .val (.int x5), .val (.ref b6), .unset, .unset, .unset, .unset] [(.int (fn3 (1 : Int32) x1 gz 1 nl x4))])) _
      by_cases hc27 : (fn3 (1 : Int32) x1 gz 1 nl x4) = (0 : Int32)
      · refine Goes.by (fun _ k => XS.ifNo X26.here hx rfl (hb hby at_209) rfl ((if0 _ _).trans (teq hc27).2) k) ?_
        show Goes p.tables e below (T26.setTop (mkF m 212 #[.val (.long pr), .second, .val (.long pa), .second, .val (.long pb), .second, .val (.int pc0), .val (.int ps), .val (.int pw), .val (.long x1), .second, .val (.long x2), .second, .val (.long x3), .second, .val (.int x4), .val (.int x5), .val (.ref b6), .unset, .unset, .unset, .unset] [])) _
        refine Goes.by (fun _ k => XS.aload X26.here hx rfl (hb hby at_212) rfl rfl k) ?_
        show Goes p.tables e below (T26.setTop (mkF m 214 #[.val (.long pr), .second, .val (.long pa), .second, .val (.long pb), .second, .val (.int pc0), .val (.int ps), .val (.int pw), .val (.long x1), .second, .val (.long x2), .second, .val (.long x3), .second, .val (.int x4), .val (.int x5), .val (.ref b6), .unset, .unset, .unset, .unset] [(.ref b6)])) _
        refine Goes.by (fun _ k => XS.iconst X26.here hx rfl (hb hby at_214) k) ?_
        show Goes p.tables e below (T26.setTop (mkF m 215 #[.val (.long pr), .second, .val (.long pa), .second, .val (.long pb), .second, .val (.int pc0), .val (.int ps), .val (.int pw), .val (.long x1), .second, .val (.long x2), .second, .val (.long x3), .second, .val (.int x4), .val (.int x5), .val (.ref b6), .unset, .unset, .unset, .unset] [(.int (2 : Int32)), (.ref b6)])) _
        refine Goes.by (fun _ k => XS.lload X26.here hx rfl (hb hby at_215) rfl k) ?_
        show Goes p.tables e below (T26.setTop (mkF m 217 #[.val (.long pr), .second, .val (.long pa), .second, .val (.long pb), .second, .val (.int pc0), .val (.int ps), .val (.int pw), .val (.long x1), .second, .val (.long x2), .second, .val (.long x3), .second, .val (.int x4), .val (.int x5), .val (.ref b6), .unset, .unset, .unset, .unset] [(.long x1), (.int (2 : Int32)), (.ref b6)])) _
        obtain ⟨_, _, ⟨T28, L28, k28, n28⟩, -, X28, ⟨Lc28, hQ28, l28, y28, z28⟩, st28⟩ := Jvm.LawKit.callS X26 hx (y := (⟨"com/example/xml_graph_join/xmlgraphjoin/labels/PackedSlotsFindPinLaw", "stopAt", "([JIJ)Z"⟩ : MethodName)) hown (mvT hZ (hw _ (List.mem_of_getElem? (i := 10) rfl))) (mvT hZ (hw _ (List.mem_of_getElem? (i := 11) rfl))) (mvT hZ (hw _ (List.mem_of_getElem? (i := 4) rfl))) (mvT hZ (hw _ (List.mem_of_getElem? (i := 12) rfl))) (by decide) (backOf (W := 0) (rm3 l Z a0 hw [] b6 (2 : Int32) x1 gz 2 nl x4 T22.heap n0 Zs22 A_b6 (by decide) (hz)) hZ (hw _ (List.mem_of_getElem? (i := 12) rfl)) (hw _ (List.mem_of_getElem? (i := 4) rfl)) (by decide) (by decide)) (g := (mkF m 217 #[.val (.long pr), .second, .val (.long pa), .second, .val (.long pb), .second, .val (.int pc0), .val (.int ps), .val (.int pw), .val (.long x1), .second, .val (.long x2), .second, .val (.long x3), .second, .val (.int x4), .val (.int x5), .val (.ref b6), .unset, .unset, .unset, .unset] [(.long x1), (.int (2 : Int32)), (.ref b6)])) rfl (by rw [hml]; rfl) (argsL := [(.ref b6), (.int (2 : Int32)), (.long x1)]) (rest := []) (lenOf pd_2 rfl) rfl (by show 2 * 0 + _ ≤ _; exact Nat.le_of_eq rfl) (hb hby at_217) (fun _ _ => ⟨rfl, e26, (by decide : 1 + 0 ≤ _), (by decide : 8 + 0 ≤ _)⟩)
        dsimp only [Pt.U, Pt.locs, Pt.cells, Pt.slots] at X28 l28 y28 z28 st28 hQ28
        rw [l28, y28, z28] at X28
        obtain ⟨rfl, N28q, e28⟩ := hQ28
        have N28 := Fr.app N26 N28q
        refine Goes.by st28 ?_
        show Goes p.tables e below (T28.setTop (mkF m 220 #[.val (.long pr), .second, .val (.long pa), .second, .val (.long pb), .second, .val (.int pc0), .val (.int ps), .val (.int pw), .val (.long x1), .second, .val (.long x2), .second, .val (.long x3), .second, .val (.int x4), .val (.int x5), .val (.ref b6), .unset, .unset, .unset, .unset] [(.int (fn3 (2 : Int32) x1 gz 2 nl x4))])) _
        by_cases hc29 : (fn3 (2 : Int32) x1 gz 2 nl x4) = (0 : Int32)
        · refine Goes.by (fun _ k => XS.ifNo X28.here hx rfl (hb hby at_220) rfl ((if0 _ _).trans (teq hc29).2) k) ?_
          show Goes p.tables e below (T28.setTop (mkF m 223 #[.val (.long pr), .second, .val (.long pa), .second, .val (.long pb), .second, .val (.int pc0), .val (.int ps), .val (.int pw), .val (.long x1), .second, .val (.long x2), .second, .val (.long x3), .second, .val (.int x4), .val (.int x5), .val (.ref b6), .unset, .unset, .unset, .unset] [])) _
          refine Goes.by (fun _ k => XS.aload X28.here hx rfl (hb hby at_223) rfl rfl k) ?_
          show Goes p.tables e below (T28.setTop (mkF m 225 #[.val (.long pr), .second, .val (.long pa), .second, .val (.long pb), .second, .val (.int pc0), .val (.int ps), .val (.int pw), .val (.long x1), .second, .val (.long x2), .second, .val (.long x3), .second, .val (.int x4), .val (.int x5), .val (.ref b6), .unset, .unset, .unset, .unset] [(.ref b6)])) _
          refine Goes.by (fun _ k => XS.iconst X28.here hx rfl (hb hby at_225) k) ?_
          show Goes p.tables e below (T28.setTop (mkF m 226 #[.val (.long pr), .second, .val (.long pa), .second, .val (.long pb), .second, .val (.int pc0), .val (.int ps), .val (.int pw), .val (.long x1), .second, .val (.long x2), .second, .val (.long x3), .second, .val (.int x4), .val (.int x5), .val (.ref b6), .unset, .unset, .unset, .unset] [(.int (3 : Int32)), (.ref b6)])) _
          refine Goes.by (fun _ k => XS.lload X28.here hx rfl (hb hby at_226) rfl k) ?_
          show Goes p.tables e below (T28.setTop (mkF m 228 #[.val (.long pr), .second, .val (.long pa), .second, .val (.long pb), .second, .val (.int pc0), .val (.int ps), .val (.int pw), .val (.long x1), .second, .val (.long x2), .second, .val (.long x3), .second, .val (.int x4), .val (.int x5), .val (.ref b6), .unset, .unset, .unset, .unset] [(.long x1), (.int (3 : Int32)), (.ref b6)])) _
          obtain ⟨_, _, ⟨T30, L30, k30, n30⟩, -, X30, ⟨Lc30, hQ30, l30, y30, z30⟩, st30⟩ := Jvm.LawKit.callS X28 hx (y := (⟨"com/example/xml_graph_join/xmlgraphjoin/labels/PackedSlotsFindPinLaw", "stopAt", "([JIJ)Z"⟩ : MethodName)) hown (mvT hZ (hw _ (List.mem_of_getElem? (i := 10) rfl))) (mvT hZ (hw _ (List.mem_of_getElem? (i := 11) rfl))) (mvT hZ (hw _ (List.mem_of_getElem? (i := 4) rfl))) (mvT hZ (hw _ (List.mem_of_getElem? (i := 12) rfl))) (by decide) (backOf (W := 0) (rm3 l Z a0 hw [] b6 (3 : Int32) x1 gz 3 nl x4 T22.heap n0 Zs22 A_b6 (by decide) (hz)) hZ (hw _ (List.mem_of_getElem? (i := 12) rfl)) (hw _ (List.mem_of_getElem? (i := 4) rfl)) (by decide) (by decide)) (g := (mkF m 228 #[.val (.long pr), .second, .val (.long pa), .second, .val (.long pb), .second, .val (.int pc0), .val (.int ps), .val (.int pw), .val (.long x1), .second, .val (.long x2), .second, .val (.long x3), .second, .val (.int x4), .val (.int x5), .val (.ref b6), .unset, .unset, .unset, .unset] [(.long x1), (.int (3 : Int32)), (.ref b6)])) rfl (by rw [hml]; rfl) (argsL := [(.ref b6), (.int (3 : Int32)), (.long x1)]) (rest := []) (lenOf pd_2 rfl) rfl (by show 2 * 0 + _ ≤ _; exact Nat.le_of_eq rfl) (hb hby at_228) (fun _ _ => ⟨rfl, e28, (by decide : 1 + 0 ≤ _), (by decide : 8 + 0 ≤ _)⟩)
          dsimp only [Pt.U, Pt.locs, Pt.cells, Pt.slots] at X30 l30 y30 z30 st30 hQ30
          rw [l30, y30, z30] at X30
          obtain ⟨rfl, N30q, e30⟩ := hQ30
          have N30 := Fr.app N28 N30q
          refine Goes.by st30 ?_
          show Goes p.tables e below (T30.setTop (mkF m 231 #[.val (.long pr), .second, .val (.long pa), .second, .val (.long pb), .second, .val (.int pc0), .val (.int ps), .val (.int pw), .val (.long x1), .second, .val (.long x2), .second, .val (.long x3), .second, .val (.int x4), .val (.int x5), .val (.ref b6), .unset, .unset, .unset, .unset] [(.int (fn3 (3 : Int32) x1 gz 3 nl x4))])) _
          by_cases hc31 : (fn3 (3 : Int32) x1 gz 3 nl x4) = (0 : Int32)
          · refine Goes.by (fun _ k => XS.ifNo X30.here hx rfl (hb hby at_231) rfl ((if0 _ _).trans (teq hc31).2) k) ?_
            show Goes p.tables e below (T30.setTop (mkF m 234 #[.val (.long pr), .second, .val (.long pa), .second, .val (.long pb), .second, .val (.int pc0), .val (.int ps), .val (.int pw), .val (.long x1), .second, .val (.long x2), .second, .val (.long x3), .second, .val (.int x4), .val (.int x5), .val (.ref b6), .unset, .unset, .unset, .unset] [])) _
            refine Goes.by (fun _ k => XS.aload X30.here hx rfl (hb hby at_234) rfl rfl k) ?_
            show Goes p.tables e below (T30.setTop (mkF m 236 #[.val (.long pr), .second, .val (.long pa), .second, .val (.long pb), .second, .val (.int pc0), .val (.int ps), .val (.int pw), .val (.long x1), .second, .val (.long x2), .second, .val (.long x3), .second, .val (.int x4), .val (.int x5), .val (.ref b6), .unset, .unset, .unset, .unset] [(.ref b6)])) _
            refine Goes.by (fun _ k => XS.iconst X30.here hx rfl (hb hby at_236) k) ?_
            show Goes p.tables e below (T30.setTop (mkF m 237 #[.val (.long pr), .second, .val (.long pa), .second, .val (.long pb), .second, .val (.int pc0), .val (.int ps), .val (.int pw), .val (.long x1), .second, .val (.long x2), .second, .val (.long x3), .second, .val (.int x4), .val (.int x5), .val (.ref b6), .unset, .unset, .unset, .unset] [(.int (4 : Int32)), (.ref b6)])) _
            refine Goes.by (fun _ k => XS.lload X30.here hx rfl (hb hby at_237) rfl k) ?_
            show Goes p.tables e below (T30.setTop (mkF m 239 #[.val (.long pr), .second, .val (.long pa), .second, .val (.long pb), .second, .val (.int pc0), .val (.int ps), .val (.int pw), .val (.long x1), .second, .val (.long x2), .second, .val (.long x3), .second, .val (.int x4), .val (.int x5), .val (.ref b6), .unset, .unset, .unset, .unset] [(.long x1), (.int (4 : Int32)), (.ref b6)])) _
            obtain ⟨_, _, ⟨T32, L32, k32, n32⟩, -, X32, ⟨Lc32, hQ32, l32, y32, z32⟩, st32⟩ := Jvm.LawKit.callS X30 hx (y := (⟨"com/example/xml_graph_join/xmlgraphjoin/labels/PackedSlotsFindPinLaw", "stopAt", "([JIJ)Z"⟩ : MethodName)) hown (mvT hZ (hw _ (List.mem_of_getElem? (i := 10) rfl))) (mvT hZ (hw _ (List.mem_of_getElem? (i := 11) rfl))) (mvT hZ (hw _ (List.mem_of_getElem? (i := 4) rfl))) (mvT hZ (hw _ (List.mem_of_getElem? (i := 12) rfl))) (by decide) (backOf (W := 0) (rm3 l Z a0 hw [] b6 (4 : Int32) x1 gz 4 nl x4 T22.heap n0 Zs22 A_b6 (by decide) (hz)) hZ (hw _ (List.mem_of_getElem? (i := 12) rfl)) (hw _ (List.mem_of_getElem? (i := 4) rfl)) (by decide) (by decide)) (g := (mkF m 239 #[.val (.long pr), .second, .val (.long pa), .second, .val (.long pb), .second, .val (.int pc0), .val (.int ps), .val (.int pw), .val (.long x1), .second, .val (.long x2), .second, .val (.long x3), .second, .val (.int x4), .val (.int x5), .val (.ref b6), .unset, .unset, .unset, .unset] [(.long x1), (.int (4 : Int32)), (.ref b6)])) rfl (by rw [hml]; rfl) (argsL := [(.ref b6), (.int (4 : Int32)), (.long x1)]) (rest := []) (lenOf pd_2 rfl) rfl (by show 2 * 0 + _ ≤ _; exact Nat.le_of_eq rfl) (hb hby at_239) (fun _ _ => ⟨rfl, e30, (by decide : 1 + 0 ≤ _), (by decide : 8 + 0 ≤ _)⟩)
            dsimp only [Pt.U, Pt.locs, Pt.cells, Pt.slots] at X32 l32 y32 z32 st32 hQ32
            rw [l32, y32, z32] at X32
            obtain ⟨rfl, N32q, e32⟩ := hQ32
            have N32 := Fr.app N30 N32q
            refine Goes.by st32 ?_
            show Goes p.tables e below (T32.setTop (mkF m 242 #[.val (.long pr), .second, .val (.long pa), .second, .val (.long pb), .second, .val (.int pc0), .val (.int ps), .val (.int pw), .val (.long x1), .second, .val (.long x2), .second, .val (.long x3), .second, .val (.int x4), .val (.int x5), .val (.ref b6), .unset, .unset, .unset, .unset] [(.int (fn3 (4 : Int32) x1 gz 4 nl x4))])) _
            by_cases hc33 : (fn3 (4 : Int32) x1 gz 4 nl x4) = (0 : Int32)
            · refine Goes.by (fun _ k => XS.ifNo X32.here hx rfl (hb hby at_242) rfl ((if0 _ _).trans (teq hc33).2) k) ?_
              show Goes p.tables e below (T32.setTop (mkF m 245 #[.val (.long pr), .second, .val (.long pa), .second, .val (.long pb), .second, .val (.int pc0), .val (.int ps), .val (.int pw), .val (.long x1), .second, .val (.long x2), .second, .val (.long x3), .second, .val (.int x4), .val (.int x5), .val (.ref b6), .unset, .unset, .unset, .unset] [])) _
              refine Goes.by (fun _ k => XS.aload X32.here hx rfl (hb hby at_245) rfl rfl k) ?_
              show Goes p.tables e below (T32.setTop (mkF m 247 #[.val (.long pr), .second, .val (.long pa), .second, .val (.long pb), .second, .val (.int pc0), .val (.int ps), .val (.int pw), .val (.long x1), .second, .val (.long x2), .second, .val (.long x3), .second, .val (.int x4), .val (.int x5), .val (.ref b6), .unset, .unset, .unset, .unset] [(.ref b6)])) _
              refine Goes.by (fun _ k => XS.iconst X32.here hx rfl (hb hby at_247) k) ?_
              show Goes p.tables e below (T32.setTop (mkF m 248 #[.val (.long pr), .second, .val (.long pa), .second, .val (.long pb), .second, .val (.int pc0), .val (.int ps), .val (.int pw), .val (.long x1), .second, .val (.long x2), .second, .val (.long x3), .second, .val (.int x4), .val (.int x5), .val (.ref b6), .unset, .unset, .unset, .unset] [(.int (5 : Int32)), (.ref b6)])) _
              refine Goes.by (fun _ k => XS.lload X32.here hx rfl (hb hby at_248) rfl k) ?_
              show Goes p.tables e below (T32.setTop (mkF m 250 #[.val (.long pr), .second, .val (.long pa), .second, .val (.long pb), .second, .val (.int pc0), .val (.int ps), .val (.int pw), .val (.long x1), .second, .val (.long x2), .second, .val (.long x3), .second, .val (.int x4), .val (.int x5), .val (.ref b6), .unset, .unset, .unset, .unset] [(.long x1), (.int (5 : Int32)), (.ref b6)])) _
              obtain ⟨_, _, ⟨T34, L34, k34, n34⟩, -, X34, ⟨Lc34, hQ34, l34, y34, z34⟩, st34⟩ := Jvm.LawKit.callS X32 hx (y := (⟨"com/example/xml_graph_join/xmlgraphjoin/labels/PackedSlotsFindPinLaw", "stopAt", "([JIJ)Z"⟩ : MethodName)) hown (mvT hZ (hw _ (List.mem_of_getElem? (i := 10) rfl))) (mvT hZ (hw _ (List.mem_of_getElem? (i := 11) rfl))) (mvT hZ (hw _ (List.mem_of_getElem? (i := 4) rfl))) (mvT hZ (hw _ (List.mem_of_getElem? (i := 12) rfl))) (by decide) (backOf (W := 0) (rm3 l Z a0 hw [] b6 (5 : Int32) x1 gz 5 nl x4 T22.heap n0 Zs22 A_b6 (by decide) (hz)) hZ (hw _ (List.mem_of_getElem? (i := 12) rfl)) (hw _ (List.mem_of_getElem? (i := 4) rfl)) (by decide) (by decide)) (g := (mkF m 250 #[.val (.long pr), .second, .val (.long pa), .second, .val (.long pb), .second, .val (.int pc0), .val (.int ps), .val (.int pw), .val (.long x1), .second, .val (.long x2), .second, .val (.long x3), .second, .val (.int x4), .val (.int x5), .val (.ref b6), .unset, .unset, .unset, .unset] [(.long x1), (.int (5 : Int32)), (.ref b6)])) rfl (by rw [hml]; rfl) (argsL := [(.ref b6), (.int (5 : Int32)), (.long x1)]) (rest := []) (lenOf pd_2 rfl) rfl (by show 2 * 0 + _ ≤ _; exact Nat.le_of_eq rfl) (hb hby at_250) (fun _ _ => ⟨rfl, e32, (by decide : 1 + 0 ≤ _), (by decide : 8 + 0 ≤ _)⟩)
              dsimp only [Pt.U, Pt.locs, Pt.cells, Pt.slots] at X34 l34 y34 z34 st34 hQ34
              rw [l34, y34, z34] at X34
              obtain ⟨rfl, N34q, e34⟩ := hQ34
              have N34 := Fr.app N32 N34q
              refine Goes.by st34 ?_
              show Goes p.tables e below (T34.setTop (mkF m 253 #[.val (.long pr), .second, .val (.long pa), .second, .val (.long pb), .second, .val (.int pc0), .val (.int ps), .val (.int pw), .val (.long x1), .second, .val (.long x2), .second, .val (.long x3), .second, .val (.int x4), .val (.int x5), .val (.ref b6), .unset, .unset, .unset, .unset] [(.int (fn3 (5 : Int32) x1 gz 5 nl x4))])) _
              by_cases hc35 : (fn3 (5 : Int32) x1 gz 5 nl x4) = (0 : Int32)
              · refine Goes.by (fun _ k => XS.ifNo X34.here hx rfl (hb hby at_253) rfl ((if0 _ _).trans (teq hc35).2) k) ?_
                show Goes p.tables e below (T34.setTop (mkF m 256 #[.val (.long pr), .second, .val (.long pa), .second, .val (.long pb), .second, .val (.int pc0), .val (.int ps), .val (.int pw), .val (.long x1), .second, .val (.long x2), .second, .val (.long x3), .second, .val (.int x4), .val (.int x5), .val (.ref b6), .unset, .unset, .unset, .unset] [])) _
                refine Goes.by (fun _ k => XS.aload X34.here hx rfl (hb hby at_256) rfl rfl k) ?_
                show Goes p.tables e below (T34.setTop (mkF m 258 #[.val (.long pr), .second, .val (.long pa), .second, .val (.long pb), .second, .val (.int pc0), .val (.int ps), .val (.int pw), .val (.long x1), .second, .val (.long x2), .second, .val (.long x3), .second, .val (.int x4), .val (.int x5), .val (.ref b6), .unset, .unset, .unset, .unset] [(.ref b6)])) _
                refine Goes.by (fun _ k => XS.bipush X34.here hx rfl (hb hby at_258) k) ?_
                show Goes p.tables e below (T34.setTop (mkF m 260 #[.val (.long pr), .second, .val (.long pa), .second, .val (.long pb), .second, .val (.int pc0), .val (.int ps), .val (.int pw), .val (.long x1), .second, .val (.long x2), .second, .val (.long x3), .second, .val (.int x4), .val (.int x5), .val (.ref b6), .unset, .unset, .unset, .unset] [(.int (6 : Int32)), (.ref b6)])) _
                refine Goes.by (fun _ k => XS.lload X34.here hx rfl (hb hby at_260) rfl k) ?_
                show Goes p.tables e below (T34.setTop (mkF m 262 #[.val (.long pr), .second, .val (.long pa), .second, .val (.long pb), .second, .val (.int pc0), .val (.int ps), .val (.int pw), .val (.long x1), .second, .val (.long x2), .second, .val (.long x3), .second, .val (.int x4), .val (.int x5), .val (.ref b6), .unset, .unset, .unset, .unset] [(.long x1), (.int (6 : Int32)), (.ref b6)])) _
                obtain ⟨_, _, ⟨T36, L36, k36, n36⟩, -, X36, ⟨Lc36, hQ36, l36, y36, z36⟩, st36⟩ := Jvm.LawKit.callS X34 hx (y := (⟨"com/example/xml_graph_join/xmlgraphjoin/labels/PackedSlotsFindPinLaw", "stopAt", "([JIJ)Z"⟩ : MethodName)) hown (mvT hZ (hw _ (List.mem_of_getElem? (i := 10) rfl))) (mvT hZ (hw _ (List.mem_of_getElem? (i := 11) rfl))) (mvT hZ (hw _ (List.mem_of_getElem? (i := 4) rfl))) (mvT hZ (hw _ (List.mem_of_getElem? (i := 12) rfl))) (by decide) (backOf (W := 0) (rm3 l Z a0 hw [] b6 (6 : Int32) x1 gz 6 nl x4 T22.heap n0 Zs22 A_b6 (by decide) (hz)) hZ (hw _ (List.mem_of_getElem? (i := 12) rfl)) (hw _ (List.mem_of_getElem? (i := 4) rfl)) (by decide) (by decide)) (g := (mkF m 262 #[.val (.long pr), .second, .val (.long pa), .second, .val (.long pb), .second, .val (.int pc0), .val (.int ps), .val (.int pw), .val (.long x1), .second, .val (.long x2), .second, .val (.long x3), .second, .val (.int x4), .val (.int x5), .val (.ref b6), .unset, .unset, .unset, .unset] [(.long x1), (.int (6 : Int32)), (.ref b6)])) rfl (by rw [hml]; rfl) (argsL := [(.ref b6), (.int (6 : Int32)), (.long x1)]) (rest := []) (lenOf pd_2 rfl) rfl (by show 2 * 0 + _ ≤ _; exact Nat.le_of_eq rfl) (hb hby at_262) (fun _ _ => ⟨rfl, e34, (by decide : 1 + 0 ≤ _), (by decide : 8 + 0 ≤ _)⟩)
                dsimp only [Pt.U, Pt.locs, Pt.cells, Pt.slots] at X36 l36 y36 z36 st36 hQ36
                rw [l36, y36, z36] at X36
                obtain ⟨rfl, N36q, e36⟩ := hQ36
                have N36 := Fr.app N34 N36q
                refine Goes.by st36 ?_
                show Goes p.tables e below (T36.setTop (mkF m 265 #[.val (.long pr), .second, .val (.long pa), .second, .val (.long pb), .second, .val (.int pc0), .val (.int ps), .val (.int pw), .val (.long x1), .second, .val (.long x2), .second, .val (.long x3), .second, .val (.int x4), .val (.int x5), .val (.ref b6), .unset, .unset, .unset, .unset] [(.int (fn3 (6 : Int32) x1 gz 6 nl x4))])) _
                by_cases hc37 : (fn3 (6 : Int32) x1 gz 6 nl x4) = (0 : Int32)
                · refine Goes.by (fun _ k => XS.ifNo X36.here hx rfl (hb hby at_265) rfl ((if0 _ _).trans (teq hc37).2) k) ?_
                  show Goes p.tables e below (T36.setTop (mkF m 268 #[.val (.long pr), .second, .val (.long pa), .second, .val (.long pb), .second, .val (.int pc0), .val (.int ps), .val (.int pw), .val (.long x1), .second, .val (.long x2), .second, .val (.long x3), .second, .val (.int x4), .val (.int x5), .val (.ref b6), .unset, .unset, .unset, .unset] [])) _
                  refine Goes.by (fun _ k => XS.aload X36.here hx rfl (hb hby at_268) rfl rfl k) ?_
                  show Goes p.tables e below (T36.setTop (mkF m 270 #[.val (.long pr), .second, .val (.long pa), .second, .val (.long pb), .second, .val (.int pc0), .val (.int ps), .val (.int pw), .val (.long x1), .second, .val (.long x2), .second, .val (.long x3), .second, .val (.int x4), .val (.int x5), .val (.ref b6), .unset, .unset, .unset, .unset] [(.ref b6)])) _
                  refine Goes.by (fun _ k => XS.bipush X36.here hx rfl (hb hby at_270) k) ?_
                  show Goes p.tables e below (T36.setTop (mkF m 272 #[.val (.long pr), .second, .val (.long pa), .second, .val (.long pb), .second, .val (.int pc0), .val (.int ps), .val (.int pw), .val (.long x1), .second, .val (.long x2), .second, .val (.long x3), .second, .val (.int x4), .val (.int x5), .val (.ref b6), .unset, .unset, .unset, .unset] [(.int (7 : Int32)), (.ref b6)])) _
                  refine Goes.by (fun _ k => XS.lload X36.here hx rfl (hb hby at_272) rfl k) ?_
                  show Goes p.tables e below (T36.setTop (mkF m 274 #[.val (.long pr), .second, .val (.long pa), .second, .val (.long pb), .second, .val (.int pc0), .val (.int ps), .val (.int pw), .val (.long x1), .second, .val (.long x2), .second, .val (.long x3), .second, .val (.int x4), .val (.int x5), .val (.ref b6), .unset, .unset, .unset, .unset] [(.long x1), (.int (7 : Int32)), (.ref b6)])) _
                  obtain ⟨_, _, ⟨T38, L38, k38, n38⟩, -, X38, ⟨Lc38, hQ38, l38, y38, z38⟩, st38⟩ := Jvm.LawKit.callS X36 hx (y := (⟨"com/example/xml_graph_join/xmlgraphjoin/labels/PackedSlotsFindPinLaw", "stopAt", "([JIJ)Z"⟩ : MethodName)) hown (mvT hZ (hw _ (List.mem_of_getElem? (i := 10) rfl))) (mvT hZ (hw _ (List.mem_of_getElem? (i := 11) rfl))) (mvT hZ (hw _ (List.mem_of_getElem? (i := 4) rfl))) (mvT hZ (hw _ (List.mem_of_getElem? (i := 12) rfl))) (by decide) (backOf (W := 0) (rm3 l Z a0 hw [] b6 (7 : Int32) x1 gz 7 nl x4 T22.heap n0 Zs22 A_b6 (by decide) (hz)) hZ (hw _ (List.mem_of_getElem? (i := 12) rfl)) (hw _ (List.mem_of_getElem? (i := 4) rfl)) (by decide) (by decide)) (g := (mkF m 274 #[.val (.long pr), .second, .val (.long pa), .second, .val (.long pb), .second, .val (.int pc0), .val (.int ps), .val (.int pw), .val (.long x1), .second, .val (.long x2), .second, .val (.long x3), .second, .val (.int x4), .val (.int x5), .val (.ref b6), .unset, .unset, .unset, .unset] [(.long x1), (.int (7 : Int32)), (.ref b6)])) rfl (by rw [hml]; rfl) (argsL := [(.ref b6), (.int (7 : Int32)), (.long x1)]) (rest := []) (lenOf pd_2 rfl) rfl (by show 2 * 0 + _ ≤ _; exact Nat.le_of_eq rfl) (hb hby at_274) (fun _ _ => ⟨rfl, e36, (by decide : 1 + 0 ≤ _), (by decide : 8 + 0 ≤ _)⟩)
                  dsimp only [Pt.U, Pt.locs, Pt.cells, Pt.slots] at X38 l38 y38 z38 st38 hQ38
                  rw [l38, y38, z38] at X38
                  obtain ⟨rfl, N38q, e38⟩ := hQ38
                  have N38 := Fr.app N36 N38q
                  refine Goes.by st38 ?_
                  show Goes p.tables e below (T38.setTop (mkF m 277 #[.val (.long pr), .second, .val (.long pa), .second, .val (.long pb), .second, .val (.int pc0), .val (.int ps), .val (.int pw), .val (.long x1), .second, .val (.long x2), .second, .val (.long x3), .second, .val (.int x4), .val (.int x5), .val (.ref b6), .unset, .unset, .unset, .unset] [(.int (fn3 (7 : Int32) x1 gz 7 nl x4))])) _
                  by_cases hc39 : (fn3 (7 : Int32) x1 gz 7 nl x4) = (0 : Int32)
                  · refine Goes.by (fun _ k => XS.ifYes X38.here hx rfl (pc0 := 277) (pc' := 284) rfl (hb hby at_277) rfl ((if0 _ _).trans (teq hc39).1) (by decide) (by decide) k) ?_
                    show Goes p.tables e below (T38.setTop (mkF m 284 #[.val (.long pr), .second, .val (.long pa), .second, .val (.long pb), .second, .val (.int pc0), .val (.int ps), .val (.int pw), .val (.long x1), .second, .val (.long x2), .second, .val (.long x3), .second, .val (.int x4), .val (.int x5), .val (.ref b6), .unset, .unset, .unset, .unset] [])) _
                    refine Goes.by (fun _ k => XS.iconst X38.here hx rfl (hb hby at_284) k) ?_
                    show Goes p.tables e below (T38.setTop (mkF m 285 #[.val (.long pr), .second, .val (.long pa), .second, .val (.long pb), .second, .val (.int pc0), .val (.int ps), .val (.int pw), .val (.long x1), .second, .val (.long x2), .second, .val (.long x3), .second, .val (.int x4), .val (.int x5), .val (.ref b6), .unset, .unset, .unset, .unset] [(.int (0 : Int32))])) _
                    refine Goes.by (fun _ k => XS.istore X38.here hx rfl (hb hby at_285) rfl (l' := #[.val (.long pr), .second, .val (.long pa), .second, .val (.long pb), .second, .val (.int pc0), .val (.int ps), .val (.int pw), .val (.long x1), .second, .val (.long x2), .second, .val (.long x3), .second, .val (.int x4), .val (.int x5), .val (.ref b6), .val (.int (0 : Int32)), .unset, .unset, .unset]) rfl k) ?_
                    show Goes p.tables e below (T38.setTop (mkF m 287 #[.val (.long pr), .second, .val (.long pa), .second, .val (.long pb), .second, .val (.int pc0), .val (.int ps), .val (.int pw), .val (.long x1), .second, .val (.long x2), .second, .val (.long x3), .second, .val (.int x4), .val (.int x5), .val (.ref b6), .val (.int (0 : Int32)), .unset, .unset, .unset] [])) _
                    refine Goes.by (fun _ k => XS.iload X38.here hx rfl (hb hby at_287) rfl k) ?_
                    show Goes p.tables e below (T38.setTop (mkF m 289 #[.val (.long pr), .second, .val (.long pa), .second, .val (.long pb), .second, .val (.int pc0), .val (.int ps), .val (.int pw), .val (.long x1), .second, .val (.long x2), .second, .val (.long x3), .second, .val (.int x4), .val (.int x5), .val (.ref b6), .val (.int (0 : Int32)), .unset, .unset, .unset] [(.int (0 : Int32))])) _
                    refine Goes.by (fun _ k => XS.ifNo X38.here hx rfl (hb hby at_289) rfl ((if0 _ _).trans (teq (by decide : (0 : Int32) = (0 : Int32))).2) k) ?_
                    show Goes p.tables e below (T38.setTop (mkF m 292 #[.val (.long pr), .second, .val (.long pa), .second, .val (.long pb), .second, .val (.int pc0), .val (.int ps), .val (.int pw), .val (.long x1), .second, .val (.long x2), .second, .val (.long x3), .second, .val (.int x4), .val (.int x5), .val (.ref b6), .val (.int (0 : Int32)), .unset, .unset, .unset] [])) _
                    refine Goes.by (fun _ k => XS.aload X38.here hx rfl (hb hby at_292) rfl rfl k) ?_
                    show Goes p.tables e below (T38.setTop (mkF m 294 #[.val (.long pr), .second, .val (.long pa), .second, .val (.long pb), .second, .val (.int pc0), .val (.int ps), .val (.int pw), .val (.long x1), .second, .val (.long x2), .second, .val (.long x3), .second, .val (.int x4), .val (.int x5), .val (.ref b6), .val (.int (0 : Int32)), .unset, .unset, .unset] [(.ref b6)])) _
                    refine Goes.by (fun _ k => XS.iload X38.here hx rfl (hb hby at_294) rfl k) ?_
                    show Goes p.tables e below (T38.setTop (mkF m 296 #[.val (.long pr), .second, .val (.long pa), .second, .val (.long pb), .second, .val (.int pc0), .val (.int ps), .val (.int pw), .val (.long x1), .second, .val (.long x2), .second, .val (.long x3), .second, .val (.int x4), .val (.int x5), .val (.ref b6), .val (.int (0 : Int32)), .unset, .unset, .unset] [(.int pw), (.ref b6)])) _
                    refine Goes.by (fun _ k => XS.iload X38.here hx rfl (hb hby at_296) rfl k) ?_
                    show Goes p.tables e below (T38.setTop (mkF m 298 #[.val (.long pr), .second, .val (.long pa), .second, .val (.long pb), .second, .val (.int pc0), .val (.int ps), .val (.int pw), .val (.long x1), .second, .val (.long x2), .second, .val (.long x3), .second, .val (.int x4), .val (.int x5), .val (.ref b6), .val (.int (0 : Int32)), .unset, .unset, .unset] [(.int x5), (.int pw), (.ref b6)])) _
                    refine Goes.by (fun _ k => XS.iand X38.here hx rfl (hb hby at_298) rfl k) ?_
                    show Goes p.tables e below (T38.setTop (mkF m 299 #[.val (.long pr), .second, .val (.long pa), .second, .val (.long pb), .second, .val (.int pc0), .val (.int ps), .val (.int pw), .val (.long x1), .second, .val (.long x2), .second, .val (.long x3), .second, .val (.int x4), .val (.int x5), .val (.ref b6), .val (.int (0 : Int32)), .unset, .unset, .unset] [(.int (pw &&& x5)), (.ref b6)])) _
                    refine Goes.by (fun _ k => X38.ldc2J hx hown (mvT hZ (hw _ (List.mem_of_getElem? (i := 9) rfl))) (g := (mkF m 299 #[.val (.long pr), .second, .val (.long pa), .second, .val (.long pb), .second, .val (.int pc0), .val (.int ps), .val (.int pw), .val (.long x1), .second, .val (.long x2), .second, .val (.long x3), .second, .val (.int x4), .val (.int x5), .val (.ref b6), .val (.int (0 : Int32)), .unset, .unset, .unset] [(.int (pw &&& x5)), (.ref b6)])) rfl (hb hby at_299) k) ?_
                    show Goes p.tables e below (T38.setTop (mkF m 302 #[.val (.long pr), .second, .val (.long pa), .second, .val (.long pb), .second, .val (.int pc0), .val (.int ps), .val (.int pw), .val (.long x1), .second, .val (.long x2), .second, .val (.long x3), .second, .val (.int x4), .val (.int x5), .val (.ref b6), .val (.int (0 : Int32)), .unset, .unset, .unset] [(.long (-1 : Int64)), (.int (pw &&& x5)), (.ref b6)])) _
                    obtain ⟨T40, h40, X40, e40, W40, A40, st40⟩ := stAJ (fr := (mkF m 302 #[.val (.long pr), .second, .val (.long pa), .second, .val (.long pb), .second, .val (.int pc0), .val (.int ps), .val (.int pw), .val (.long x1), .second, .val (.long x2), .second, .val (.long x3), .second, .val (.int x4), .val (.int x5), .val (.ref b6), .val (.int (0 : Int32)), .unset, .unset, .unset] [(.long (-1 : Int64)), (.int (pw &&& x5)), (.ref b6)])) X38 hx hZ e38 A_b6 (i := ((pw &&& x5).toInt.toNat)) (own_wh _ _ nl hpm hs).1 (own_wh _ _ nl hpm hs).2 rfl rfl (hb hby at_302)
                    refine Goes.by st40 ?_
                    have A_b6 : AJ Z h40 b6 nl (up gz ((pw &&& x5).toInt.toNat) (-1 : Int64)) := A40
                    have N40 := Fr.snoc X40 N38 g_b6
                    have Zs40 : n0 ≤ h40.size := Nat.le_trans Zs22 (Keep.of_wr W40).1
                    have K40 : Keep h0 h40 [] := K22.wr W40 (Or.inr sz_b6)
                    show Goes p.tables e below (T40.setTop (mkF m 303 #[.val (.long pr), .second, .val (.long pa), .second, .val (.long pb), .second, .val (.int pc0), .val (.int ps), .val (.int pw), .val (.long x1), .second, .val (.long x2), .second, .val (.long x3), .second, .val (.int x4), .val (.int x5), .val (.ref b6), .val (.int (0 : Int32)), .unset, .unset, .unset] [])) _
                    exact cont23 (T40, _, h40, (up gz ((pw &&& x5).toInt.toNat) (-1 : Int64)), (0 : Int32)) ⟨X40, e40, N40, Zs40, A_b6, ⟨(pw &&& x5).toInt.toNat, (own_wh _ _ nl hpm hs).2, Or.inl (up_at _ _ _)⟩⟩
                  · refine Goes.by (fun _ k => XS.ifNo X38.here hx rfl (hb hby at_277) rfl ((if0 _ _).trans (feq hc39).1) k) ?_
                    show Goes p.tables e below (T38.setTop (mkF m 280 #[.val (.long pr), .second, .val (.long pa), .second, .val (.long pb), .second, .val (.int pc0), .val (.int ps), .val (.int pw), .val (.long x1), .second, .val (.long x2), .second, .val (.long x3), .second, .val (.int x4), .val (.int x5), .val (.ref b6), .unset, .unset, .unset, .unset] [])) _
                    refine Goes.by (fun _ k => XS.iconst X38.here hx rfl (hb hby at_280) k) ?_
                    show Goes p.tables e below (T38.setTop (mkF m 281 #[.val (.long pr), .second, .val (.long pa), .second, .val (.long pb), .second, .val (.int pc0), .val (.int ps), .val (.int pw), .val (.long x1), .second, .val (.long x2), .second, .val (.long x3), .second, .val (.int x4), .val (.int x5), .val (.ref b6), .unset, .unset, .unset, .unset] [(.int (1 : Int32))])) _
                    refine Goes.by (fun _ k => XS.goto X38.here hx rfl (pc0 := 281) (pc' := 285) rfl (hb hby at_281) (by decide) (by decide) k) ?_
                    show Goes p.tables e below (T38.setTop (mkF m 285 #[.val (.long pr), .second, .val (.long pa), .second, .val (.long pb), .second, .val (.int pc0), .val (.int ps), .val (.int pw), .val (.long x1), .second, .val (.long x2), .second, .val (.long x3), .second, .val (.int x4), .val (.int x5), .val (.ref b6), .unset, .unset, .unset, .unset] [(.int (1 : Int32))])) _
                    refine Goes.by (fun _ k => XS.istore X38.here hx rfl (hb hby at_285) rfl (l' := #[.val (.long pr), .second, .val (.long pa), .second, .val (.long pb), .second, .val (.int pc0), .val (.int ps), .val (.int pw), .val (.long x1), .second, .val (.long x2), .second, .val (.long x3), .second, .val (.int x4), .val (.int x5), .val (.ref b6), .val (.int (1 : Int32)), .unset, .unset, .unset]) rfl k) ?_
                    show Goes p.tables e below (T38.setTop (mkF m 287 #[.val (.long pr), .second, .val (.long pa), .second, .val (.long pb), .second, .val (.int pc0), .val (.int ps), .val (.int pw), .val (.long x1), .second, .val (.long x2), .second, .val (.long x3), .second, .val (.int x4), .val (.int x5), .val (.ref b6), .val (.int (1 : Int32)), .unset, .unset, .unset] [])) _
                    refine Goes.by (fun _ k => XS.iload X38.here hx rfl (hb hby at_287) rfl k) ?_
                    show Goes p.tables e below (T38.setTop (mkF m 289 #[.val (.long pr), .second, .val (.long pa), .second, .val (.long pb), .second, .val (.int pc0), .val (.int ps), .val (.int pw), .val (.long x1), .second, .val (.long x2), .second, .val (.long x3), .second, .val (.int x4), .val (.int x5), .val (.ref b6), .val (.int (1 : Int32)), .unset, .unset, .unset] [(.int (1 : Int32))])) _
                    refine Goes.by (fun _ k => XS.ifYes X38.here hx rfl (pc0 := 289) (pc' := 303) rfl (hb hby at_289) rfl ((if0 _ _).trans (feq (by decide : ¬ ((1 : Int32) = (0 : Int32)))).2) (by decide) (by decide) k) ?_
                    show Goes p.tables e below (T38.setTop (mkF m 303 #[.val (.long pr), .second, .val (.long pa), .second, .val (.long pb), .second, .val (.int pc0), .val (.int ps), .val (.int pw), .val (.long x1), .second, .val (.long x2), .second, .val (.long x3), .second, .val (.int x4), .val (.int x5), .val (.ref b6), .val (.int (1 : Int32)), .unset, .unset, .unset] [])) _
                    exact cont23 (T38, _, T22.heap, gz, (1 : Int32)) ⟨X38, e38, N38, Zs22, A_b6, ⟨7, own_isst _ _ _ _ _ _ (by decide) hz hc39⟩⟩
                · refine Goes.by (fun _ k => XS.ifYes X36.here hx rfl (pc0 := 265) (pc' := 280) rfl (hb hby at_265) rfl ((if0 _ _).trans (feq hc37).2) (by decide) (by decide) k) ?_
                  show Goes p.tables e below (T36.setTop (mkF m 280 #[.val (.long pr), .second, .val (.long pa), .second, .val (.long pb), .second, .val (.int pc0), .val (.int ps), .val (.int pw), .val (.long x1), .second, .val (.long x2), .second, .val (.long x3), .second, .val (.int x4), .val (.int x5), .val (.ref b6), .unset, .unset, .unset, .unset] [])) _
                  refine Goes.by (fun _ k => XS.iconst X36.here hx rfl (hb hby at_280) k) ?_
                  show Goes p.tables e below (T36.setTop (mkF m 281 #[.val (.long pr), .second, .val (.long pa), .second, .val (.long pb), .second, .val (.int pc0), .val (.int ps), .val (.int pw), .val (.long x1), .second, .val (.long x2), .second, .val (.long x3), .second, .val (.int x4), .val (.int x5), .val (.ref b6), .unset, .unset, .unset, .unset] [(.int (1 : Int32))])) _
                  refine Goes.by (fun _ k => XS.goto X36.here hx rfl (pc0 := 281) (pc' := 285) rfl (hb hby at_281) (by decide) (by decide) k) ?_
                  show Goes p.tables e below (T36.setTop (mkF m 285 #[.val (.long pr), .second, .val (.long pa), .second, .val (.long pb), .second, .val (.int pc0), .val (.int ps), .val (.int pw), .val (.long x1), .second, .val (.long x2), .second, .val (.long x3), .second, .val (.int x4), .val (.int x5), .val (.ref b6), .unset, .unset, .unset, .unset] [(.int (1 : Int32))])) _
                  refine Goes.by (fun _ k => XS.istore X36.here hx rfl (hb hby at_285) rfl (l' := #[.val (.long pr), .second, .val (.long pa), .second, .val (.long pb), .second, .val (.int pc0), .val (.int ps), .val (.int pw), .val (.long x1), .second, .val (.long x2), .second, .val (.long x3), .second, .val (.int x4), .val (.int x5), .val (.ref b6), .val (.int (1 : Int32)), .unset, .unset, .unset]) rfl k) ?_
                  show Goes p.tables e below (T36.setTop (mkF m 287 #[.val (.long pr), .second, .val (.long pa), .second, .val (.long pb), .second, .val (.int pc0), .val (.int ps), .val (.int pw), .val (.long x1), .second, .val (.long x2), .second, .val (.long x3), .second, .val (.int x4), .val (.int x5), .val (.ref b6), .val (.int (1 : Int32)), .unset, .unset, .unset] [])) _
                  refine Goes.by (fun _ k => XS.iload X36.here hx rfl (hb hby at_287) rfl k) ?_
                  show Goes p.tables e below (T36.setTop (mkF m 289 #[.val (.long pr), .second, .val (.long pa), .second, .val (.long pb), .second, .val (.int pc0), .val (.int ps), .val (.int pw), .val (.long x1), .second, .val (.long x2), .second, .val (.long x3), .second, .val (.int x4), .val (.int x5), .val (.ref b6), .val (.int (1 : Int32)), .unset, .unset, .unset] [(.int (1 : Int32))])) _
                  refine Goes.by (fun _ k => XS.ifYes X36.here hx rfl (pc0 := 289) (pc' := 303) rfl (hb hby at_289) rfl ((if0 _ _).trans (feq (by decide : ¬ ((1 : Int32) = (0 : Int32)))).2) (by decide) (by decide) k) ?_
                  show Goes p.tables e below (T36.setTop (mkF m 303 #[.val (.long pr), .second, .val (.long pa), .second, .val (.long pb), .second, .val (.int pc0), .val (.int ps), .val (.int pw), .val (.long x1), .second, .val (.long x2), .second, .val (.long x3), .second, .val (.int x4), .val (.int x5), .val (.ref b6), .val (.int (1 : Int32)), .unset, .unset, .unset] [])) _
                  exact cont23 (T36, _, T22.heap, gz, (1 : Int32)) ⟨X36, e36, N36, Zs22, A_b6, ⟨6, own_isst _ _ _ _ _ _ (by decide) hz hc37⟩⟩
              · refine Goes.by (fun _ k => XS.ifYes X34.here hx rfl (pc0 := 253) (pc' := 280) rfl (hb hby at_253) rfl ((if0 _ _).trans (feq hc35).2) (by decide) (by decide) k) ?_
                show Goes p.tables e below (T34.setTop (mkF m 280 #[.val (.long pr), .second, .val (.long pa), .second, .val (.long pb), .second, .val (.int pc0), .val (.int ps), .val (.int pw), .val (.long x1), .second, .val (.long x2), .second, .val (.long x3), .second, .val (.int x4), .val (.int x5), .val (.ref b6), .unset, .unset, .unset, .unset] [])) _
                refine Goes.by (fun _ k => XS.iconst X34.here hx rfl (hb hby at_280) k) ?_
                show Goes p.tables e below (T34.setTop (mkF m 281 #[.val (.long pr), .second, .val (.long pa), .second, .val (.long pb), .second, .val (.int pc0), .val (.int ps), .val (.int pw), .val (.long x1), .second, .val (.long x2), .second, .val (.long x3), .second, .val (.int x4), .val (.int x5), .val (.ref b6), .unset, .unset, .unset, .unset] [(.int (1 : Int32))])) _
                refine Goes.by (fun _ k => XS.goto X34.here hx rfl (pc0 := 281) (pc' := 285) rfl (hb hby at_281) (by decide) (by decide) k) ?_
                show Goes p.tables e below (T34.setTop (mkF m 285 #[.val (.long pr), .second, .val (.long pa), .second, .val (.long pb), .second, .val (.int pc0), .val (.int ps), .val (.int pw), .val (.long x1), .second, .val (.long x2), .second, .val (.long x3), .second, .val (.int x4), .val (.int x5), .val (.ref b6), .unset, .unset, .unset, .unset] [(.int (1 : Int32))])) _
                refine Goes.by (fun _ k => XS.istore X34.here hx rfl (hb hby at_285) rfl (l' := #[.val (.long pr), .second, .val (.long pa), .second, .val (.long pb), .second, .val (.int pc0), .val (.int ps), .val (.int pw), .val (.long x1), .second, .val (.long x2), .second, .val (.long x3), .second, .val (.int x4), .val (.int x5), .val (.ref b6), .val (.int (1 : Int32)), .unset, .unset, .unset]) rfl k) ?_
                show Goes p.tables e below (T34.setTop (mkF m 287 #[.val (.long pr), .second, .val (.long pa), .second, .val (.long pb), .second, .val (.int pc0), .val (.int ps), .val (.int pw), .val (.long x1), .second, .val (.long x2), .second, .val (.long x3), .second, .val (.int x4), .val (.int x5), .val (.ref b6), .val (.int (1 : Int32)), .unset, .unset, .unset] [])) _
                refine Goes.by (fun _ k => XS.iload X34.here hx rfl (hb hby at_287) rfl k) ?_
                show Goes p.tables e below (T34.setTop (mkF m 289 #[.val (.long pr), .second, .val (.long pa), .second, .val (.long pb), .second, .val (.int pc0), .val (.int ps), .val (.int pw), .val (.long x1), .second, .val (.long x2), .second, .val (.long x3), .second, .val (.int x4), .val (.int x5), .val (.ref b6), .val (.int (1 : Int32)), .unset, .unset, .unset] [(.int (1 : Int32))])) _
                refine Goes.by (fun _ k => XS.ifYes X34.here hx rfl (pc0 := 289) (pc' := 303) rfl (hb hby at_289) rfl ((if0 _ _).trans (feq (by decide : ¬ ((1 : Int32) = (0 : Int32)))).2) (by decide) (by decide) k) ?_
                show Goes p.tables e below (T34.setTop (mkF m 303 #[.val (.long pr), .second, .val (.long pa), .second, .val (.long pb), .second, .val (.int pc0), .val (.int ps), .val (.int pw), .val (.long x1), .second, .val (.long x2), .second, .val (.long x3), .second, .val (.int x4), .val (.int x5), .val (.ref b6), .val (.int (1 : Int32)), .unset, .unset, .unset] [])) _
                exact cont23 (T34, _, T22.heap, gz, (1 : Int32)) ⟨X34, e34, N34, Zs22, A_b6, ⟨5, own_isst _ _ _ _ _ _ (by decide) hz hc35⟩⟩
            · refine Goes.by (fun _ k => XS.ifYes X32.here hx rfl (pc0 := 242) (pc' := 280) rfl (hb hby at_242) rfl ((if0 _ _).trans (feq hc33).2) (by decide) (by decide) k) ?_
              show Goes p.tables e below (T32.setTop (mkF m 280 #[.val (.long pr), .second, .val (.long pa), .second, .val (.long pb), .second, .val (.int pc0), .val (.int ps), .val (.int pw), .val (.long x1), .second, .val (.long x2), .second, .val (.long x3), .second, .val (.int x4), .val (.int x5), .val (.ref b6), .unset, .unset, .unset, .unset] [])) _
              refine Goes.by (fun _ k => XS.iconst X32.here hx rfl (hb hby at_280) k) ?_
              show Goes p.tables e below (T32.setTop (mkF m 281 #[.val (.long pr), .second, .val (.long pa), .second, .val (.long pb), .second, .val (.int pc0), .val (.int ps), .val (.int pw), .val (.long x1), .second, .val (.long x2), .second, .val (.long x3), .second, .val (.int x4), .val (.int x5), .val (.ref b6), .unset, .unset, .unset, .unset] [(.int (1 : Int32))])) _
              refine Goes.by (fun _ k => XS.goto X32.here hx rfl (pc0 := 281) (pc' := 285) rfl (hb hby at_281) (by decide) (by decide) k) ?_
              show Goes p.tables e below (T32.setTop (mkF m 285 #[.val (.long pr), .second, .val (.long pa), .second, .val (.long pb), .second, .val (.int pc0), .val (.int ps), .val (.int pw), .val (.long x1), .second, .val (.long x2), .second, .val (.long x3), .second, .val (.int x4), .val (.int x5), .val (.ref b6), .unset, .unset, .unset, .unset] [(.int (1 : Int32))])) _
              refine Goes.by (fun _ k => XS.istore X32.here hx rfl (hb hby at_285) rfl (l' := #[.val (.long pr), .second, .val (.long pa), .second, .val (.long pb), .second, .val (.int pc0), .val (.int ps), .val (.int pw), .val (.long x1), .second, .val (.long x2), .second, .val (.long x3), .second, .val (.int x4), .val (.int x5), .val (.ref b6), .val (.int (1 : Int32)), .unset, .unset, .unset]) rfl k) ?_
              show Goes p.tables e below (T32.setTop (mkF m 287 #[.val (.long pr), .second, .val (.long pa), .second, .val (.long pb), .second, .val (.int pc0), .val (.int ps), .val (.int pw), .val (.long x1), .second, .val (.long x2), .second, .val (.long x3), .second, .val (.int x4), .val (.int x5), .val (.ref b6), .val (.int (1 : Int32)), .unset, .unset, .unset] [])) _
              refine Goes.by (fun _ k => XS.iload X32.here hx rfl (hb hby at_287) rfl k) ?_
              show Goes p.tables e below (T32.setTop (mkF m 289 #[.val (.long pr), .second, .val (.long pa), .second, .val (.long pb), .second, .val (.int pc0), .val (.int ps), .val (.int pw), .val (.long x1), .second, .val (.long x2), .second, .val (.long x3), .second, .val (.int x4), .val (.int x5), .val (.ref b6), .val (.int (1 : Int32)), .unset, .unset, .unset] [(.int (1 : Int32))])) _
              refine Goes.by (fun _ k => XS.ifYes X32.here hx rfl (pc0 := 289) (pc' := 303) rfl (hb hby at_289) rfl ((if0 _ _).trans (feq (by decide : ¬ ((1 : Int32) = (0 : Int32)))).2) (by decide) (by decide) k) ?_
              show Goes p.tables e below (T32.setTop (mkF m 303 #[.val (.long pr), .second, .val (.long pa), .second, .val (.long pb), .second, .val (.int pc0), .val (.int ps), .val (.int pw), .val (.long x1), .second, .val (.long x2), .second, .val (.long x3), .second, .val (.int x4), .val (.int x5), .val (.ref b6), .val (.int (1 : Int32)), .unset, .unset, .unset] [])) _
              exact cont23 (T32, _, T22.heap, gz, (1 : Int32)) ⟨X32, e32, N32, Zs22, A_b6, ⟨4, own_isst _ _ _ _ _ _ (by decide) hz hc33⟩⟩
          · refine Goes.by (fun _ k => XS.ifYes X30.here hx rfl (pc0 := 231) (pc' := 280) rfl (hb hby at_231) rfl ((if0 _ _).trans (feq hc31).2) (by decide) (by decide) k) ?_
            show Goes p.tables e below (T30.setTop (mkF m 280 #[.val (.long pr), .second, .val (.long pa), .second, .val (.long pb), .second, .val (.int pc0), .val (.int ps), .val (.int pw), .val (.long x1), .second, .val (.long x2), .second, .val (.long x3), .second, .val (.int x4), .val (.int x5), .val (.ref b6), .unset, .unset, .unset, .unset] [])) _
            refine Goes.by (fun _ k => XS.iconst X30.here hx rfl (hb hby at_280) k) ?_
            show Goes p.tables e below (T30.setTop (mkF m 281 #[.val (.long pr), .second, .val (.long pa), .second, .val (.long pb), .second, .val (.int pc0), .val (.int ps), .val (.int pw), .val (.long x1), .second, .val (.long x2), .second, .val (.long x3), .second, .val (.int x4), .val (.int x5), .val (.ref b6), .unset, .unset, .unset, .unset] [(.int (1 : Int32))])) _
            refine Goes.by (fun _ k => XS.goto X30.here hx rfl (pc0 := 281) (pc' := 285) rfl (hb hby at_281) (by decide) (by decide) k) ?_
            show Goes p.tables e below (T30.setTop (mkF m 285 #[.val (.long pr), .second, .val (.long pa), .second, .val (.long pb), .second, .val (.int pc0), .val (.int ps), .val (.int pw), .val (.long x1), .second, .val (.long x2), .second, .val (.long x3), .second, .val (.int x4), .val (.int x5), .val (.ref b6), .unset, .unset, .unset, .unset] [(.int (1 : Int32))])) _
            refine Goes.by (fun _ k => XS.istore X30.here hx rfl (hb hby at_285) rfl (l' := #[.val (.long pr), .second, .val (.long pa), .second, .val (.long pb), .second, .val (.int pc0), .val (.int ps), .val (.int pw), .val (.long x1), .second, .val (.long x2), .second, .val (.long x3), .second, .val (.int x4), .val (.int x5), .val (.ref b6), .val (.int (1 : Int32)), .unset, .unset, .unset]) rfl k) ?_
            show Goes p.tables e below (T30.setTop (mkF m 287 #[.val (.long pr), .second, .val (.long pa), .second, .val (.long pb), .second, .val (.int pc0), .val (.int ps), .val (.int pw), .val (.long x1), .second, .val (.long x2), .second, .val (.long x3), .second, .val (.int x4), .val (.int x5), .val (.ref b6), .val (.int (1 : Int32)), .unset, .unset, .unset] [])) _
            refine Goes.by (fun _ k => XS.iload X30.here hx rfl (hb hby at_287) rfl k) ?_
            show Goes p.tables e below (T30.setTop (mkF m 289 #[.val (.long pr), .second, .val (.long pa), .second, .val (.long pb), .second, .val (.int pc0), .val (.int ps), .val (.int pw), .val (.long x1), .second, .val (.long x2), .second, .val (.long x3), .second, .val (.int x4), .val (.int x5), .val (.ref b6), .val (.int (1 : Int32)), .unset, .unset, .unset] [(.int (1 : Int32))])) _
            refine Goes.by (fun _ k => XS.ifYes X30.here hx rfl (pc0 := 289) (pc' := 303) rfl (hb hby at_289) rfl ((if0 _ _).trans (feq (by decide : ¬ ((1 : Int32) = (0 : Int32)))).2) (by decide) (by decide) k) ?_
            show Goes p.tables e below (T30.setTop (mkF m 303 #[.val (.long pr), .second, .val (.long pa), .second, .val (.long pb), .second, .val (.int pc0), .val (.int ps), .val (.int pw), .val (.long x1), .second, .val (.long x2), .second, .val (.long x3), .second, .val (.int x4), .val (.int x5), .val (.ref b6), .val (.int (1 : Int32)), .unset, .unset, .unset] [])) _
            exact cont23 (T30, _, T22.heap, gz, (1 : Int32)) ⟨X30, e30, N30, Zs22, A_b6, ⟨3, own_isst _ _ _ _ _ _ (by decide) hz hc31⟩⟩
        · refine Goes.by (fun _ k => XS.ifYes X28.here hx rfl (pc0 := 220) (pc' := 280) rfl (hb hby at_220) rfl ((if0 _ _).trans (feq hc29).2) (by decide) (by decide) k) ?_
          show Goes p.tables e below (T28.setTop (mkF m 280 #[.val (.long pr), .second, .val (.long pa), .second, .val (.long pb), .second, .val (.int pc0), .val (.int ps), .val (.int pw), .val (.long x1), .second, .val (.long x2), .second, .val (.long x3), .second, .val (.int x4), .val (.int x5), .val (.ref b6), .unset, .unset, .unset, .unset] [])) _
          refine Goes.by (fun _ k => XS.iconst X28.here hx rfl (hb hby at_280) k) ?_
          show Goes p.tables e below (T28.setTop (mkF m 281 #[.val (.long pr), .second, .val (.long pa), .second, .val (.long pb), .second, .val (.int pc0), .val (.int ps), .val (.int pw), .val (.long x1), .second, .val (.long x2), .second, .val (.long x3), .second, .val (.int x4), .val (.int x5), .val (.ref b6), .unset, .unset, .unset, .unset] [(.int (1 : Int32))])) _
          refine Goes.by (fun _ k => XS.goto X28.here hx rfl (pc0 := 281) (pc' := 285) rfl (hb hby at_281) (by decide) (by decide) k) ?_
          show Goes p.tables e below (T28.setTop (mkF m 285 #[.val (.long pr), .second, .val (.long pa), .second, .val (.long pb), .second, .val (.int pc0), .val (.int ps), .val (.int pw), .val (.long x1), .second, .val (.long x2), .second, .val (.long x3), .second, .val (.int x4), .val (.int x5), .val (.ref b6), .unset, .unset, .unset, .unset] [(.int (1 : Int32))])) _
          refine Goes.by (fun _ k => XS.istore X28.here hx rfl (hb hby at_285) rfl (l' := #[.val (.long pr), .second, .val (.long pa), .second, .val (.long pb), .second, .val (.int pc0), .val (.int ps), .val (.int pw), .val (.long x1), .second, .val (.long x2), .second, .val (.long x3), .second, .val (.int x4), .val (.int x5), .val (.ref b6), .val (.int (1 : Int32)), .unset, .unset, .unset]) rfl k) ?_
          show Goes p.tables e below (T28.setTop (mkF m 287 #[.val (.long pr), .second, .val (.long pa), .second, .val (.long pb), .second, .val (.int pc0), .val (.int ps), .val (.int pw), .val (.long x1), .second, .val (.long x2), .second, .val (.long x3), .second, .val (.int x4), .val (.int x5), .val (.ref b6), .val (.int (1 : Int32)), .unset, .unset, .unset] [])) _
          refine Goes.by (fun _ k => XS.iload X28.here hx rfl (hb hby at_287) rfl k) ?_
          show Goes p.tables e below (T28.setTop (mkF m 289 #[.val (.long pr), .second, .val (.long pa), .second, .val (.long pb), .second, .val (.int pc0), .val (.int ps), .val (.int pw), .val (.long x1), .second, .val (.long x2), .second, .val (.long x3), .second, .val (.int x4), .val (.int x5), .val (.ref b6), .val (.int (1 : Int32)), .unset, .unset, .unset] [(.int (1 : Int32))])) _
          refine Goes.by (fun _ k => XS.ifYes X28.here hx rfl (pc0 := 289) (pc' := 303) rfl (hb hby at_289) rfl ((if0 _ _).trans (feq (by decide : ¬ ((1 : Int32) = (0 : Int32)))).2) (by decide) (by decide) k) ?_
          show Goes p.tables e below (T28.setTop (mkF m 303 #[.val (.long pr), .second, .val (.long pa), .second, .val (.long pb), .second, .val (.int pc0), .val (.int ps), .val (.int pw), .val (.long x1), .second, .val (.long x2), .second, .val (.long x3), .second, .val (.int x4), .val (.int x5), .val (.ref b6), .val (.int (1 : Int32)), .unset, .unset, .unset] [])) _
          exact cont23 (T28, _, T22.heap, gz, (1 : Int32)) ⟨X28, e28, N28, Zs22, A_b6, ⟨2, own_isst _ _ _ _ _ _ (by decide) hz hc29⟩⟩
      · refine Goes.by (fun _ k => XS.ifYes X26.here hx rfl (pc0 := 209) (pc' := 280) rfl (hb hby at_209) rfl ((if0 _ _).trans (feq hc27).2) (by decide) (by decide) k) ?_
        show Goes p.tables e below (T26.setTop (mkF m 280 #[.val (.long pr), .second, .val (.long pa), .second, .val (.long pb), .second, .val (.int pc0), .val (.int ps), .val (.int pw), .val (.long x1), .second, .val (.long x2), .second, .val (.long x3), .second, .val (.int x4), .val (.int x5), .val (.ref b6), .unset, .unset, .unset, .unset] [])) _
        refine Goes.by (fun _ k => XS.iconst X26.here hx rfl (hb hby at_280) k) ?_
        show Goes p.tables e below (T26.setTop (mkF m 281 #[.val (.long pr), .second, .val (.long pa), .second, .val (.long pb), .second, .val (.int pc0), .val (.int ps), .val (.int pw), .val (.long x1), .second, .val (.long x2), .second, .val (.long x3), .second, .val (.int x4), .val (.int x5), .val (.ref b6), .unset, .unset, .unset, .unset] [(.int (1 : Int32))])) _
        refine Goes.by (fun _ k => XS.goto X26.here hx rfl (pc0 := 281) (pc' := 285) rfl (hb hby at_281) (by decide) (by decide) k) ?_
        show Goes p.tables e below (T26.setTop (mkF m 285 #[.val (.long pr), .second, .val (.long pa), .second, .val (.long pb), .second, .val (.int pc0), .val (.int ps), .val (.int pw), .val (.long x1), .second, .val (.long x2), .second, .val (.long x3), .second, .val (.int x4), .val (.int x5), .val (.ref b6), .unset, .unset, .unset, .unset] [(.int (1 : Int32))])) _
        refine Goes.by (fun _ k => XS.istore X26.here hx rfl (hb hby at_285) rfl (l' := #[.val (.long pr), .second, .val (.long pa), .second, .val (.long pb), .second, .val (.int pc0), .val (.int ps), .val (.int pw), .val (.long x1), .second, .val (.long x2), .second, .val (.long x3), .second, .val (.int x4), .val (.int x5), .val (.ref b6), .val (.int (1 : Int32)), .unset, .unset, .unset]) rfl k) ?_
        show Goes p.tables e below (T26.setTop (mkF m 287 #[.val (.long pr), .second, .val (.long pa), .second, .val (.long pb), .second, .val (.int pc0), .val (.int ps), .val (.int pw), .val (.long x1), .second, .val (.long x2), .second, .val (.long x3), .second, .val (.int x4), .val (.int x5), .val (.ref b6), .val (.int (1 : Int32)), .unset, .unset, .unset] [])) _
        refine Goes.by (fun _ k => XS.iload X26.here hx rfl (hb hby at_287) rfl k) ?_
        show Goes p.tables e below (T26.setTop (mkF m 289 #[.val (.long pr), .second, .val (.long pa), .second, .val (.long pb), .second, .val (.int pc0), .val (.int ps), .val (.int pw), .val (.long x1), .second, .val (.long x2), .second, .val (.long x3), .second, .val (.int x4), .val (.int x5), .val (.ref b6), .val (.int (1 : Int32)), .unset, .unset, .unset] [(.int (1 : Int32))])) _
        refine Goes.by (fun _ k => XS.ifYes X26.here hx rfl (pc0 := 289) (pc' := 303) rfl (hb hby at_289) rfl ((if0 _ _).trans (feq (by decide : ¬ ((1 : Int32) = (0 : Int32)))).2) (by decide) (by decide) k) ?_
        show Goes p.tables e below (T26.setTop (mkF m 303 #[.val (.long pr), .second, .val (.long pa), .second, .val (.long pb), .second, .val (.int pc0), .val (.int ps), .val (.int pw), .val (.long x1), .second, .val (.long x2), .second, .val (.long x3), .second, .val (.int x4), .val (.int x5), .val (.ref b6), .val (.int (1 : Int32)), .unset, .unset, .unset] [])) _
        exact cont23 (T26, _, T22.heap, gz, (1 : Int32)) ⟨X26, e26, N26, Zs22, A_b6, ⟨1, own_isst _ _ _ _ _ _ (by decide) hz hc27⟩⟩
    · refine Goes.by (fun _ k => XS.ifYes X24.here hx rfl (pc0 := 198) (pc' := 280) rfl (hb hby at_198) rfl ((if0 _ _).trans (feq hc25).2) (by decide) (by decide) k) ?_
      show Goes p.tables e below (T24.setTop (mkF m 280 #[.val (.long pr), .second, .val (.long pa), .second, .val (.long pb), .second, .val (.int pc0), .val (.int ps), .val (.int pw), .val (.long x1), .second, .val (.long x2), .second, .val (.long x3), .second, .val (.int x4), .val (.int x5), .val (.ref b6), .unset, .unset, .unset, .unset] [])) _
      refine Goes.by (fun _ k => XS.iconst X24.here hx rfl (hb hby at_280) k) ?_
      show Goes p.tables e below (T24.setTop (mkF m 281 #[.val (.long pr), .second, .val (.long pa), .second, .val (.long pb), .second, .val (.int pc0), .val (.int ps), .val (.int pw), .val (.long x1), .second, .val (.long x2), .second, .val (.long x3), .second, .val (.int x4), .val (.int x5), .val (.ref b6), .unset, .unset, .unset, .unset] [(.int (1 : Int32))])) _
      refine Goes.by (fun _ k => XS.goto X24.here hx rfl (pc0 := 281) (pc' := 285) rfl (hb hby at_281) (by decide) (by decide) k) ?_
      show Goes p.tables e below (T24.setTop (mkF m 285 #[.val (.long pr), .second, .val (.long pa), .second, .val (.long pb), .second, .val (.int pc0), .val (.int ps), .val (.int pw), .val (.long x1), .second, .val (.long x2), .second, .val (.long x3), .second, .val (.int x4), .val (.int x5), .val (.ref b6), .unset, .unset, .unset, .unset] [(.int (1 : Int32))])) _
      refine Goes.by (fun _ k => XS.istore X24.here hx rfl (hb hby at_285) rfl (l' := #[.val (.long pr), .second, .val (.long pa), .second, .val (.long pb), .second, .val (.int pc0), .val (.int ps), .val (.int pw), .val (.long x1), .second, .val (.long x2), .second, .val (.long x3), .second, .val (.int x4), .val (.int x5), .val (.ref b6), .val (.int (1 : Int32)), .unset, .unset, .unset]) rfl k) ?_
      show Goes p.tables e below (T24.setTop (mkF m 287 #[.val (.long pr), .second, .val (.long pa), .second, .val (.long pb), .second, .val (.int pc0), .val (.int ps), .val (.int pw), .val (.long x1), .second, .val (.long x2), .second, .val (.long x3), .second, .val (.int x4), .val (.int x5), .val (.ref b6), .val (.int (1 : Int32)), .unset, .unset, .unset] [])) _
      refine Goes.by (fun _ k => XS.iload X24.here hx rfl (hb hby at_287) rfl k) ?_
      show Goes p.tables e below (T24.setTop (mkF m 289 #[.val (.long pr), .second, .val (.long pa), .second, .val (.long pb), .second, .val (.int pc0), .val (.int ps), .val (.int pw), .val (.long x1), .second, .val (.long x2), .second, .val (.long x3), .second, .val (.int x4), .val (.int x5), .val (.ref b6), .val (.int (1 : Int32)), .unset, .unset, .unset] [(.int (1 : Int32))])) _
      refine Goes.by (fun _ k => XS.ifYes X24.here hx rfl (pc0 := 289) (pc' := 303) rfl (hb hby at_289) rfl ((if0 _ _).trans (feq (by decide : ¬ ((1 : Int32) = (0 : Int32)))).2) (by decide) (by decide) k) ?_
      show Goes p.tables e below (T24.setTop (mkF m 303 #[.val (.long pr), .second, .val (.long pa), .second, .val (.long pb), .second, .val (.int pc0), .val (.int ps), .val (.int pw), .val (.long x1), .second, .val (.long x2), .second, .val (.long x3), .second, .val (.int x4), .val (.int x5), .val (.ref b6), .val (.int (1 : Int32)), .unset, .unset, .unset] [])) _
      exact cont23 (T24, _, T22.heap, gz, (1 : Int32)) ⟨X24, e24, N24, Zs22, A_b6, ⟨0, own_isst _ _ _ _ _ _ (by decide) hz hc25⟩⟩
  obtain ⟨T41, L41, h41, gy, v41⟩ := x
  obtain ⟨X41, e41, N41, Zs41, A_b6, hex⟩ := hC
  dsimp only at X41 e41 N41 Zs41 A_b6 hex
  show Goes p.tables e below (T41.setTop (mkF m 303 #[.val (.long pr), .second, .val (.long pa), .second, .val (.long pb), .second, .val (.int pc0), .val (.int ps), .val (.int pw), .val (.long x1), .second, .val (.long x2), .second, .val (.long x3), .second, .val (.int x4), .val (.int x5), .val (.ref b6), .val (.int v41), .unset, .unset, .unset] [])) _
  refine Goes.by (fun _ k => XS.aload X41.here hx rfl (hb hby at_303) rfl rfl k) ?_
  show Goes p.tables e below (T41.setTop (mkF m 305 #[.val (.long pr), .second, .val (.long pa), .second, .val (.long pb), .second, .val (.int pc0), .val (.int ps), .val (.int pw), .val (.long x1), .second, .val (.long x2), .second, .val (.long x3), .second, .val (.int x4), .val (.int x5), .val (.ref b6), .val (.int v41), .unset, .unset, .unset] [(.ref b6)])) _
  refine Goes.by (fun _ k => XS.lload X41.here hx rfl (hb hby at_305) rfl k) ?_
  show Goes p.tables e below (T41.setTop (mkF m 307 #[.val (.long pr), .second, .val (.long pa), .second, .val (.long pb), .second, .val (.int pc0), .val (.int ps), .val (.int pw), .val (.long x1), .second, .val (.long x2), .second, .val (.long x3), .second, .val (.int x4), .val (.int x5), .val (.ref b6), .val (.int v41), .unset, .unset, .unset] [(.long x1), (.ref b6)])) _
  obtain ⟨_, _, ⟨T42, L42, k42, n42⟩, -, X42, ⟨Lc42, hQ42, l42, y42, z42⟩, st42⟩ := Jvm.LawKit.callS X41 hx (y := (⟨"com/example/xml_graph_join/xmlgraphjoin/labels/PackedSlots", "find", "([JJ)I"⟩ : MethodName)) hown (mvT hZ (hw _ (List.mem_of_getElem? (i := 13) rfl))) (mvT hZ (hw _ (List.mem_of_getElem? (i := 14) rfl))) (mvT hZ (hw _ (List.mem_of_getElem? (i := 15) rfl))) (mvT hZ (hw _ (List.mem_of_getElem? (i := 16) rfl))) (by decide) (backOf (W := 0) (rm4 l Z a0 hw [] b6 x1 gy nl x4 x5 h41 n0 Zs41 A_b6 (hz) (hx5) (hpm) (hs) (hex)) hZ (hw _ (List.mem_of_getElem? (i := 16) rfl)) (hw _ (List.mem_of_getElem? (i := 15) rfl)) (by decide) (by decide)) (g := (mkF m 307 #[.val (.long pr), .second, .val (.long pa), .second, .val (.long pb), .second, .val (.int pc0), .val (.int ps), .val (.int pw), .val (.long x1), .second, .val (.long x2), .second, .val (.long x3), .second, .val (.int x4), .val (.int x5), .val (.ref b6), .val (.int v41), .unset, .unset, .unset] [(.long x1), (.ref b6)])) rfl (by rw [hml]; rfl) (argsL := [(.ref b6), (.long x1)]) (rest := []) (lenOf pd_3 rfl) rfl (by show 2 * 0 + _ ≤ _; exact Nat.le_of_eq rfl) (hb hby at_307) (fun _ _ => ⟨rfl, e41, (by decide : 1 + 0 ≤ _), (by decide : 8 + 0 ≤ _)⟩)
  dsimp only [Pt.U, Pt.locs, Pt.cells, Pt.slots] at X42 l42 y42 z42 st42 hQ42
  rw [l42, y42, z42] at X42
  obtain ⟨zr_42, zd_42, rfl, N42q, e42, po42_0, po42_1, po42_2, po42_3⟩ := hQ42
  have N42 := Fr.app N41 N42q
  refine Goes.by st42 ?_
  have hr1_42 := po42_0
  have hr2_42 := po42_1
  have hr3_42 := po42_2
  have hr4_42 := po42_3
  obtain ⟨hh1, hh2⟩ := own_hm x1 x5 nl hpm hs
  show Goes p.tables e below (T42.setTop (mkF m 310 #[.val (.long pr), .second, .val (.long pa), .second, .val (.long pb), .second, .val (.int pc0), .val (.int ps), .val (.int pw), .val (.long x1), .second, .val (.long x2), .second, .val (.long x3), .second, .val (.int x4), .val (.int x5), .val (.ref b6), .val (.int v41), .unset, .unset, .unset] [(.int zr_42)])) _
  refine Goes.by (fun _ k => XS.istore X42.here hx rfl (hb hby at_310) rfl (l' := #[.val (.long pr), .second, .val (.long pa), .second, .val (.long pb), .second, .val (.int pc0), .val (.int ps), .val (.int pw), .val (.long x1), .second, .val (.long x2), .second, .val (.long x3), .second, .val (.int x4), .val (.int x5), .val (.ref b6), .val (.int v41), .val (.int zr_42), .unset, .unset]) rfl k) ?_
  show Goes p.tables e below (T42.setTop (mkF m 312 #[.val (.long pr), .second, .val (.long pa), .second, .val (.long pb), .second, .val (.int pc0), .val (.int ps), .val (.int pw), .val (.long x1), .second, .val (.long x2), .second, .val (.long x3), .second, .val (.int x4), .val (.int x5), .val (.ref b6), .val (.int v41), .val (.int zr_42), .unset, .unset] [])) _
  refine Goes.by (fun _ k => XS.iload X42.here hx rfl (hb hby at_312) rfl k) ?_
  show Goes p.tables e below (T42.setTop (mkF m 314 #[.val (.long pr), .second, .val (.long pa), .second, .val (.long pb), .second, .val (.int pc0), .val (.int ps), .val (.int pw), .val (.long x1), .second, .val (.long x2), .second, .val (.long x3), .second, .val (.int x4), .val (.int x5), .val (.ref b6), .val (.int v41), .val (.int zr_42), .unset, .unset] [(.int zr_42)])) _
  refine Goes.by (fun _ k => XS.ifNo X42.here hx rfl (hb hby at_314) rfl ((if0 _ _).trans (flt (own_nn hr1_42 : ¬ (zr_42 < (0 : Int32)))).1) k) ?_
  show Goes p.tables e below (T42.setTop (mkF m 317 #[.val (.long pr), .second, .val (.long pa), .second, .val (.long pb), .second, .val (.int pc0), .val (.int ps), .val (.int pw), .val (.long x1), .second, .val (.long x2), .second, .val (.long x3), .second, .val (.int x4), .val (.int x5), .val (.ref b6), .val (.int v41), .val (.int zr_42), .unset, .unset] [])) _
  refine Goes.by (fun _ k => XS.iload X42.here hx rfl (hb hby at_317) rfl k) ?_
  show Goes p.tables e below (T42.setTop (mkF m 319 #[.val (.long pr), .second, .val (.long pa), .second, .val (.long pb), .second, .val (.int pc0), .val (.int ps), .val (.int pw), .val (.long x1), .second, .val (.long x2), .second, .val (.long x3), .second, .val (.int x4), .val (.int x5), .val (.ref b6), .val (.int v41), .val (.int zr_42), .unset, .unset] [(.int zr_42)])) _
  refine Goes.by (fun _ k => XS.iload X42.here hx rfl (hb hby at_319) rfl k) ?_
  show Goes p.tables e below (T42.setTop (mkF m 321 #[.val (.long pr), .second, .val (.long pa), .second, .val (.long pb), .second, .val (.int pc0), .val (.int ps), .val (.int pw), .val (.long x1), .second, .val (.long x2), .second, .val (.long x3), .second, .val (.int x4), .val (.int x5), .val (.ref b6), .val (.int v41), .val (.int zr_42), .unset, .unset] [(.int x4), (.int zr_42)])) _
  refine Goes.by (fun _ k => XS.icmpYes X42.here hx rfl (pc0 := 321) (pc' := 326) rfl (hb hby at_321) rfl (tlt (own_ltI hr1_42 hz (Nat.mod_lt _ hnl0) : zr_42 < x4)).1 (by decide) (by decide) k) ?_
  show Goes p.tables e below (T42.setTop (mkF m 326 #[.val (.long pr), .second, .val (.long pa), .second, .val (.long pb), .second, .val (.int pc0), .val (.int ps), .val (.int pw), .val (.long x1), .second, .val (.long x2), .second, .val (.long x3), .second, .val (.int x4), .val (.int x5), .val (.ref b6), .val (.int v41), .val (.int zr_42), .unset, .unset] [])) _
  refine Goes.by (fun _ k => XS.aload X42.here hx rfl (hb hby at_326) rfl rfl k) ?_
  show Goes p.tables e below (T42.setTop (mkF m 328 #[.val (.long pr), .second, .val (.long pa), .second, .val (.long pb), .second, .val (.int pc0), .val (.int ps), .val (.int pw), .val (.long x1), .second, .val (.long x2), .second, .val (.long x3), .second, .val (.int x4), .val (.int x5), .val (.ref b6), .val (.int v41), .val (.int zr_42), .unset, .unset] [(.ref b6)])) _
  refine Goes.by (fun _ k => XS.iload X42.here hx rfl (hb hby at_328) rfl k) ?_
  show Goes p.tables e below (T42.setTop (mkF m 330 #[.val (.long pr), .second, .val (.long pa), .second, .val (.long pb), .second, .val (.int pc0), .val (.int ps), .val (.int pw), .val (.long x1), .second, .val (.long x2), .second, .val (.long x3), .second, .val (.int x4), .val (.int x5), .val (.ref b6), .val (.int v41), .val (.int zr_42), .unset, .unset] [(.int zr_42), (.ref b6)])) _
  obtain ⟨x43, hx43⟩ : ∃ z : Int64, z = (gy ((((own_home x1 x5).toInt.toNat) + zd_42) % nl)) := ⟨_, rfl⟩
  refine Goes.by (fun _ k => ldJ (v := x43) (fr := (mkF m 330 #[.val (.long pr), .second, .val (.long pa), .second, .val (.long pb), .second, .val (.int pc0), .val (.int ps), .val (.int pw), .val (.long x1), .second, .val (.long x2), .second, .val (.long x3), .second, .val (.int x4), .val (.int x5), .val (.ref b6), .val (.int v41), .val (.int zr_42), .unset, .unset] [(.int zr_42), (.ref b6)])) X42 hx hZ e42 A_b6 (i := ((((own_home x1 x5).toInt.toNat) + zd_42) % nl)) hr1_42 (Nat.mod_lt _ hnl0) hx43 rfl rfl (hb hby at_330) k) ?_
  show Goes p.tables e below (T42.setTop (mkF m 331 #[.val (.long pr), .second, .val (.long pa), .second, .val (.long pb), .second, .val (.int pc0), .val (.int ps), .val (.int pw), .val (.long x1), .second, .val (.long x2), .second, .val (.long x3), .second, .val (.int x4), .val (.int x5), .val (.ref b6), .val (.int v41), .val (.int zr_42), .unset, .unset] [(.long x43)])) _
  refine Goes.by (fun _ k => X42.ldc2J hx hown (mvT hZ (hw _ (List.mem_of_getElem? (i := 9) rfl))) (g := (mkF m 331 #[.val (.long pr), .second, .val (.long pa), .second, .val (.long pb), .second, .val (.int pc0), .val (.int ps), .val (.int pw), .val (.long x1), .second, .val (.long x2), .second, .val (.long x3), .second, .val (.int x4), .val (.int x5), .val (.ref b6), .val (.int v41), .val (.int zr_42), .unset, .unset] [(.long x43)])) rfl (hb hby at_331) k) ?_
  show Goes p.tables e below (T42.setTop (mkF m 334 #[.val (.long pr), .second, .val (.long pa), .second, .val (.long pb), .second, .val (.int pc0), .val (.int ps), .val (.int pw), .val (.long x1), .second, .val (.long x2), .second, .val (.long x3), .second, .val (.int x4), .val (.int x5), .val (.ref b6), .val (.int v41), .val (.int zr_42), .unset, .unset] [(.long (-1 : Int64)), (.long x43)])) _
  refine Goes.by (fun _ k => XS.lcmp X42.here hx rfl (hb hby at_334) rfl k) ?_
  show Goes p.tables e below (T42.setTop (mkF m 335 #[.val (.long pr), .second, .val (.long pa), .second, .val (.long pb), .second, .val (.int pc0), .val (.int ps), .val (.int pw), .val (.long x1), .second, .val (.long x2), .second, .val (.long x3), .second, .val (.int x4), .val (.int x5), .val (.ref b6), .val (.int v41), .val (.int zr_42), .unset, .unset] [(.int (lcmpW x43 (-1 : Int64)))])) _
  refine Goes.cut (α := Unit) (K := fun _ => T42.setTop (mkF m 351 #[.val (.long pr), .second, .val (.long pa), .second, .val (.long pb), .second, .val (.int pc0), .val (.int ps), .val (.int pw), .val (.long x1), .second, .val (.long x2), .second, .val (.long x3), .second, .val (.int x4), .val (.int x5), .val (.ref b6), .val (.int v41), .val (.int zr_42), .unset, .unset] [])) (C := fun _ => True) (fun cont44 => ?_) (fun _ _ => ?_)
  · show Goes p.tables e below (T42.setTop (mkF m 335 #[.val (.long pr), .second, .val (.long pa), .second, .val (.long pb), .second, .val (.int pc0), .val (.int ps), .val (.int pw), .val (.long x1), .second, .val (.long x2), .second, .val (.long x3), .second, .val (.int x4), .val (.int x5), .val (.ref b6), .val (.int v41), .val (.int zr_42), .unset, .unset] [(.int (lcmpW x43 (-1 : Int64)))])) _
    by_cases hc45 : x43 = (-1 : Int64)
    · refine Goes.by (fun _ k => XS.ifYes X42.here hx rfl (pc0 := 335) (pc' := 351) rfl (hb hby at_335) rfl (je_t hc45).1 (by decide) (by decide) k) ?_
      show Goes p.tables e below (T42.setTop (mkF m 351 #[.val (.long pr), .second, .val (.long pa), .second, .val (.long pb), .second, .val (.int pc0), .val (.int ps), .val (.int pw), .val (.long x1), .second, .val (.long x2), .second, .val (.long x3), .second, .val (.int x4), .val (.int x5), .val (.ref b6), .val (.int v41), .val (.int zr_42), .unset, .unset] [])) _
      exact cont44 () trivial
    · refine Goes.by (fun _ k => XS.ifNo X42.here hx rfl (hb hby at_335) rfl (je_f hc45).1 k) ?_
      show Goes p.tables e below (T42.setTop (mkF m 338 #[.val (.long pr), .second, .val (.long pa), .second, .val (.long pb), .second, .val (.int pc0), .val (.int ps), .val (.int pw), .val (.long x1), .second, .val (.long x2), .second, .val (.long x3), .second, .val (.int x4), .val (.int x5), .val (.ref b6), .val (.int v41), .val (.int zr_42), .unset, .unset] [])) _
      refine Goes.by (fun _ k => XS.aload X42.here hx rfl (hb hby at_338) rfl rfl k) ?_
      show Goes p.tables e below (T42.setTop (mkF m 340 #[.val (.long pr), .second, .val (.long pa), .second, .val (.long pb), .second, .val (.int pc0), .val (.int ps), .val (.int pw), .val (.long x1), .second, .val (.long x2), .second, .val (.long x3), .second, .val (.int x4), .val (.int x5), .val (.ref b6), .val (.int v41), .val (.int zr_42), .unset, .unset] [(.ref b6)])) _
      refine Goes.by (fun _ k => XS.iload X42.here hx rfl (hb hby at_340) rfl k) ?_
      show Goes p.tables e below (T42.setTop (mkF m 342 #[.val (.long pr), .second, .val (.long pa), .second, .val (.long pb), .second, .val (.int pc0), .val (.int ps), .val (.int pw), .val (.long x1), .second, .val (.long x2), .second, .val (.long x3), .second, .val (.int x4), .val (.int x5), .val (.ref b6), .val (.int v41), .val (.int zr_42), .unset, .unset] [(.int zr_42), (.ref b6)])) _
      obtain ⟨x46, hx46⟩ : ∃ z : Int64, z = (gy ((((own_home x1 x5).toInt.toNat) + zd_42) % nl)) := ⟨_, rfl⟩
      refine Goes.by (fun _ k => ldJ (v := x46) (fr := (mkF m 342 #[.val (.long pr), .second, .val (.long pa), .second, .val (.long pb), .second, .val (.int pc0), .val (.int ps), .val (.int pw), .val (.long x1), .second, .val (.long x2), .second, .val (.long x3), .second, .val (.int x4), .val (.int x5), .val (.ref b6), .val (.int v41), .val (.int zr_42), .unset, .unset] [(.int zr_42), (.ref b6)])) X42 hx hZ e42 A_b6 (i := ((((own_home x1 x5).toInt.toNat) + zd_42) % nl)) hr1_42 (Nat.mod_lt _ hnl0) hx46 rfl rfl (hb hby at_342) k) ?_
      show Goes p.tables e below (T42.setTop (mkF m 343 #[.val (.long pr), .second, .val (.long pa), .second, .val (.long pb), .second, .val (.int pc0), .val (.int ps), .val (.int pw), .val (.long x1), .second, .val (.long x2), .second, .val (.long x3), .second, .val (.int x4), .val (.int x5), .val (.ref b6), .val (.int v41), .val (.int zr_42), .unset, .unset] [(.long x46)])) _
      refine Goes.by (fun _ k => XS.lload X42.here hx rfl (hb hby at_343) rfl k) ?_
      show Goes p.tables e below (T42.setTop (mkF m 345 #[.val (.long pr), .second, .val (.long pa), .second, .val (.long pb), .second, .val (.int pc0), .val (.int ps), .val (.int pw), .val (.long x1), .second, .val (.long x2), .second, .val (.long x3), .second, .val (.int x4), .val (.int x5), .val (.ref b6), .val (.int v41), .val (.int zr_42), .unset, .unset] [(.long x1), (.long x46)])) _
      refine Goes.by (fun _ k => XS.lcmp X42.here hx rfl (hb hby at_345) rfl k) ?_
      show Goes p.tables e below (T42.setTop (mkF m 346 #[.val (.long pr), .second, .val (.long pa), .second, .val (.long pb), .second, .val (.int pc0), .val (.int ps), .val (.int pw), .val (.long x1), .second, .val (.long x2), .second, .val (.long x3), .second, .val (.int x4), .val (.int x5), .val (.ref b6), .val (.int v41), .val (.int zr_42), .unset, .unset] [(.int (lcmpW x46 x1))])) _
      refine Goes.by (fun _ k => XS.ifYes X42.here hx rfl (pc0 := 346) (pc' := 351) rfl (hb hby at_346) rfl (je_t (own_res hr2_42 hx43 hx46 hc45 : x46 = x1)).1 (by decide) (by decide) k) ?_
      show Goes p.tables e below (T42.setTop (mkF m 351 #[.val (.long pr), .second, .val (.long pa), .second, .val (.long pb), .second, .val (.int pc0), .val (.int ps), .val (.int pw), .val (.long x1), .second, .val (.long x2), .second, .val (.long x3), .second, .val (.int x4), .val (.int x5), .val (.ref b6), .val (.int v41), .val (.int zr_42), .unset, .unset] [])) _
      exact cont44 () trivial
  show Goes p.tables e below (T42.setTop (mkF m 351 #[.val (.long pr), .second, .val (.long pa), .second, .val (.long pb), .second, .val (.int pc0), .val (.int ps), .val (.int pw), .val (.long x1), .second, .val (.long x2), .second, .val (.long x3), .second, .val (.int x4), .val (.int x5), .val (.ref b6), .val (.int v41), .val (.int zr_42), .unset, .unset] [])) _
  refine Goes.by (fun _ k => XS.lload X42.here hx rfl (hb hby at_351) rfl k) ?_
  show Goes p.tables e below (T42.setTop (mkF m 353 #[.val (.long pr), .second, .val (.long pa), .second, .val (.long pb), .second, .val (.int pc0), .val (.int ps), .val (.int pw), .val (.long x1), .second, .val (.long x2), .second, .val (.long x3), .second, .val (.int x4), .val (.int x5), .val (.ref b6), .val (.int v41), .val (.int zr_42), .unset, .unset] [(.long x1)])) _
  refine Goes.by (fun _ k => X42.ldc2J hx hown (mvT hZ (hw _ (List.mem_of_getElem? (i := 19) rfl))) (g := (mkF m 353 #[.val (.long pr), .second, .val (.long pa), .second, .val (.long pb), .second, .val (.int pc0), .val (.int ps), .val (.int pw), .val (.long x1), .second, .val (.long x2), .second, .val (.long x3), .second, .val (.int x4), .val (.int x5), .val (.ref b6), .val (.int v41), .val (.int zr_42), .unset, .unset] [(.long x1)])) rfl (hb hby at_353) k) ?_
  show Goes p.tables e below (T42.setTop (mkF m 356 #[.val (.long pr), .second, .val (.long pa), .second, .val (.long pb), .second, .val (.int pc0), .val (.int ps), .val (.int pw), .val (.long x1), .second, .val (.long x2), .second, .val (.long x3), .second, .val (.int x4), .val (.int x5), .val (.ref b6), .val (.int v41), .val (.int zr_42), .unset, .unset] [(.long (-7046029254386353131 : Int64)), (.long x1)])) _
  refine Goes.by (fun _ k => XS.lmul X42.here hx rfl (hb hby at_356) rfl k) ?_
  show Goes p.tables e below (T42.setTop (mkF m 357 #[.val (.long pr), .second, .val (.long pa), .second, .val (.long pb), .second, .val (.int pc0), .val (.int ps), .val (.int pw), .val (.long x1), .second, .val (.long x2), .second, .val (.long x3), .second, .val (.int x4), .val (.int x5), .val (.ref b6), .val (.int v41), .val (.int zr_42), .unset, .unset] [(.long (x1 * (-7046029254386353131 : Int64)))])) _
  refine Goes.by (fun _ k => XS.bipush X42.here hx rfl (hb hby at_357) k) ?_
  show Goes p.tables e below (T42.setTop (mkF m 359 #[.val (.long pr), .second, .val (.long pa), .second, .val (.long pb), .second, .val (.int pc0), .val (.int ps), .val (.int pw), .val (.long x1), .second, .val (.long x2), .second, .val (.long x3), .second, .val (.int x4), .val (.int x5), .val (.ref b6), .val (.int v41), .val (.int zr_42), .unset, .unset] [(.int (34 : Int32)), (.long (x1 * (-7046029254386353131 : Int64)))])) _
  refine Goes.by (fun _ k => XS.lushr X42.here hx rfl (hb hby at_359) rfl k) ?_
  show Goes p.tables e below (T42.setTop (mkF m 360 #[.val (.long pr), .second, .val (.long pa), .second, .val (.long pb), .second, .val (.int pc0), .val (.int ps), .val (.int pw), .val (.long x1), .second, .val (.long x2), .second, .val (.long x3), .second, .val (.int x4), .val (.int x5), .val (.ref b6), .val (.int v41), .val (.int zr_42), .unset, .unset] [(.long (((x1 * (-7046029254386353131 : Int64)).toUInt64 >>> ((34 : Int32) &&& 0x3f).toInt64.toUInt64).toInt64))])) _
  refine Goes.by (fun _ k => XS.l2i X42.here hx rfl (hb hby at_360) rfl k) ?_
  show Goes p.tables e below (T42.setTop (mkF m 361 #[.val (.long pr), .second, .val (.long pa), .second, .val (.long pb), .second, .val (.int pc0), .val (.int ps), .val (.int pw), .val (.long x1), .second, .val (.long x2), .second, .val (.long x3), .second, .val (.int x4), .val (.int x5), .val (.ref b6), .val (.int v41), .val (.int zr_42), .unset, .unset] [(.int ((((x1 * (-7046029254386353131 : Int64)).toUInt64 >>> ((34 : Int32) &&& 0x3f).toInt64.toUInt64).toInt64).toInt32))])) _
  refine Goes.by (fun _ k => XS.iload X42.here hx rfl (hb hby at_361) rfl k) ?_
  show Goes p.tables e below (T42.setTop (mkF m 363 #[.val (.long pr), .second, .val (.long pa), .second, .val (.long pb), .second, .val (.int pc0), .val (.int ps), .val (.int pw), .val (.long x1), .second, .val (.long x2), .second, .val (.long x3), .second, .val (.int x4), .val (.int x5), .val (.ref b6), .val (.int v41), .val (.int zr_42), .unset, .unset] [(.int x5), (.int ((((x1 * (-7046029254386353131 : Int64)).toUInt64 >>> ((34 : Int32) &&& 0x3f).toInt64.toUInt64).toInt64).toInt32))])) _
  refine Goes.by (fun _ k => XS.iand X42.here hx rfl (hb hby at_363) rfl k) ?_
  show Goes p.tables e below (T42.setTop (mkF m 364 #[.val (.long pr), .second, .val (.long pa), .second, .val (.long pb), .second, .val (.int pc0), .val (.int ps), .val (.int pw), .val (.long x1), .second, .val (.long x2), .second, .val (.long x3), .second, .val (.int x4), .val (.int x5), .val (.ref b6), .val (.int v41), .val (.int zr_42), .unset, .unset] [(.int (((((x1 * (-7046029254386353131 : Int64)).toUInt64 >>> ((34 : Int32) &&& 0x3f).toInt64.toUInt64).toInt64).toInt32) &&& x5))])) _
  obtain ⟨x47, hx47⟩ : ∃ z : Int32, z = (((((x1 * (-7046029254386353131 : Int64)).toUInt64 >>> ((34 : Int32) &&& 0x3f).toInt64.toUInt64).toInt64).toInt32) &&& x5) := ⟨_, rfl⟩
  refine Goes.by (fun _ k => XS.istore X42.here hx rfl (hb hby at_364) rfl (l' := #[.val (.long pr), .second, .val (.long pa), .second, .val (.long pb), .second, .val (.int pc0), .val (.int ps), .val (.int pw), .val (.long x1), .second, .val (.long x2), .second, .val (.long x3), .second, .val (.int x4), .val (.int x5), .val (.ref b6), .val (.int v41), .val (.int zr_42), .val (.int x47), .unset]) (by rw [hx47]; rfl) k) ?_
  show Goes p.tables e below (T42.setTop (mkF m 366 #[.val (.long pr), .second, .val (.long pa), .second, .val (.long pb), .second, .val (.int pc0), .val (.int ps), .val (.int pw), .val (.long x1), .second, .val (.long x2), .second, .val (.long x3), .second, .val (.int x4), .val (.int x5), .val (.ref b6), .val (.int v41), .val (.int zr_42), .val (.int x47), .unset] [])) _
  refine Goes.by (fun _ k => XS.iload X42.here hx rfl (hb hby at_366) rfl k) ?_
  show Goes p.tables e below (T42.setTop (mkF m 368 #[.val (.long pr), .second, .val (.long pa), .second, .val (.long pb), .second, .val (.int pc0), .val (.int ps), .val (.int pw), .val (.long x1), .second, .val (.long x2), .second, .val (.long x3), .second, .val (.int x4), .val (.int x5), .val (.ref b6), .val (.int v41), .val (.int zr_42), .val (.int x47), .unset] [(.int zr_42)])) _
  refine Goes.by (fun _ k => XS.iload X42.here hx rfl (hb hby at_368) rfl k) ?_
  show Goes p.tables e below (T42.setTop (mkF m 370 #[.val (.long pr), .second, .val (.long pa), .second, .val (.long pb), .second, .val (.int pc0), .val (.int ps), .val (.int pw), .val (.long x1), .second, .val (.long x2), .second, .val (.long x3), .second, .val (.int x4), .val (.int x5), .val (.ref b6), .val (.int v41), .val (.int zr_42), .val (.int x47), .unset] [(.int x47), (.int zr_42)])) _
  refine Goes.by (fun _ k => XS.isub X42.here hx rfl (hb hby at_370) rfl k) ?_
  show Goes p.tables e below (T42.setTop (mkF m 371 #[.val (.long pr), .second, .val (.long pa), .second, .val (.long pb), .second, .val (.int pc0), .val (.int ps), .val (.int pw), .val (.long x1), .second, .val (.long x2), .second, .val (.long x3), .second, .val (.int x4), .val (.int x5), .val (.ref b6), .val (.int v41), .val (.int zr_42), .val (.int x47), .unset] [(.int (zr_42 - x47))])) _
  refine Goes.by (fun _ k => XS.iload X42.here hx rfl (hb hby at_371) rfl k) ?_
  show Goes p.tables e below (T42.setTop (mkF m 373 #[.val (.long pr), .second, .val (.long pa), .second, .val (.long pb), .second, .val (.int pc0), .val (.int ps), .val (.int pw), .val (.long x1), .second, .val (.long x2), .second, .val (.long x3), .second, .val (.int x4), .val (.int x5), .val (.ref b6), .val (.int v41), .val (.int zr_42), .val (.int x47), .unset] [(.int x5), (.int (zr_42 - x47))])) _
  refine Goes.by (fun _ k => XS.iand X42.here hx rfl (hb hby at_373) rfl k) ?_
  show Goes p.tables e below (T42.setTop (mkF m 374 #[.val (.long pr), .second, .val (.long pa), .second, .val (.long pb), .second, .val (.int pc0), .val (.int ps), .val (.int pw), .val (.long x1), .second, .val (.long x2), .second, .val (.long x3), .second, .val (.int x4), .val (.int x5), .val (.ref b6), .val (.int v41), .val (.int zr_42), .val (.int x47), .unset] [(.int ((zr_42 - x47) &&& x5))])) _
  obtain ⟨x48, hx48⟩ : ∃ z : Int32, z = ((zr_42 - x47) &&& x5) := ⟨_, rfl⟩
  refine Goes.by (fun _ k => XS.istore X42.here hx rfl (hb hby at_374) rfl (l' := #[.val (.long pr), .second, .val (.long pa), .second, .val (.long pb), .second, .val (.int pc0), .val (.int ps), .val (.int pw), .val (.long x1), .second, .val (.long x2), .second, .val (.long x3), .second, .val (.int x4), .val (.int x5), .val (.ref b6), .val (.int v41), .val (.int zr_42), .val (.int x47), .val (.int x48)]) (by rw [hx48]; rfl) k) ?_
  show Goes p.tables e below (T42.setTop (mkF m 376 #[.val (.long pr), .second, .val (.long pa), .second, .val (.long pb), .second, .val (.int pc0), .val (.int ps), .val (.int pw), .val (.long x1), .second, .val (.long x2), .second, .val (.long x3), .second, .val (.int x4), .val (.int x5), .val (.ref b6), .val (.int v41), .val (.int zr_42), .val (.int x47), .val (.int x48)] [])) _
  refine Goes.by (fun _ k => XS.aload X42.here hx rfl (hb hby at_376) rfl rfl k) ?_
  show Goes p.tables e below (T42.setTop (mkF m 378 #[.val (.long pr), .second, .val (.long pa), .second, .val (.long pb), .second, .val (.int pc0), .val (.int ps), .val (.int pw), .val (.long x1), .second, .val (.long x2), .second, .val (.long x3), .second, .val (.int x4), .val (.int x5), .val (.ref b6), .val (.int v41), .val (.int zr_42), .val (.int x47), .val (.int x48)] [(.ref b6)])) _
  refine Goes.by (fun _ k => XS.iload X42.here hx rfl (hb hby at_378) rfl k) ?_
  show Goes p.tables e below (T42.setTop (mkF m 380 #[.val (.long pr), .second, .val (.long pa), .second, .val (.long pb), .second, .val (.int pc0), .val (.int ps), .val (.int pw), .val (.long x1), .second, .val (.long x2), .second, .val (.long x3), .second, .val (.int x4), .val (.int x5), .val (.ref b6), .val (.int v41), .val (.int zr_42), .val (.int x47), .val (.int x48)] [(.int x47), (.ref b6)])) _
  refine Goes.by (fun _ k => XS.iload X42.here hx rfl (hb hby at_380) rfl k) ?_
  show Goes p.tables e below (T42.setTop (mkF m 382 #[.val (.long pr), .second, .val (.long pa), .second, .val (.long pb), .second, .val (.int pc0), .val (.int ps), .val (.int pw), .val (.long x1), .second, .val (.long x2), .second, .val (.long x3), .second, .val (.int x4), .val (.int x5), .val (.ref b6), .val (.int v41), .val (.int zr_42), .val (.int x47), .val (.int x48)] [(.int x5), (.int x47), (.ref b6)])) _
  refine Goes.by (fun _ k => XS.iload X42.here hx rfl (hb hby at_382) rfl k) ?_
  show Goes p.tables e below (T42.setTop (mkF m 384 #[.val (.long pr), .second, .val (.long pa), .second, .val (.long pb), .second, .val (.int pc0), .val (.int ps), .val (.int pw), .val (.long x1), .second, .val (.long x2), .second, .val (.long x3), .second, .val (.int x4), .val (.int x5), .val (.ref b6), .val (.int v41), .val (.int zr_42), .val (.int x47), .val (.int x48)] [(.int x48), (.int x5), (.int x47), (.ref b6)])) _
  refine Goes.by (fun _ k => XS.iconst X42.here hx rfl (hb hby at_384) k) ?_
  show Goes p.tables e below (T42.setTop (mkF m 385 #[.val (.long pr), .second, .val (.long pa), .second, .val (.long pb), .second, .val (.int pc0), .val (.int ps), .val (.int pw), .val (.long x1), .second, .val (.long x2), .second, .val (.long x3), .second, .val (.int x4), .val (.int x5), .val (.ref b6), .val (.int v41), .val (.int zr_42), .val (.int x47), .val (.int x48)] [(.int (0 : Int32)), (.int x48), (.int x5), (.int x47), (.ref b6)])) _
  refine Goes.by (fun _ k => XS.lload X42.here hx rfl (hb hby at_385) rfl k) ?_
  show Goes p.tables e below (T42.setTop (mkF m 387 #[.val (.long pr), .second, .val (.long pa), .second, .val (.long pb), .second, .val (.int pc0), .val (.int ps), .val (.int pw), .val (.long x1), .second, .val (.long x2), .second, .val (.long x3), .second, .val (.int x4), .val (.int x5), .val (.ref b6), .val (.int v41), .val (.int zr_42), .val (.int x47), .val (.int x48)] [(.long x1), (.int (0 : Int32)), (.int x48), (.int x5), (.int x47), (.ref b6)])) _
  obtain ⟨_, _, ⟨T49, L49, k49, n49⟩, -, X49, ⟨Lc49, hQ49, l49, y49, z49⟩, st49⟩ := Jvm.LawKit.callS X42 hx (y := (⟨"com/example/xml_graph_join/xmlgraphjoin/labels/PackedSlotsFindPinLaw", "clear", "([JIIIIJ)Z"⟩ : MethodName)) hown (mvT hZ (hw _ (List.mem_of_getElem? (i := 20) rfl))) (mvT hZ (hw _ (List.mem_of_getElem? (i := 21) rfl))) (mvT hZ (hw _ (List.mem_of_getElem? (i := 4) rfl))) (mvT hZ (hw _ (List.mem_of_getElem? (i := 22) rfl))) (by decide) (backOf (W := 0) (rm5 l Z a0 hw [] b6 x47 x5 x48 (0 : Int32) x1 gy ((((own_home x1 x5).toInt.toNat) + 0) % nl) nl h41 n0 Zs41 A_b6 (own_atk _ _ _ nl ((own_home x1 x5).toInt.toNat) 0 hpm hs (by rw [hx47]; exact hh1) (by decide) hh2 (by decide)) (Nat.mod_lt _ hnl0)) hZ (hw _ (List.mem_of_getElem? (i := 22) rfl)) (hw _ (List.mem_of_getElem? (i := 4) rfl)) (by decide) (by decide)) (g := (mkF m 387 #[.val (.long pr), .second, .val (.long pa), .second, .val (.long pb), .second, .val (.int pc0), .val (.int ps), .val (.int pw), .val (.long x1), .second, .val (.long x2), .second, .val (.long x3), .second, .val (.int x4), .val (.int x5), .val (.ref b6), .val (.int v41), .val (.int zr_42), .val (.int x47), .val (.int x48)] [(.long x1), (.int (0 : Int32)), (.int x48), (.int x5), (.int x47), (.ref b6)])) rfl (by rw [hml]; rfl) (argsL := [(.ref b6), (.int x47), (.int x5), (.int x48), (.int (0 : Int32)), (.long x1)]) (rest := []) (lenOf pd_4 rfl) rfl (by show 2 * 0 + _ ≤ _; exact Nat.le_of_eq rfl) (hb hby at_387) (fun _ _ => ⟨rfl, e42, (by decide : 1 + 0 ≤ _), (by decide : 8 + 0 ≤ _)⟩)
  dsimp only [Pt.U, Pt.locs, Pt.cells, Pt.slots] at X49 l49 y49 z49 st49 hQ49
  rw [l49, y49, z49] at X49
  obtain ⟨rfl, N49q, e49⟩ := hQ49
  have N49 := Fr.app N42 N49q
  refine Goes.by st49 ?_
  show Goes p.tables e below (T49.setTop (mkF m 390 #[.val (.long pr), .second, .val (.long pa), .second, .val (.long pb), .second, .val (.int pc0), .val (.int ps), .val (.int pw), .val (.long x1), .second, .val (.long x2), .second, .val (.long x3), .second, .val (.int x4), .val (.int x5), .val (.ref b6), .val (.int v41), .val (.int zr_42), .val (.int x47), .val (.int x48)] [(.int (fn5 x47 x5 x48 (0 : Int32) x1 gy ((((own_home x1 x5).toInt.toNat) + 0) % nl) nl))])) _
  refine Goes.by (fun _ k => XS.ifNo X49.here hx rfl (hb hby at_390) rfl ((if0 _ _).trans (feq (own_cl _ _ _ _ _ _ _ nl 0 zd_42 (by decide) (own_dd _ _ _ _ nl ((own_home x1 x5).toInt.toNat) zd_42 hpm hs (by rw [hx47]; exact hh1) hr1_42 hh2 hr3_42 hx48) (fun z => hr4_42 0 z) : ¬ ((fn5 x47 x5 x48 (0 : Int32) x1 gy ((((own_home x1 x5).toInt.toNat) + 0) % nl) nl) = (0 : Int32)))).1) k) ?_
  show Goes p.tables e below (T49.setTop (mkF m 393 #[.val (.long pr), .second, .val (.long pa), .second, .val (.long pb), .second, .val (.int pc0), .val (.int ps), .val (.int pw), .val (.long x1), .second, .val (.long x2), .second, .val (.long x3), .second, .val (.int x4), .val (.int x5), .val (.ref b6), .val (.int v41), .val (.int zr_42), .val (.int x47), .val (.int x48)] [])) _
  refine Goes.by (fun _ k => XS.aload X49.here hx rfl (hb hby at_393) rfl rfl k) ?_
  show Goes p.tables e below (T49.setTop (mkF m 395 #[.val (.long pr), .second, .val (.long pa), .second, .val (.long pb), .second, .val (.int pc0), .val (.int ps), .val (.int pw), .val (.long x1), .second, .val (.long x2), .second, .val (.long x3), .second, .val (.int x4), .val (.int x5), .val (.ref b6), .val (.int v41), .val (.int zr_42), .val (.int x47), .val (.int x48)] [(.ref b6)])) _
  refine Goes.by (fun _ k => XS.iload X49.here hx rfl (hb hby at_395) rfl k) ?_
  show Goes p.tables e below (T49.setTop (mkF m 397 #[.val (.long pr), .second, .val (.long pa), .second, .val (.long pb), .second, .val (.int pc0), .val (.int ps), .val (.int pw), .val (.long x1), .second, .val (.long x2), .second, .val (.long x3), .second, .val (.int x4), .val (.int x5), .val (.ref b6), .val (.int v41), .val (.int zr_42), .val (.int x47), .val (.int x48)] [(.int x47), (.ref b6)])) _
  refine Goes.by (fun _ k => XS.iload X49.here hx rfl (hb hby at_397) rfl k) ?_
  show Goes p.tables e below (T49.setTop (mkF m 399 #[.val (.long pr), .second, .val (.long pa), .second, .val (.long pb), .second, .val (.int pc0), .val (.int ps), .val (.int pw), .val (.long x1), .second, .val (.long x2), .second, .val (.long x3), .second, .val (.int x4), .val (.int x5), .val (.ref b6), .val (.int v41), .val (.int zr_42), .val (.int x47), .val (.int x48)] [(.int x5), (.int x47), (.ref b6)])) _
  refine Goes.by (fun _ k => XS.iload X49.here hx rfl (hb hby at_399) rfl k) ?_
  show Goes p.tables e below (T49.setTop (mkF m 401 #[.val (.long pr), .second, .val (.long pa), .second, .val (.long pb), .second, .val (.int pc0), .val (.int ps), .val (.int pw), .val (.long x1), .second, .val (.long x2), .second, .val (.long x3), .second, .val (.int x4), .val (.int x5), .val (.ref b6), .val (.int v41), .val (.int zr_42), .val (.int x47), .val (.int x48)] [(.int x48), (.int x5), (.int x47), (.ref b6)])) _
  refine Goes.by (fun _ k => XS.iconst X49.here hx rfl (hb hby at_401) k) ?_
  show Goes p.tables e below (T49.setTop (mkF m 402 #[.val (.long pr), .second, .val (.long pa), .second, .val (.long pb), .second, .val (.int pc0), .val (.int ps), .val (.int pw), .val (.long x1), .second, .val (.long x2), .second, .val (.long x3), .second, .val (.int x4), .val (.int x5), .val (.ref b6), .val (.int v41), .val (.int zr_42), .val (.int x47), .val (.int x48)] [(.int (1 : Int32)), (.int x48), (.int x5), (.int x47), (.ref b6)])) _
  refine Goes.by (fun _ k => XS.lload X49.here hx rfl (hb hby at_402) rfl k) ?_
  show Goes p.tables e below (T49.setTop (mkF m 404 #[.val (.long pr), .second, .val (.long pa), .second, .val (.long pb), .second, .val (.int pc0), .val (.int ps), .val (.int pw), .val (.long x1), .second, .val (.long x2), .second, .val (.long x3), .second, .val (.int x4), .val (.int x5), .val (.ref b6), .val (.int v41), .val (.int zr_42), .val (.int x47), .val (.int x48)] [(.long x1), (.int (1 : Int32)), (.int x48), (.int x5), (.int x47), (.ref b6)])) _
  obtain ⟨_, _, ⟨T50, L50, k50, n50⟩, -, X50, ⟨Lc50, hQ50, l50, y50, z50⟩, st50⟩ := Jvm.LawKit.callS X49 hx (y := (⟨"com/example/xml_graph_join/xmlgraphjoin/labels/PackedSlotsFindPinLaw", "clear", "([JIIIIJ)Z"⟩ : MethodName)) hown (mvT hZ (hw _ (List.mem_of_getElem? (i := 20) rfl))) (mvT hZ (hw _ (List.mem_of_getElem? (i := 21) rfl))) (mvT hZ (hw _ (List.mem_of_getElem? (i := 4) rfl))) (mvT hZ (hw _ (List.mem_of_getElem? (i := 22) rfl))) (by decide) (backOf (W := 0) (rm5 l Z a0 hw [] b6 x47 x5 x48 (1 : Int32) x1 gy ((((own_home x1 x5).toInt.toNat) + 1) % nl) nl h41 n0 Zs41 A_b6 (own_atk _ _ _ nl ((own_home x1 x5).toInt.toNat) 1 hpm hs (by rw [hx47]; exact hh1) (by decide) hh2 (by decide)) (Nat.mod_lt _ hnl0)) hZ (hw _ (List.mem_of_getElem? (i := 22) rfl)) (hw _ (List.mem_of_getElem? (i := 4) rfl)) (by decide) (by decide)) (g := (mkF m 404 #[.val (.long pr), .second, .val (.long pa), .second, .val (.long pb), .second, .val (.int pc0), .val (.int ps), .val (.int pw), .val (.long x1), .second, .val (.long x2), .second, .val (.long x3), .second, .val (.int x4), .val (.int x5), .val (.ref b6), .val (.int v41), .val (.int zr_42), .val (.int x47), .val (.int x48)] [(.long x1), (.int (1 : Int32)), (.int x48), (.int x5), (.int x47), (.ref b6)])) rfl (by rw [hml]; rfl) (argsL := [(.ref b6), (.int x47), (.int x5), (.int x48), (.int (1 : Int32)), (.long x1)]) (rest := []) (lenOf pd_4 rfl) rfl (by show 2 * 0 + _ ≤ _; exact Nat.le_of_eq rfl) (hb hby at_404) (fun _ _ => ⟨rfl, e49, (by decide : 1 + 0 ≤ _), (by decide : 8 + 0 ≤ _)⟩)
  dsimp only [Pt.U, Pt.locs, Pt.cells, Pt.slots] at X50 l50 y50 z50 st50 hQ50
  rw [l50, y50, z50] at X50
  obtain ⟨rfl, N50q, e50⟩ := hQ50
  have N50 := Fr.app N49 N50q
  refine Goes.by st50 ?_
  show Goes p.tables e below (T50.setTop (mkF m 407 #[.val (.long pr), .second, .val (.long pa), .second, .val (.long pb), .second, .val (.int pc0), .val (.int ps), .val (.int pw), .val (.long x1), .second, .val (.long x2), .second, .val (.long x3), .second, .val (.int x4), .val (.int x5), .val (.ref b6), .val (.int v41), .val (.int zr_42), .val (.int x47), .val (.int x48)] [(.int (fn5 x47 x5 x48 (1 : Int32) x1 gy ((((own_home x1 x5).toInt.toNat) + 1) % nl) nl))])) _
  refine Goes.by (fun _ k => XS.ifNo X50.here hx rfl (hb hby at_407) rfl ((if0 _ _).trans (feq (own_cl _ _ _ _ _ _ _ nl 1 zd_42 (by decide) (own_dd _ _ _ _ nl ((own_home x1 x5).toInt.toNat) zd_42 hpm hs (by rw [hx47]; exact hh1) hr1_42 hh2 hr3_42 hx48) (fun z => hr4_42 1 z) : ¬ ((fn5 x47 x5 x48 (1 : Int32) x1 gy ((((own_home x1 x5).toInt.toNat) + 1) % nl) nl) = (0 : Int32)))).1) k) ?_
  show Goes p.tables e below (T50.setTop (mkF m 410 #[.val (.long pr), .second, .val (.long pa), .second, .val (.long pb), .second, .val (.int pc0), .val (.int ps), .val (.int pw), .val (.long x1), .second, .val (.long x2), .second, .val (.long x3), .second, .val (.int x4), .val (.int x5), .val (.ref b6), .val (.int v41), .val (.int zr_42), .val (.int x47), .val (.int x48)] [])) _
  refine Goes.by (fun _ k => XS.aload X50.here hx rfl (hb hby at_410) rfl rfl k) ?_
  show Goes p.tables e below (T50.setTop (mkF m 412 #[.val (.long pr), .second, .val (.long pa), .second, .val (.long pb), .second, .val (.int pc0), .val (.int ps), .val (.int pw), .val (.long x1), .second, .val (.long x2), .second, .val (.long x3), .second, .val (.int x4), .val (.int x5), .val (.ref b6), .val (.int v41), .val (.int zr_42), .val (.int x47), .val (.int x48)] [(.ref b6)])) _
  refine Goes.by (fun _ k => XS.iload X50.here hx rfl (hb hby at_412) rfl k) ?_
  show Goes p.tables e below (T50.setTop (mkF m 414 #[.val (.long pr), .second, .val (.long pa), .second, .val (.long pb), .second, .val (.int pc0), .val (.int ps), .val (.int pw), .val (.long x1), .second, .val (.long x2), .second, .val (.long x3), .second, .val (.int x4), .val (.int x5), .val (.ref b6), .val (.int v41), .val (.int zr_42), .val (.int x47), .val (.int x48)] [(.int x47), (.ref b6)])) _
  refine Goes.by (fun _ k => XS.iload X50.here hx rfl (hb hby at_414) rfl k) ?_
  show Goes p.tables e below (T50.setTop (mkF m 416 #[.val (.long pr), .second, .val (.long pa), .second, .val (.long pb), .second, .val (.int pc0), .val (.int ps), .val (.int pw), .val (.long x1), .second, .val (.long x2), .second, .val (.long x3), .second, .val (.int x4), .val (.int x5), .val (.ref b6), .val (.int v41), .val (.int zr_42), .val (.int x47), .val (.int x48)] [(.int x5), (.int x47), (.ref b6)])) _
  refine Goes.by (fun _ k => XS.iload X50.here hx rfl (hb hby at_416) rfl k) ?_
  show Goes p.tables e below (T50.setTop (mkF m 418 #[.val (.long pr), .second, .val (.long pa), .second, .val (.long pb), .second, .val (.int pc0), .val (.int ps), .val (.int pw), .val (.long x1), .second, .val (.long x2), .second, .val (.long x3), .second, .val (.int x4), .val (.int x5), .val (.ref b6), .val (.int v41), .val (.int zr_42), .val (.int x47), .val (.int x48)] [(.int x48), (.int x5), (.int x47), (.ref b6)])) _
  refine Goes.by (fun _ k => XS.iconst X50.here hx rfl (hb hby at_418) k) ?_
  show Goes p.tables e below (T50.setTop (mkF m 419 #[.val (.long pr), .second, .val (.long pa), .second, .val (.long pb), .second, .val (.int pc0), .val (.int ps), .val (.int pw), .val (.long x1), .second, .val (.long x2), .second, .val (.long x3), .second, .val (.int x4), .val (.int x5), .val (.ref b6), .val (.int v41), .val (.int zr_42), .val (.int x47), .val (.int x48)] [(.int (2 : Int32)), (.int x48), (.int x5), (.int x47), (.ref b6)])) _
  refine Goes.by (fun _ k => XS.lload X50.here hx rfl (hb hby at_419) rfl k) ?_
  show Goes p.tables e below (T50.setTop (mkF m 421 #[.val (.long pr), .second, .val (.long pa), .second, .val (.long pb), .second, .val (.int pc0), .val (.int ps), .val (.int pw), .val (.long x1), .second, .val (.long x2), .second, .val (.long x3), .second, .val (.int x4), .val (.int x5), .val (.ref b6), .val (.int v41), .val (.int zr_42), .val (.int x47), .val (.int x48)] [(.long x1), (.int (2 : Int32)), (.int x48), (.int x5), (.int x47), (.ref b6)])) _
  obtain ⟨_, _, ⟨T51, L51, k51, n51⟩, -, X51, ⟨Lc51, hQ51, l51, y51, z51⟩, st51⟩ := Jvm.LawKit.callS X50 hx (y := (⟨"com/example/xml_graph_join/xmlgraphjoin/labels/PackedSlotsFindPinLaw", "clear", "([JIIIIJ)Z"⟩ : MethodName)) hown (mvT hZ (hw _ (List.mem_of_getElem? (i := 20) rfl))) (mvT hZ (hw _ (List.mem_of_getElem? (i := 21) rfl))) (mvT hZ (hw _ (List.mem_of_getElem? (i := 4) rfl))) (mvT hZ (hw _ (List.mem_of_getElem? (i := 22) rfl))) (by decide) (backOf (W := 0) (rm5 l Z a0 hw [] b6 x47 x5 x48 (2 : Int32) x1 gy ((((own_home x1 x5).toInt.toNat) + 2) % nl) nl h41 n0 Zs41 A_b6 (own_atk _ _ _ nl ((own_home x1 x5).toInt.toNat) 2 hpm hs (by rw [hx47]; exact hh1) (by decide) hh2 (by decide)) (Nat.mod_lt _ hnl0)) hZ (hw _ (List.mem_of_getElem? (i := 22) rfl)) (hw _ (List.mem_of_getElem? (i := 4) rfl)) (by decide) (by decide)) (g := (mkF m 421 #[.val (.long pr), .second, .val (.long pa), .second, .val (.long pb), .second, .val (.int pc0), .val (.int ps), .val (.int pw), .val (.long x1), .second, .val (.long x2), .second, .val (.long x3), .second, .val (.int x4), .val (.int x5), .val (.ref b6), .val (.int v41), .val (.int zr_42), .val (.int x47), .val (.int x48)] [(.long x1), (.int (2 : Int32)), (.int x48), (.int x5), (.int x47), (.ref b6)])) rfl (by rw [hml]; rfl) (argsL := [(.ref b6), (.int x47), (.int x5), (.int x48), (.int (2 : Int32)), (.long x1)]) (rest := []) (lenOf pd_4 rfl) rfl (by show 2 * 0 + _ ≤ _; exact Nat.le_of_eq rfl) (hb hby at_421) (fun _ _ => ⟨rfl, e50, (by decide : 1 + 0 ≤ _), (by decide : 8 + 0 ≤ _)⟩)
  dsimp only [Pt.U, Pt.locs, Pt.cells, Pt.slots] at X51 l51 y51 z51 st51 hQ51
  rw [l51, y51, z51] at X51
  obtain ⟨rfl, N51q, e51⟩ := hQ51
  have N51 := Fr.app N50 N51q
  refine Goes.by st51 ?_
  show Goes p.tables e below (T51.setTop (mkF m 424 #[.val (.long pr), .second, .val (.long pa), .second, .val (.long pb), .second, .val (.int pc0), .val (.int ps), .val (.int pw), .val (.long x1), .second, .val (.long x2), .second, .val (.long x3), .second, .val (.int x4), .val (.int x5), .val (.ref b6), .val (.int v41), .val (.int zr_42), .val (.int x47), .val (.int x48)] [(.int (fn5 x47 x5 x48 (2 : Int32) x1 gy ((((own_home x1 x5).toInt.toNat) + 2) % nl) nl))])) _
  refine Goes.by (fun _ k => XS.ifNo X51.here hx rfl (hb hby at_424) rfl ((if0 _ _).trans (feq (own_cl _ _ _ _ _ _ _ nl 2 zd_42 (by decide) (own_dd _ _ _ _ nl ((own_home x1 x5).toInt.toNat) zd_42 hpm hs (by rw [hx47]; exact hh1) hr1_42 hh2 hr3_42 hx48) (fun z => hr4_42 2 z) : ¬ ((fn5 x47 x5 x48 (2 : Int32) x1 gy ((((own_home x1 x5).toInt.toNat) + 2) % nl) nl) = (0 : Int32)))).1) k) ?_
  show Goes p.tables e below (T51.setTop (mkF m 427 #[.val (.long pr), .second, .val (.long pa), .second, .val (.long pb), .second, .val (.int pc0), .val (.int ps), .val (.int pw), .val (.long x1), .second, .val (.long x2), .second, .val (.long x3), .second, .val (.int x4), .val (.int x5), .val (.ref b6), .val (.int v41), .val (.int zr_42), .val (.int x47), .val (.int x48)] [])) _
  refine Goes.by (fun _ k => XS.aload X51.here hx rfl (hb hby at_427) rfl rfl k) ?_
  show Goes p.tables e below (T51.setTop (mkF m 429 #[.val (.long pr), .second, .val (.long pa), .second, .val (.long pb), .second, .val (.int pc0), .val (.int ps), .val (.int pw), .val (.long x1), .second, .val (.long x2), .second, .val (.long x3), .second, .val (.int x4), .val (.int x5), .val (.ref b6), .val (.int v41), .val (.int zr_42), .val (.int x47), .val (.int x48)] [(.ref b6)])) _
  refine Goes.by (fun _ k => XS.iload X51.here hx rfl (hb hby at_429) rfl k) ?_
  show Goes p.tables e below (T51.setTop (mkF m 431 #[.val (.long pr), .second, .val (.long pa), .second, .val (.long pb), .second, .val (.int pc0), .val (.int ps), .val (.int pw), .val (.long x1), .second, .val (.long x2), .second, .val (.long x3), .second, .val (.int x4), .val (.int x5), .val (.ref b6), .val (.int v41), .val (.int zr_42), .val (.int x47), .val (.int x48)] [(.int x47), (.ref b6)])) _
  refine Goes.by (fun _ k => XS.iload X51.here hx rfl (hb hby at_431) rfl k) ?_
  show Goes p.tables e below (T51.setTop (mkF m 433 #[.val (.long pr), .second, .val (.long pa), .second, .val (.long pb), .second, .val (.int pc0), .val (.int ps), .val (.int pw), .val (.long x1), .second, .val (.long x2), .second, .val (.long x3), .second, .val (.int x4), .val (.int x5), .val (.ref b6), .val (.int v41), .val (.int zr_42), .val (.int x47), .val (.int x48)] [(.int x5), (.int x47), (.ref b6)])) _
  refine Goes.by (fun _ k => XS.iload X51.here hx rfl (hb hby at_433) rfl k) ?_
  show Goes p.tables e below (T51.setTop (mkF m 435 #[.val (.long pr), .second, .val (.long pa), .second, .val (.long pb), .second, .val (.int pc0), .val (.int ps), .val (.int pw), .val (.long x1), .second, .val (.long x2), .second, .val (.long x3), .second, .val (.int x4), .val (.int x5), .val (.ref b6), .val (.int v41), .val (.int zr_42), .val (.int x47), .val (.int x48)] [(.int x48), (.int x5), (.int x47), (.ref b6)])) _
  refine Goes.by (fun _ k => XS.iconst X51.here hx rfl (hb hby at_435) k) ?_
  show Goes p.tables e below (T51.setTop (mkF m 436 #[.val (.long pr), .second, .val (.long pa), .second, .val (.long pb), .second, .val (.int pc0), .val (.int ps), .val (.int pw), .val (.long x1), .second, .val (.long x2), .second, .val (.long x3), .second, .val (.int x4), .val (.int x5), .val (.ref b6), .val (.int v41), .val (.int zr_42), .val (.int x47), .val (.int x48)] [(.int (3 : Int32)), (.int x48), (.int x5), (.int x47), (.ref b6)])) _
  refine Goes.by (fun _ k => XS.lload X51.here hx rfl (hb hby at_436) rfl k) ?_
  show Goes p.tables e below (T51.setTop (mkF m 438 #[.val (.long pr), .second, .val (.long pa), .second, .val (.long pb), .second, .val (.int pc0), .val (.int ps), .val (.int pw), .val (.long x1), .second, .val (.long x2), .second, .val (.long x3), .second, .val (.int x4), .val (.int x5), .val (.ref b6), .val (.int v41), .val (.int zr_42), .val (.int x47), .val (.int x48)] [(.long x1), (.int (3 : Int32)), (.int x48), (.int x5), (.int x47), (.ref b6)])) _
  obtain ⟨_, _, ⟨T52, L52, k52, n52⟩, -, X52, ⟨Lc52, hQ52, l52, y52, z52⟩, st52⟩ := Jvm.LawKit.callS X51 hx (y := (⟨"com/example/xml_graph_join/xmlgraphjoin/labels/PackedSlotsFindPinLaw", "clear", "([JIIIIJ)Z"⟩ : MethodName)) hown (mvT hZ (hw _ (List.mem_of_getElem? (i := 20) rfl))) (mvT hZ (hw _ (List.mem_of_getElem? (i := 21) rfl))) (mvT hZ (hw _ (List.mem_of_getElem? (i := 4) rfl))) (mvT hZ (hw _ (List.mem_of_getElem? (i := 22) rfl))) (by decide) (backOf (W := 0) (rm5 l Z a0 hw [] b6 x47 x5 x48 (3 : Int32) x1 gy ((((own_home x1 x5).toInt.toNat) + 3) % nl) nl h41 n0 Zs41 A_b6 (own_atk _ _ _ nl ((own_home x1 x5).toInt.toNat) 3 hpm hs (by rw [hx47]; exact hh1) (by decide) hh2 (by decide)) (Nat.mod_lt _ hnl0)) hZ (hw _ (List.mem_of_getElem? (i := 22) rfl)) (hw _ (List.mem_of_getElem? (i := 4) rfl)) (by decide) (by decide)) (g := (mkF m 438 #[.val (.long pr), .second, .val (.long pa), .second, .val (.long pb), .second, .val (.int pc0), .val (.int ps), .val (.int pw), .val (.long x1), .second, .val (.long x2), .second, .val (.long x3), .second, .val (.int x4), .val (.int x5), .val (.ref b6), .val (.int v41), .val (.int zr_42), .val (.int x47), .val (.int x48)] [(.long x1), (.int (3 : Int32)), (.int x48), (.int x5), (.int x47), (.ref b6)])) rfl (by rw [hml]; rfl) (argsL := [(.ref b6), (.int x47), (.int x5), (.int x48), (.int (3 : Int32)), (.long x1)]) (rest := []) (lenOf pd_4 rfl) rfl (by show 2 * 0 + _ ≤ _; exact Nat.le_of_eq rfl) (hb hby at_438) (fun _ _ => ⟨rfl, e51, (by decide : 1 + 0 ≤ _), (by decide : 8 + 0 ≤ _)⟩)
  dsimp only [Pt.U, Pt.locs, Pt.cells, Pt.slots] at X52 l52 y52 z52 st52 hQ52
  rw [l52, y52, z52] at X52
  obtain ⟨rfl, N52q, e52⟩ := hQ52
  have N52 := Fr.app N51 N52q
  refine Goes.by st52 ?_
  show Goes p.tables e below (T52.setTop (mkF m 441 #[.val (.long pr), .second, .val (.long pa), .second, .val (.long pb), .second, .val (.int pc0), .val (.int ps), .val (.int pw), .val (.long x1), .second, .val (.long x2), .second, .val (.long x3), .second, .val (.int x4), .val (.int x5), .val (.ref b6), .val (.int v41), .val (.int zr_42), .val (.int x47), .val (.int x48)] [(.int (fn5 x47 x5 x48 (3 : Int32) x1 gy ((((own_home x1 x5).toInt.toNat) + 3) % nl) nl))])) _
  refine Goes.by (fun _ k => XS.ifNo X52.here hx rfl (hb hby at_441) rfl ((if0 _ _).trans (feq (own_cl _ _ _ _ _ _ _ nl 3 zd_42 (by decide) (own_dd _ _ _ _ nl ((own_home x1 x5).toInt.toNat) zd_42 hpm hs (by rw [hx47]; exact hh1) hr1_42 hh2 hr3_42 hx48) (fun z => hr4_42 3 z) : ¬ ((fn5 x47 x5 x48 (3 : Int32) x1 gy ((((own_home x1 x5).toInt.toNat) + 3) % nl) nl) = (0 : Int32)))).1) k) ?_
  show Goes p.tables e below (T52.setTop (mkF m 444 #[.val (.long pr), .second, .val (.long pa), .second, .val (.long pb), .second, .val (.int pc0), .val (.int ps), .val (.int pw), .val (.long x1), .second, .val (.long x2), .second, .val (.long x3), .second, .val (.int x4), .val (.int x5), .val (.ref b6), .val (.int v41), .val (.int zr_42), .val (.int x47), .val (.int x48)] [])) _
  refine Goes.by (fun _ k => XS.aload X52.here hx rfl (hb hby at_444) rfl rfl k) ?_
  show Goes p.tables e below (T52.setTop (mkF m 446 #[.val (.long pr), .second, .val (.long pa), .second, .val (.long pb), .second, .val (.int pc0), .val (.int ps), .val (.int pw), .val (.long x1), .second, .val (.long x2), .second, .val (.long x3), .second, .val (.int x4), .val (.int x5), .val (.ref b6), .val (.int v41), .val (.int zr_42), .val (.int x47), .val (.int x48)] [(.ref b6)])) _
  refine Goes.by (fun _ k => XS.iload X52.here hx rfl (hb hby at_446) rfl k) ?_
  show Goes p.tables e below (T52.setTop (mkF m 448 #[.val (.long pr), .second, .val (.long pa), .second, .val (.long pb), .second, .val (.int pc0), .val (.int ps), .val (.int pw), .val (.long x1), .second, .val (.long x2), .second, .val (.long x3), .second, .val (.int x4), .val (.int x5), .val (.ref b6), .val (.int v41), .val (.int zr_42), .val (.int x47), .val (.int x48)] [(.int x47), (.ref b6)])) _
  refine Goes.by (fun _ k => XS.iload X52.here hx rfl (hb hby at_448) rfl k) ?_
  show Goes p.tables e below (T52.setTop (mkF m 450 #[.val (.long pr), .second, .val (.long pa), .second, .val (.long pb), .second, .val (.int pc0), .val (.int ps), .val (.int pw), .val (.long x1), .second, .val (.long x2), .second, .val (.long x3), .second, .val (.int x4), .val (.int x5), .val (.ref b6), .val (.int v41), .val (.int zr_42), .val (.int x47), .val (.int x48)] [(.int x5), (.int x47), (.ref b6)])) _
  refine Goes.by (fun _ k => XS.iload X52.here hx rfl (hb hby at_450) rfl k) ?_
  show Goes p.tables e below (T52.setTop (mkF m 452 #[.val (.long pr), .second, .val (.long pa), .second, .val (.long pb), .second, .val (.int pc0), .val (.int ps), .val (.int pw), .val (.long x1), .second, .val (.long x2), .second, .val (.long x3), .second, .val (.int x4), .val (.int x5), .val (.ref b6), .val (.int v41), .val (.int zr_42), .val (.int x47), .val (.int x48)] [(.int x48), (.int x5), (.int x47), (.ref b6)])) _
  refine Goes.by (fun _ k => XS.iconst X52.here hx rfl (hb hby at_452) k) ?_
  show Goes p.tables e below (T52.setTop (mkF m 453 #[.val (.long pr), .second, .val (.long pa), .second, .val (.long pb), .second, .val (.int pc0), .val (.int ps), .val (.int pw), .val (.long x1), .second, .val (.long x2), .second, .val (.long x3), .second, .val (.int x4), .val (.int x5), .val (.ref b6), .val (.int v41), .val (.int zr_42), .val (.int x47), .val (.int x48)] [(.int (4 : Int32)), (.int x48), (.int x5), (.int x47), (.ref b6)])) _
  refine Goes.by (fun _ k => XS.lload X52.here hx rfl (hb hby at_453) rfl k) ?_
  show Goes p.tables e below (T52.setTop (mkF m 455 #[.val (.long pr), .second, .val (.long pa), .second, .val (.long pb), .second, .val (.int pc0), .val (.int ps), .val (.int pw), .val (.long x1), .second, .val (.long x2), .second, .val (.long x3), .second, .val (.int x4), .val (.int x5), .val (.ref b6), .val (.int v41), .val (.int zr_42), .val (.int x47), .val (.int x48)] [(.long x1), (.int (4 : Int32)), (.int x48), (.int x5), (.int x47), (.ref b6)])) _
  obtain ⟨_, _, ⟨T53, L53, k53, n53⟩, -, X53, ⟨Lc53, hQ53, l53, y53, z53⟩, st53⟩ := Jvm.LawKit.callS X52 hx (y := (⟨"com/example/xml_graph_join/xmlgraphjoin/labels/PackedSlotsFindPinLaw", "clear", "([JIIIIJ)Z"⟩ : MethodName)) hown (mvT hZ (hw _ (List.mem_of_getElem? (i := 20) rfl))) (mvT hZ (hw _ (List.mem_of_getElem? (i := 21) rfl))) (mvT hZ (hw _ (List.mem_of_getElem? (i := 4) rfl))) (mvT hZ (hw _ (List.mem_of_getElem? (i := 22) rfl))) (by decide) (backOf (W := 0) (rm5 l Z a0 hw [] b6 x47 x5 x48 (4 : Int32) x1 gy ((((own_home x1 x5).toInt.toNat) + 4) % nl) nl h41 n0 Zs41 A_b6 (own_atk _ _ _ nl ((own_home x1 x5).toInt.toNat) 4 hpm hs (by rw [hx47]; exact hh1) (by decide) hh2 (by decide)) (Nat.mod_lt _ hnl0)) hZ (hw _ (List.mem_of_getElem? (i := 22) rfl)) (hw _ (List.mem_of_getElem? (i := 4) rfl)) (by decide) (by decide)) (g := (mkF m 455 #[.val (.long pr), .second, .val (.long pa), .second, .val (.long pb), .second, .val (.int pc0), .val (.int ps), .val (.int pw), .val (.long x1), .second, .val (.long x2), .second, .val (.long x3), .second, .val (.int x4), .val (.int x5), .val (.ref b6), .val (.int v41), .val (.int zr_42), .val (.int x47), .val (.int x48)] [(.long x1), (.int (4 : Int32)), (.int x48), (.int x5), (.int x47), (.ref b6)])) rfl (by rw [hml]; rfl) (argsL := [(.ref b6), (.int x47), (.int x5), (.int x48), (.int (4 : Int32)), (.long x1)]) (rest := []) (lenOf pd_4 rfl) rfl (by show 2 * 0 + _ ≤ _; exact Nat.le_of_eq rfl) (hb hby at_455) (fun _ _ => ⟨rfl, e52, (by decide : 1 + 0 ≤ _), (by decide : 8 + 0 ≤ _)⟩)
  dsimp only [Pt.U, Pt.locs, Pt.cells, Pt.slots] at X53 l53 y53 z53 st53 hQ53
  rw [l53, y53, z53] at X53
  obtain ⟨rfl, N53q, e53⟩ := hQ53
  have N53 := Fr.app N52 N53q
  refine Goes.by st53 ?_
  show Goes p.tables e below (T53.setTop (mkF m 458 #[.val (.long pr), .second, .val (.long pa), .second, .val (.long pb), .second, .val (.int pc0), .val (.int ps), .val (.int pw), .val (.long x1), .second, .val (.long x2), .second, .val (.long x3), .second, .val (.int x4), .val (.int x5), .val (.ref b6), .val (.int v41), .val (.int zr_42), .val (.int x47), .val (.int x48)] [(.int (fn5 x47 x5 x48 (4 : Int32) x1 gy ((((own_home x1 x5).toInt.toNat) + 4) % nl) nl))])) _
  refine Goes.by (fun _ k => XS.ifNo X53.here hx rfl (hb hby at_458) rfl ((if0 _ _).trans (feq (own_cl _ _ _ _ _ _ _ nl 4 zd_42 (by decide) (own_dd _ _ _ _ nl ((own_home x1 x5).toInt.toNat) zd_42 hpm hs (by rw [hx47]; exact hh1) hr1_42 hh2 hr3_42 hx48) (fun z => hr4_42 4 z) : ¬ ((fn5 x47 x5 x48 (4 : Int32) x1 gy ((((own_home x1 x5).toInt.toNat) + 4) % nl) nl) = (0 : Int32)))).1) k) ?_
  show Goes p.tables e below (T53.setTop (mkF m 461 #[.val (.long pr), .second, .val (.long pa), .second, .val (.long pb), .second, .val (.int pc0), .val (.int ps), .val (.int pw), .val (.long x1), .second, .val (.long x2), .second, .val (.long x3), .second, .val (.int x4), .val (.int x5), .val (.ref b6), .val (.int v41), .val (.int zr_42), .val (.int x47), .val (.int x48)] [])) _
  refine Goes.by (fun _ k => XS.aload X53.here hx rfl (hb hby at_461) rfl rfl k) ?_
  show Goes p.tables e below (T53.setTop (mkF m 463 #[.val (.long pr), .second, .val (.long pa), .second, .val (.long pb), .second, .val (.int pc0), .val (.int ps), .val (.int pw), .val (.long x1), .second, .val (.long x2), .second, .val (.long x3), .second, .val (.int x4), .val (.int x5), .val (.ref b6), .val (.int v41), .val (.int zr_42), .val (.int x47), .val (.int x48)] [(.ref b6)])) _
  refine Goes.by (fun _ k => XS.iload X53.here hx rfl (hb hby at_463) rfl k) ?_
  show Goes p.tables e below (T53.setTop (mkF m 465 #[.val (.long pr), .second, .val (.long pa), .second, .val (.long pb), .second, .val (.int pc0), .val (.int ps), .val (.int pw), .val (.long x1), .second, .val (.long x2), .second, .val (.long x3), .second, .val (.int x4), .val (.int x5), .val (.ref b6), .val (.int v41), .val (.int zr_42), .val (.int x47), .val (.int x48)] [(.int x47), (.ref b6)])) _
  refine Goes.by (fun _ k => XS.iload X53.here hx rfl (hb hby at_465) rfl k) ?_
  show Goes p.tables e below (T53.setTop (mkF m 467 #[.val (.long pr), .second, .val (.long pa), .second, .val (.long pb), .second, .val (.int pc0), .val (.int ps), .val (.int pw), .val (.long x1), .second, .val (.long x2), .second, .val (.long x3), .second, .val (.int x4), .val (.int x5), .val (.ref b6), .val (.int v41), .val (.int zr_42), .val (.int x47), .val (.int x48)] [(.int x5), (.int x47), (.ref b6)])) _
  refine Goes.by (fun _ k => XS.iload X53.here hx rfl (hb hby at_467) rfl k) ?_
  show Goes p.tables e below (T53.setTop (mkF m 469 #[.val (.long pr), .second, .val (.long pa), .second, .val (.long pb), .second, .val (.int pc0), .val (.int ps), .val (.int pw), .val (.long x1), .second, .val (.long x2), .second, .val (.long x3), .second, .val (.int x4), .val (.int x5), .val (.ref b6), .val (.int v41), .val (.int zr_42), .val (.int x47), .val (.int x48)] [(.int x48), (.int x5), (.int x47), (.ref b6)])) _
  refine Goes.by (fun _ k => XS.iconst X53.here hx rfl (hb hby at_469) k) ?_
  show Goes p.tables e below (T53.setTop (mkF m 470 #[.val (.long pr), .second, .val (.long pa), .second, .val (.long pb), .second, .val (.int pc0), .val (.int ps), .val (.int pw), .val (.long x1), .second, .val (.long x2), .second, .val (.long x3), .second, .val (.int x4), .val (.int x5), .val (.ref b6), .val (.int v41), .val (.int zr_42), .val (.int x47), .val (.int x48)] [(.int (5 : Int32)), (.int x48), (.int x5), (.int x47), (.ref b6)])) _
  refine Goes.by (fun _ k => XS.lload X53.here hx rfl (hb hby at_470) rfl k) ?_
  show Goes p.tables e below (T53.setTop (mkF m 472 #[.val (.long pr), .second, .val (.long pa), .second, .val (.long pb), .second, .val (.int pc0), .val (.int ps), .val (.int pw), .val (.long x1), .second, .val (.long x2), .second, .val (.long x3), .second, .val (.int x4), .val (.int x5), .val (.ref b6), .val (.int v41), .val (.int zr_42), .val (.int x47), .val (.int x48)] [(.long x1), (.int (5 : Int32)), (.int x48), (.int x5), (.int x47), (.ref b6)])) _
  obtain ⟨_, _, ⟨T54, L54, k54, n54⟩, -, X54, ⟨Lc54, hQ54, l54, y54, z54⟩, st54⟩ := Jvm.LawKit.callS X53 hx (y := (⟨"com/example/xml_graph_join/xmlgraphjoin/labels/PackedSlotsFindPinLaw", "clear", "([JIIIIJ)Z"⟩ : MethodName)) hown (mvT hZ (hw _ (List.mem_of_getElem? (i := 20) rfl))) (mvT hZ (hw _ (List.mem_of_getElem? (i := 21) rfl))) (mvT hZ (hw _ (List.mem_of_getElem? (i := 4) rfl))) (mvT hZ (hw _ (List.mem_of_getElem? (i := 22) rfl))) (by decide) (backOf (W := 0) (rm5 l Z a0 hw [] b6 x47 x5 x48 (5 : Int32) x1 gy ((((own_home x1 x5).toInt.toNat) + 5) % nl) nl h41 n0 Zs41 A_b6 (own_atk _ _ _ nl ((own_home x1 x5).toInt.toNat) 5 hpm hs (by rw [hx47]; exact hh1) (by decide) hh2 (by decide)) (Nat.mod_lt _ hnl0)) hZ (hw _ (List.mem_of_getElem? (i := 22) rfl)) (hw _ (List.mem_of_getElem? (i := 4) rfl)) (by decide) (by decide)) (g := (mkF m 472 #[.val (.long pr), .second, .val (.long pa), .second, .val (.long pb), .second, .val (.int pc0), .val (.int ps), .val (.int pw), .val (.long x1), .second, .val (.long x2), .second, .val (.long x3), .second, .val (.int x4), .val (.int x5), .val (.ref b6), .val (.int v41), .val (.int zr_42), .val (.int x47), .val (.int x48)] [(.long x1), (.int (5 : Int32)), (.int x48), (.int x5), (.int x47), (.ref b6)])) rfl (by rw [hml]; rfl) (argsL := [(.ref b6), (.int x47), (.int x5), (.int x48), (.int (5 : Int32)), (.long x1)]) (rest := []) (lenOf pd_4 rfl) rfl (by show 2 * 0 + _ ≤ _; exact Nat.le_of_eq rfl) (hb hby at_472) (fun _ _ => ⟨rfl, e53, (by decide : 1 + 0 ≤ _), (by decide : 8 + 0 ≤ _)⟩)
  dsimp only [Pt.U, Pt.locs, Pt.cells, Pt.slots] at X54 l54 y54 z54 st54 hQ54
  rw [l54, y54, z54] at X54
  obtain ⟨rfl, N54q, e54⟩ := hQ54
  have N54 := Fr.app N53 N54q
  refine Goes.by st54 ?_
  show Goes p.tables e below (T54.setTop (mkF m 475 #[.val (.long pr), .second, .val (.long pa), .second, .val (.long pb), .second, .val (.int pc0), .val (.int ps), .val (.int pw), .val (.long x1), .second, .val (.long x2), .second, .val (.long x3), .second, .val (.int x4), .val (.int x5), .val (.ref b6), .val (.int v41), .val (.int zr_42), .val (.int x47), .val (.int x48)] [(.int (fn5 x47 x5 x48 (5 : Int32) x1 gy ((((own_home x1 x5).toInt.toNat) + 5) % nl) nl))])) _
  refine Goes.by (fun _ k => XS.ifNo X54.here hx rfl (hb hby at_475) rfl ((if0 _ _).trans (feq (own_cl _ _ _ _ _ _ _ nl 5 zd_42 (by decide) (own_dd _ _ _ _ nl ((own_home x1 x5).toInt.toNat) zd_42 hpm hs (by rw [hx47]; exact hh1) hr1_42 hh2 hr3_42 hx48) (fun z => hr4_42 5 z) : ¬ ((fn5 x47 x5 x48 (5 : Int32) x1 gy ((((own_home x1 x5).toInt.toNat) + 5) % nl) nl) = (0 : Int32)))).1) k) ?_
  show Goes p.tables e below (T54.setTop (mkF m 478 #[.val (.long pr), .second, .val (.long pa), .second, .val (.long pb), .second, .val (.int pc0), .val (.int ps), .val (.int pw), .val (.long x1), .second, .val (.long x2), .second, .val (.long x3), .second, .val (.int x4), .val (.int x5), .val (.ref b6), .val (.int v41), .val (.int zr_42), .val (.int x47), .val (.int x48)] [])) _
  refine Goes.by (fun _ k => XS.aload X54.here hx rfl (hb hby at_478) rfl rfl k) ?_
  show Goes p.tables e below (T54.setTop (mkF m 480 #[.val (.long pr), .second, .val (.long pa), .second, .val (.long pb), .second, .val (.int pc0), .val (.int ps), .val (.int pw), .val (.long x1), .second, .val (.long x2), .second, .val (.long x3), .second, .val (.int x4), .val (.int x5), .val (.ref b6), .val (.int v41), .val (.int zr_42), .val (.int x47), .val (.int x48)] [(.ref b6)])) _
  refine Goes.by (fun _ k => XS.iload X54.here hx rfl (hb hby at_480) rfl k) ?_
  show Goes p.tables e below (T54.setTop (mkF m 482 #[.val (.long pr), .second, .val (.long pa), .second, .val (.long pb), .second, .val (.int pc0), .val (.int ps), .val (.int pw), .val (.long x1), .second, .val (.long x2), .second, .val (.long x3), .second, .val (.int x4), .val (.int x5), .val (.ref b6), .val (.int v41), .val (.int zr_42), .val (.int x47), .val (.int x48)] [(.int x47), (.ref b6)])) _
  refine Goes.by (fun _ k => XS.iload X54.here hx rfl (hb hby at_482) rfl k) ?_
  show Goes p.tables e below (T54.setTop (mkF m 484 #[.val (.long pr), .second, .val (.long pa), .second, .val (.long pb), .second, .val (.int pc0), .val (.int ps), .val (.int pw), .val (.long x1), .second, .val (.long x2), .second, .val (.long x3), .second, .val (.int x4), .val (.int x5), .val (.ref b6), .val (.int v41), .val (.int zr_42), .val (.int x47), .val (.int x48)] [(.int x5), (.int x47), (.ref b6)])) _
  refine Goes.by (fun _ k => XS.iload X54.here hx rfl (hb hby at_484) rfl k) ?_
  show Goes p.tables e below (T54.setTop (mkF m 486 #[.val (.long pr), .second, .val (.long pa), .second, .val (.long pb), .second, .val (.int pc0), .val (.int ps), .val (.int pw), .val (.long x1), .second, .val (.long x2), .second, .val (.long x3), .second, .val (.int x4), .val (.int x5), .val (.ref b6), .val (.int v41), .val (.int zr_42), .val (.int x47), .val (.int x48)] [(.int x48), (.int x5), (.int x47), (.ref b6)])) _
  refine Goes.by (fun _ k => XS.bipush X54.here hx rfl (hb hby at_486) k) ?_
  show Goes p.tables e below (T54.setTop (mkF m 488 #[.val (.long pr), .second, .val (.long pa), .second, .val (.long pb), .second, .val (.int pc0), .val (.int ps), .val (.int pw), .val (.long x1), .second, .val (.long x2), .second, .val (.long x3), .second, .val (.int x4), .val (.int x5), .val (.ref b6), .val (.int v41), .val (.int zr_42), .val (.int x47), .val (.int x48)] [(.int (6 : Int32)), (.int x48), (.int x5), (.int x47), (.ref b6)])) _
  refine Goes.by (fun _ k => XS.lload X54.here hx rfl (hb hby at_488) rfl k) ?_
  show Goes p.tables e below (T54.setTop (mkF m 490 #[.val (.long pr), .second, .val (.long pa), .second, .val (.long pb), .second, .val (.int pc0), .val (.int ps), .val (.int pw), .val (.long x1), .second, .val (.long x2), .second, .val (.long x3), .second, .val (.int x4), .val (.int x5), .val (.ref b6), .val (.int v41), .val (.int zr_42), .val (.int x47), .val (.int x48)] [(.long x1), (.int (6 : Int32)), (.int x48), (.int x5), (.int x47), (.ref b6)])) _
  obtain ⟨_, _, ⟨T55, L55, k55, n55⟩, -, X55, ⟨Lc55, hQ55, l55, y55, z55⟩, st55⟩ := Jvm.LawKit.callS X54 hx (y := (⟨"com/example/xml_graph_join/xmlgraphjoin/labels/PackedSlotsFindPinLaw", "clear", "([JIIIIJ)Z"⟩ : MethodName)) hown (mvT hZ (hw _ (List.mem_of_getElem? (i := 20) rfl))) (mvT hZ (hw _ (List.mem_of_getElem? (i := 21) rfl))) (mvT hZ (hw _ (List.mem_of_getElem? (i := 4) rfl))) (mvT hZ (hw _ (List.mem_of_getElem? (i := 22) rfl))) (by decide) (backOf (W := 0) (rm5 l Z a0 hw [] b6 x47 x5 x48 (6 : Int32) x1 gy ((((own_home x1 x5).toInt.toNat) + 6) % nl) nl h41 n0 Zs41 A_b6 (own_atk _ _ _ nl ((own_home x1 x5).toInt.toNat) 6 hpm hs (by rw [hx47]; exact hh1) (by decide) hh2 (by decide)) (Nat.mod_lt _ hnl0)) hZ (hw _ (List.mem_of_getElem? (i := 22) rfl)) (hw _ (List.mem_of_getElem? (i := 4) rfl)) (by decide) (by decide)) (g := (mkF m 490 #[.val (.long pr), .second, .val (.long pa), .second, .val (.long pb), .second, .val (.int pc0), .val (.int ps), .val (.int pw), .val (.long x1), .second, .val (.long x2), .second, .val (.long x3), .second, .val (.int x4), .val (.int x5), .val (.ref b6), .val (.int v41), .val (.int zr_42), .val (.int x47), .val (.int x48)] [(.long x1), (.int (6 : Int32)), (.int x48), (.int x5), (.int x47), (.ref b6)])) rfl (by rw [hml]; rfl) (argsL := [(.ref b6), (.int x47), (.int x5), (.int x48), (.int (6 : Int32)), (.long x1)]) (rest := []) (lenOf pd_4 rfl) rfl (by show 2 * 0 + _ ≤ _; exact Nat.le_of_eq rfl) (hb hby at_490) (fun _ _ => ⟨rfl, e54, (by decide : 1 + 0 ≤ _), (by decide : 8 + 0 ≤ _)⟩)
  dsimp only [Pt.U, Pt.locs, Pt.cells, Pt.slots] at X55 l55 y55 z55 st55 hQ55
  rw [l55, y55, z55] at X55
  obtain ⟨rfl, N55q, e55⟩ := hQ55
  have N55 := Fr.app N54 N55q
  refine Goes.by st55 ?_
  show Goes p.tables e below (T55.setTop (mkF m 493 #[.val (.long pr), .second, .val (.long pa), .second, .val (.long pb), .second, .val (.int pc0), .val (.int ps), .val (.int pw), .val (.long x1), .second, .val (.long x2), .second, .val (.long x3), .second, .val (.int x4), .val (.int x5), .val (.ref b6), .val (.int v41), .val (.int zr_42), .val (.int x47), .val (.int x48)] [(.int (fn5 x47 x5 x48 (6 : Int32) x1 gy ((((own_home x1 x5).toInt.toNat) + 6) % nl) nl))])) _
  refine Goes.by (fun _ k => XS.ifNo X55.here hx rfl (hb hby at_493) rfl ((if0 _ _).trans (feq (own_cl _ _ _ _ _ _ _ nl 6 zd_42 (by decide) (own_dd _ _ _ _ nl ((own_home x1 x5).toInt.toNat) zd_42 hpm hs (by rw [hx47]; exact hh1) hr1_42 hh2 hr3_42 hx48) (fun z => hr4_42 6 z) : ¬ ((fn5 x47 x5 x48 (6 : Int32) x1 gy ((((own_home x1 x5).toInt.toNat) + 6) % nl) nl) = (0 : Int32)))).1) k) ?_
  show Goes p.tables e below (T55.setTop (mkF m 496 #[.val (.long pr), .second, .val (.long pa), .second, .val (.long pb), .second, .val (.int pc0), .val (.int ps), .val (.int pw), .val (.long x1), .second, .val (.long x2), .second, .val (.long x3), .second, .val (.int x4), .val (.int x5), .val (.ref b6), .val (.int v41), .val (.int zr_42), .val (.int x47), .val (.int x48)] [])) _
  refine Goes.by (fun _ k => XS.aload X55.here hx rfl (hb hby at_496) rfl rfl k) ?_
  show Goes p.tables e below (T55.setTop (mkF m 498 #[.val (.long pr), .second, .val (.long pa), .second, .val (.long pb), .second, .val (.int pc0), .val (.int ps), .val (.int pw), .val (.long x1), .second, .val (.long x2), .second, .val (.long x3), .second, .val (.int x4), .val (.int x5), .val (.ref b6), .val (.int v41), .val (.int zr_42), .val (.int x47), .val (.int x48)] [(.ref b6)])) _
  refine Goes.by (fun _ k => XS.iload X55.here hx rfl (hb hby at_498) rfl k) ?_
  show Goes p.tables e below (T55.setTop (mkF m 500 #[.val (.long pr), .second, .val (.long pa), .second, .val (.long pb), .second, .val (.int pc0), .val (.int ps), .val (.int pw), .val (.long x1), .second, .val (.long x2), .second, .val (.long x3), .second, .val (.int x4), .val (.int x5), .val (.ref b6), .val (.int v41), .val (.int zr_42), .val (.int x47), .val (.int x48)] [(.int x47), (.ref b6)])) _
  refine Goes.by (fun _ k => XS.iload X55.here hx rfl (hb hby at_500) rfl k) ?_
  show Goes p.tables e below (T55.setTop (mkF m 502 #[.val (.long pr), .second, .val (.long pa), .second, .val (.long pb), .second, .val (.int pc0), .val (.int ps), .val (.int pw), .val (.long x1), .second, .val (.long x2), .second, .val (.long x3), .second, .val (.int x4), .val (.int x5), .val (.ref b6), .val (.int v41), .val (.int zr_42), .val (.int x47), .val (.int x48)] [(.int x5), (.int x47), (.ref b6)])) _
  refine Goes.by (fun _ k => XS.iload X55.here hx rfl (hb hby at_502) rfl k) ?_
  show Goes p.tables e below (T55.setTop (mkF m 504 #[.val (.long pr), .second, .val (.long pa), .second, .val (.long pb), .second, .val (.int pc0), .val (.int ps), .val (.int pw), .val (.long x1), .second, .val (.long x2), .second, .val (.long x3), .second, .val (.int x4), .val (.int x5), .val (.ref b6), .val (.int v41), .val (.int zr_42), .val (.int x47), .val (.int x48)] [(.int x48), (.int x5), (.int x47), (.ref b6)])) _
  refine Goes.by (fun _ k => XS.bipush X55.here hx rfl (hb hby at_504) k) ?_
  show Goes p.tables e below (T55.setTop (mkF m 506 #[.val (.long pr), .second, .val (.long pa), .second, .val (.long pb), .second, .val (.int pc0), .val (.int ps), .val (.int pw), .val (.long x1), .second, .val (.long x2), .second, .val (.long x3), .second, .val (.int x4), .val (.int x5), .val (.ref b6), .val (.int v41), .val (.int zr_42), .val (.int x47), .val (.int x48)] [(.int (7 : Int32)), (.int x48), (.int x5), (.int x47), (.ref b6)])) _
  refine Goes.by (fun _ k => XS.lload X55.here hx rfl (hb hby at_506) rfl k) ?_
  show Goes p.tables e below (T55.setTop (mkF m 508 #[.val (.long pr), .second, .val (.long pa), .second, .val (.long pb), .second, .val (.int pc0), .val (.int ps), .val (.int pw), .val (.long x1), .second, .val (.long x2), .second, .val (.long x3), .second, .val (.int x4), .val (.int x5), .val (.ref b6), .val (.int v41), .val (.int zr_42), .val (.int x47), .val (.int x48)] [(.long x1), (.int (7 : Int32)), (.int x48), (.int x5), (.int x47), (.ref b6)])) _
  obtain ⟨_, _, ⟨T56, L56, k56, n56⟩, -, X56, ⟨Lc56, hQ56, l56, y56, z56⟩, st56⟩ := Jvm.LawKit.callS X55 hx (y := (⟨"com/example/xml_graph_join/xmlgraphjoin/labels/PackedSlotsFindPinLaw", "clear", "([JIIIIJ)Z"⟩ : MethodName)) hown (mvT hZ (hw _ (List.mem_of_getElem? (i := 20) rfl))) (mvT hZ (hw _ (List.mem_of_getElem? (i := 21) rfl))) (mvT hZ (hw _ (List.mem_of_getElem? (i := 4) rfl))) (mvT hZ (hw _ (List.mem_of_getElem? (i := 22) rfl))) (by decide) (backOf (W := 0) (rm5 l Z a0 hw [] b6 x47 x5 x48 (7 : Int32) x1 gy ((((own_home x1 x5).toInt.toNat) + 7) % nl) nl h41 n0 Zs41 A_b6 (own_atk _ _ _ nl ((own_home x1 x5).toInt.toNat) 7 hpm hs (by rw [hx47]; exact hh1) (by decide) hh2 (by decide)) (Nat.mod_lt _ hnl0)) hZ (hw _ (List.mem_of_getElem? (i := 22) rfl)) (hw _ (List.mem_of_getElem? (i := 4) rfl)) (by decide) (by decide)) (g := (mkF m 508 #[.val (.long pr), .second, .val (.long pa), .second, .val (.long pb), .second, .val (.int pc0), .val (.int ps), .val (.int pw), .val (.long x1), .second, .val (.long x2), .second, .val (.long x3), .second, .val (.int x4), .val (.int x5), .val (.ref b6), .val (.int v41), .val (.int zr_42), .val (.int x47), .val (.int x48)] [(.long x1), (.int (7 : Int32)), (.int x48), (.int x5), (.int x47), (.ref b6)])) rfl (by rw [hml]; rfl) (argsL := [(.ref b6), (.int x47), (.int x5), (.int x48), (.int (7 : Int32)), (.long x1)]) (rest := []) (lenOf pd_4 rfl) rfl (by show 2 * 0 + _ ≤ _; exact Nat.le_of_eq rfl) (hb hby at_508) (fun _ _ => ⟨rfl, e55, (by decide : 1 + 0 ≤ _), (by decide : 8 + 0 ≤ _)⟩)
  dsimp only [Pt.U, Pt.locs, Pt.cells, Pt.slots] at X56 l56 y56 z56 st56 hQ56
  rw [l56, y56, z56] at X56
  obtain ⟨rfl, N56q, e56⟩ := hQ56
  have N56 := Fr.app N55 N56q
  refine Goes.by st56 ?_
  show Goes p.tables e below (T56.setTop (mkF m 511 #[.val (.long pr), .second, .val (.long pa), .second, .val (.long pb), .second, .val (.int pc0), .val (.int ps), .val (.int pw), .val (.long x1), .second, .val (.long x2), .second, .val (.long x3), .second, .val (.int x4), .val (.int x5), .val (.ref b6), .val (.int v41), .val (.int zr_42), .val (.int x47), .val (.int x48)] [(.int (fn5 x47 x5 x48 (7 : Int32) x1 gy ((((own_home x1 x5).toInt.toNat) + 7) % nl) nl))])) _
  refine Goes.by (fun _ k => XS.ifNo X56.here hx rfl (hb hby at_511) rfl ((if0 _ _).trans (feq (own_cl _ _ _ _ _ _ _ nl 7 zd_42 (by decide) (own_dd _ _ _ _ nl ((own_home x1 x5).toInt.toNat) zd_42 hpm hs (by rw [hx47]; exact hh1) hr1_42 hh2 hr3_42 hx48) (fun z => hr4_42 7 z) : ¬ ((fn5 x47 x5 x48 (7 : Int32) x1 gy ((((own_home x1 x5).toInt.toNat) + 7) % nl) nl) = (0 : Int32)))).1) k) ?_
  show Goes p.tables e below (T56.setTop (mkF m 514 #[.val (.long pr), .second, .val (.long pa), .second, .val (.long pb), .second, .val (.int pc0), .val (.int ps), .val (.int pw), .val (.long x1), .second, .val (.long x2), .second, .val (.long x3), .second, .val (.int x4), .val (.int x5), .val (.ref b6), .val (.int v41), .val (.int zr_42), .val (.int x47), .val (.int x48)] [])) _
  refine Goes.by (fun _ k => XS.iconst X56.here hx rfl (hb hby at_514) k) ?_
  show Goes p.tables e below (T56.setTop (mkF m 515 #[.val (.long pr), .second, .val (.long pa), .second, .val (.long pb), .second, .val (.int pc0), .val (.int ps), .val (.int pw), .val (.long x1), .second, .val (.long x2), .second, .val (.long x3), .second, .val (.int x4), .val (.int x5), .val (.ref b6), .val (.int v41), .val (.int zr_42), .val (.int x47), .val (.int x48)] [(.int (1 : Int32))])) _
  refine Goes.by (fun _ k => XS.goto X56.here hx rfl (pc0 := 515) (pc' := 519) rfl (hb hby at_515) (by decide) (by decide) k) ?_
  show Goes p.tables e below (T56.setTop (mkF m 519 #[.val (.long pr), .second, .val (.long pa), .second, .val (.long pb), .second, .val (.int pc0), .val (.int ps), .val (.int pw), .val (.long x1), .second, .val (.long x2), .second, .val (.long x3), .second, .val (.int x4), .val (.int x5), .val (.ref b6), .val (.int v41), .val (.int zr_42), .val (.int x47), .val (.int x48)] [(.int (1 : Int32))])) _
  obtain ⟨fs, hr, hrun, hended, hW, hsame⟩ := X56.leave (v := some (.int (1 : Int32))) (fun h => by rw [Bd.returns] at h; cases h)
  refine ⟨_, _, retN X56 hx (t := .boolean) Bd.returns (by simp) (hb hby at_519) hr, hrun, hended, _, _, rfl, ?_, ⟨_, rfl⟩, hW, hsame.mono (by decide) (by decide)⟩
  show Q0 Z pr pa pb pc0 ps pw h0 n0 _ T56.heap _
  rw [e56]
  exact ⟨rfl, N56⟩
set_option maxRecDepth 65536 in
set_option maxHeartbeats 40000000 in
theorem comes_1 {Post : Tables → Env → Array Value → State → Outcome → State → Prop} (hpost : ∀ tb e args s v u, (limb_1_1.after args s (.returned v) u = true ∧ limb_1_2.after args s (.returned v) u = true ∧ True) → FrameEnd s (.returned v) u (Jvm.fieldLocs frame_1_writes args s ++ Jvm.arrayLocs frame_1_arrays args s ++ Jvm.staticLocs frame_1_statics s) 16 128 → Post tb e args s (.returned v) u) :
    ArmFor flags0 classFile x code maxLocals ret World_1 tables_1 room_1 Calls_1 rest_1 Pre_1 Post := by
  intro l hfl _ _ p e ha hc hk s m args below hf hA hF happ hP
  obtain ⟨hcalls, hrest, hpre⟩ := hP
  obtain ⟨-, -, -, hnamed, -, -, -, hat⟩ := (Spec.applies_iff hf).mp happ
  obtain ⟨hg, hn⟩ := and_e (Cond.before_iff.mp (show (Jvm.Cond.and given_1 narrow_1).before args s = true from hpre))
  obtain ⟨g1, g2⟩ := and_e hg
  obtain ⟨g3, g4⟩ := and_e g2
  obtain ⟨g5, g6⟩ := and_e g4
  obtain ⟨g7, g8⟩ := and_e g6
  obtain ⟨g9, g10⟩ := and_e g8
  obtain ⟨g11, g12⟩ := and_e g10
  obtain ⟨w0, w1, w2, w3, w4, w5, rfl⟩ : ∃ w0 w1 w2 w3 w4 w5 : Value, args = #[w0, w1, w2, w3, w4, w5] := by
    have hs : args.size = 6 := by simpa [Cond.value, given_1] using g1
    obtain ⟨L⟩ := args
    match L, hs with
    | [w0, w1, w2, w3, w4, w5], _ => exact ⟨w0, w1, w2, w3, w4, w5, rfl⟩
  have hw := fun d (hd : d ∈ tables_1) => atoms_spec (ws := Jvm.Cond.code x code maxLocals ret :: tables_1) hat d (List.mem_cons_of_mem _ hd)
  have hfit : Fit s := fun {y c} hc i hi => by
    obtain ⟨ha, rfl⟩ := Array.getElem?_eq_some_iff.mp hc
    have q := List.all_eq_true.mp ((Array.all_eq_true_iff_forall_mem.mp hF) _ (Array.getElem_mem ha)) i (List.mem_range.mpr hi)
    simpa [Array.getElem?_eq_getElem hi] using q
  obtain ⟨i0, ei0⟩ := isL_v g3
  obtain rfl : w0 = (.long i0) := Option.some.inj ei0
  obtain ⟨i1, ei1⟩ := isL_v g5
  obtain rfl : w1 = (.long i1) := Option.some.inj ei1
  obtain ⟨i2, ei2⟩ := isL_v g7
  obtain rfl : w2 = (.long i2) := Option.some.inj ei2
  obtain ⟨i3, ei3⟩ := is_v g9
  obtain rfl : w3 = (.int i3) := Option.some.inj ei3
  obtain ⟨i4, ei4⟩ := is_v g11
  obtain rfl : w4 = (.int i4) := Option.some.inj ei4
  obtain ⟨i5, ei5⟩ := is_v g12
  obtain rfl : w5 = (.int i5) := Option.some.inj ei5
  obtain ⟨n, o, h1, h2, h3, _, L, rfl, ⟨hv0, N⟩, hq⟩ := rm0 l s _ hw tables_1 i0 i1 i2 i3 i4 i5 s.heap s.heap.size (Nat.le_refl _) p e ha hc hk s m _ below hf ((Spec.applies_iff_loose hf).mp happ).1 ⟨rfl, State.Warmed39.refl s, rfl⟩ trivial
  subst hv0
  refine ⟨n, _, h1, h2, h3, hpost _ _ _ _ _ _ ⟨Cond.after_iff.mpr rfl, Cond.after_iff.mpr (eq_i res_at (Term.int_eval (1)) rfl), trivial⟩ ⟨hq.1, hq.2.1, (hq.2.2.sift fun y hy => Or.inr (N y hy)).mono (by decide) (by decide)⟩⟩
theorem main_1_1 : Claimed_1_1 := comes_1 fun _ _ _ _ _ _ h hF => ⟨h.1, hF⟩
theorem main_1_2 : Claimed_1_2 := comes_1 fun _ _ _ _ _ _ h hF => ⟨h.2.1, hF⟩
end Jvm.Pilot.@@N@@
namespace Jvm.Pilot.@@N@@
open Jvm Jvm.ClassFile Sem Op Lib Jvm.Free Jvm.Stand Jvm.Pilot.@@N@@.Jvm.D
/-! MADE BY PROGRAM (witnessworld.py) out of the Statement's table words and the real class files: 11 classes; the members and pool entries that the words name. The judged class is class 1, her method 1. -/
namespace start1
open Jvm.ClassFile
def u (s : String) : CpInfo := .utf8 (stringToUtf16 s)
/-- a pool by its gaps: so many unusable entries, then the entry; so many at the end -/
def gap : Nat → List CpInfo → List CpInfo
  | 0, r => r
  | n + 1, r => .unusable :: gap n r
def poolList (es : List (Nat × CpInfo)) (last : Nat) : List CpInfo := es.foldr (fun e r => gap e.1 (e.2 :: r)) (gap last [])
def pool (es : List (Nat × CpInfo)) (last : Nat) : Array CpInfo := ⟨poolList es last⟩
def fileOf (pool : Array CpInfo) (this : Nat) (attrs : Array Attribute := #[]) (ms : Array MethodInfo := #[]) (fl : Nat := 33) (sup : Nat := 0) (ifs : Array Nat := #[]) (fds : Array FieldInfo := #[]) : ClassFile where
  minorVersion := 0
  majorVersion := 65
  constantPool := pool
  accessFlags := fl
  thisClass := this
  superClass := sup
  interfaces := ifs
  fields := fds
  methods := ms
  attributes := attrs
def plain (name : String) (sup : Option ClassId) : Class where
  name := name
  kind := .ordinary
  loader := none
  accessFlags := 33
  super := sup
  interfaces := #[]
  cf := none
  fields := #[]
  methods := #[]
  instanceTypes := #[]
  staticTypes := #[]
  resolved := #[]
  callSites := []
  init := .initialized
  statics := none
  mirror := none

def pool0 : Array CpInfo := pool [(5, u "<init>"), (0, u "()V"), (1, .class_ 10), (1, u "java/lang/Object")] 113

def k0m0 : Method := { name := "<init>", desc := "()V", sig := { parameters := [], returnType := none }, accessFlags := 1, code := none }
/-- java/lang/Object -/
def k0 : Class := { plain "java/lang/Object" none with
  accessFlags := 33
  interfaces := #[]
  cf := some (fileOf pool0 8 #[] #[{ accessFlags := 1, nameIndex := 5, descriptorIndex := 6, attributes := #[] }] 33 0 #[] #[])
  fields := #[]
  methods := #[k0m0]
  instanceTypes := #[]
  staticTypes := #[]
  resolved := Array.replicate 124 none
  statics := none }

def pool1 : Array CpInfo := pool [(2, .class_ 4), (1, u "java/lang/Object"), (0, u "<init>"), (0, u "()V"), (0, .class_ 8), (0, u "com/example/xml_graph_join/xmlgraphjoin/labels/PackedSlotsFindPinLaw"), (0, .long 9223372034707292159), (1, .methodref 7 12), (0, .nameAndType 13 14), (0, u "pick"), (0, u "(IIJJJ)J"), (0, .methodref 7 16), (0, .nameAndType 17 18), (0, u "put"), (0, u "([JIJ)V"), (0, .methodref 7 20), (0, .nameAndType 21 22), (0, u "stopAt"), (0, u "([JIJ)Z"), (0, .class_ 24), (0, u "com/example/xml_graph_join/xmlgraphjoin/labels/PackedSlots"), (0, .long 18446744073709551615), (1, .methodref 23 28), (0, .nameAndType 29 30), (0, u "find"), (0, u "([JJ)I"), (0, .long 11400714819323198485), (1, .methodref 7 34), (0, .nameAndType 35 36), (0, u "clear"), (0, u "([JIIIIJ)Z"), (0, u "HALVES"), (0, u "J"), (3, u "law"), (0, u "(JJJIII)Z")] 5

def k1m0 : Method := { name := "<init>", desc := "()V", sig := { parameters := [], returnType := none }, accessFlags := 2, code := none }
def k1c1 : Code := { maxStack := 10, maxLocals := 22, code := code, exceptionTable := #[], attributes := #[] }
def k1m1 : Method := { name := "law", desc := "(JJJIII)Z", sig := { parameters := [.long, .long, .long, .int, .int, .int], returnType := some .boolean }, accessFlags := 9, code := some k1c1 }
def k1c2 : Code := { maxStack := 3, maxLocals := 9, code := method_3_code, exceptionTable := #[], attributes := #[] }
def k1m2 : Method := { name := "pick", desc := "(IIJJJ)J", sig := { parameters := [.int, .int, .long, .long, .long], returnType := some .long }, accessFlags := 10, code := some k1c2 }
def k1c3 : Code := { maxStack := 4, maxLocals := 4, code := method_4_code, exceptionTable := #[], attributes := #[] }
def k1m3 : Method := { name := "put", desc := "([JIJ)V", sig := { parameters := [(.array .long), .int, .long], returnType := none }, accessFlags := 10, code := some k1c3 }
def k1c4 : Code := { maxStack := 4, maxLocals := 4, code := method_5_code, exceptionTable := #[], attributes := #[] }
def k1m4 : Method := { name := "stopAt", desc := "([JIJ)Z", sig := { parameters := [(.array .long), .int, .long], returnType := some .boolean }, accessFlags := 10, code := some k1c4 }
def k1c5 : Code := { maxStack := 4, maxLocals := 9, code := method_6_code, exceptionTable := #[], attributes := #[] }
def k1m5 : Method := { name := "clear", desc := "([JIIIIJ)Z", sig := { parameters := [(.array .long), .int, .int, .int, .int, .long], returnType := some .boolean }, accessFlags := 10, code := some k1c5 }
/-- com/example/xml_graph_join/xmlgraphjoin/labels/PackedSlotsFindPinLaw -/
def k1 : Class := { plain "com/example/xml_graph_join/xmlgraphjoin/labels/PackedSlotsFindPinLaw" (some 0) with
  accessFlags := 49
  interfaces := #[]
  cf := some (fileOf pool1 7 #[] #[{ accessFlags := 2, nameIndex := 5, descriptorIndex := 6, attributes := #[] }, { accessFlags := 9, nameIndex := 42, descriptorIndex := 43, attributes := #[] }, { accessFlags := 10, nameIndex := 13, descriptorIndex := 14, attributes := #[] }, { accessFlags := 10, nameIndex := 17, descriptorIndex := 18, attributes := #[] }, { accessFlags := 10, nameIndex := 21, descriptorIndex := 22, attributes := #[] }, { accessFlags := 10, nameIndex := 35, descriptorIndex := 36, attributes := #[] }] 49 2 #[] #[{ accessFlags := 26, nameIndex := 37, descriptorIndex := 38, attributes := #[] }])
  fields := #[{ name := "HALVES", type := .long, accessFlags := 26, slot := 0, constantValue := 0 }]
  methods := #[k1m0, k1m1, k1m2, k1m3, k1m4, k1m5]
  instanceTypes := #[]
  staticTypes := #[.long]
  resolved := Array.replicate 49 none
  statics := none }

def pool2 : Array CpInfo := pool [(2, .class_ 4), (1, u "java/lang/Object"), (0, u "<init>"), (0, u "()V"), (0, .class_ 8), (0, u "com/example/xml_graph_join/xmlgraphjoin/labels/PackedSlots"), (0, .long 18446744073709551615), (7, .long 11400714819323198485), (1, u "EMPTY"), (0, u "J"), (5, u "find"), (0, u "([JJ)I")] 3

def k2m0 : Method := { name := "<init>", desc := "()V", sig := { parameters := [], returnType := none }, accessFlags := 2, code := none }
def k2c1 : Code := { maxStack := 4, maxLocals := 5, code := prog_61_method_3_code, exceptionTable := #[], attributes := #[] }
def k2m1 : Method := { name := "find", desc := "([JJ)I", sig := { parameters := [(.array .long), .long], returnType := some .int }, accessFlags := 8, code := some k2c1 }
/-- com/example/xml_graph_join/xmlgraphjoin/labels/PackedSlots -/
def k2 : Class := { plain "com/example/xml_graph_join/xmlgraphjoin/labels/PackedSlots" (some 0) with
  accessFlags := 48
  interfaces := #[]
  cf := some (fileOf pool2 7 #[] #[{ accessFlags := 2, nameIndex := 5, descriptorIndex := 6, attributes := #[] }, { accessFlags := 8, nameIndex := 26, descriptorIndex := 27, attributes := #[] }] 48 2 #[] #[{ accessFlags := 24, nameIndex := 19, descriptorIndex := 20, attributes := #[] }])
  fields := #[{ name := "EMPTY", type := .long, accessFlags := 24, slot := 0, constantValue := 0 }]
  methods := #[k2m0, k2m1]
  instanceTypes := #[]
  staticTypes := #[.long]
  resolved := Array.replicate 31 none
  statics := none }

def pool3 : Array CpInfo := pool [(1, u "java/lang/Cloneable"), (0, .class_ 1), (0, u "java/lang/Object"), (0, .class_ 3)] 3

/-- java/lang/Cloneable -/
def k3 : Class := { plain "java/lang/Cloneable" (some 0) with
  accessFlags := 1537
  interfaces := #[]
  cf := some (fileOf pool3 2 #[] #[] 1537 4 #[] #[])
  fields := #[]
  methods := #[]
  instanceTypes := #[]
  staticTypes := #[]
  resolved := Array.replicate 8 none
  statics := none }

def pool4 : Array CpInfo := pool [(1, u "java/io/Serializable"), (0, .class_ 1), (0, u "java/lang/Object"), (0, .class_ 3)] 3

/-- java/io/Serializable -/
def k4 : Class := { plain "java/io/Serializable" (some 0) with
  accessFlags := 1537
  interfaces := #[]
  cf := some (fileOf pool4 2 #[] #[] 1537 4 #[] #[])
  fields := #[]
  methods := #[]
  instanceTypes := #[]
  staticTypes := #[]
  resolved := Array.replicate 8 none
  statics := none }

/-- the primitive byte -/
def k5 : Class := { plain "byte" none with kind := .primitive 'B', accessFlags := 0x411 }
/-- [B -/
def k6 : Class := { plain "[B" (some 0) with kind := .array 5 .byte, interfaces := #[3, 4], accessFlags := 1041 }

/-- the primitive int -/
def k7 : Class := { plain "int" none with kind := .primitive 'I', accessFlags := 0x411 }
/-- [I -/
def k8 : Class := { plain "[I" (some 0) with kind := .array 7 .int, interfaces := #[3, 4], accessFlags := 1041 }

/-- the primitive long -/
def k9 : Class := { plain "long" none with kind := .primitive 'J', accessFlags := 0x411 }
/-- [J -/
def k10 : Class := { plain "[J" (some 0) with kind := .array 9 .long, interfaces := #[3, 4], accessFlags := 1041 }

def heap : Heap := #[]
def classes : Array Class := #[k0, k1, k2, k3, k4, k5, k6, k7, k8, k9, k10]
def interned : List (Array UInt16 × Addr) := []
def slotsUsed : Nat := 0
def theMethod : MethodId := ⟨1, 1⟩
def args0 : Array Value := #[.long 5, .long 6, .long 7, .int 27, .int 2, .int 1]
def aboutOver (below : List Frame) : State where
  vm := { classes := classes, interned := interned.toArray }
  heap := heap
  slotsUsed := slotsUsed
  threads := #[{ frames := .invoking theMethod args0 :: below }]
def below0 : List Frame := [.native { method := ⟨0, 0⟩, args := #[] }]
def about1 : State := aboutOver below0
def p0 : Program := .bare "" "" ""
def e0 : Env := launch0.env 0 0 0
theorem w_frames : about1.frames = Frame.invoking theMethod args0 :: below0 := rfl
set_option maxRecDepth 65536 in
theorem w_args : argsFit about1.vm theMethod args0 = true := by decide +kernel
set_option maxRecDepth 65536 in
theorem w_heap : heapFits about1 = true := by decide +kernel
set_option maxRecDepth 65536 in
theorem w_runnable : about1.curStatus? = some .runnable := by decide +kernel
set_option maxRecDepth 65536 in
theorem w_alone : about1.alone = true := by decide +kernel
set_option maxRecDepth 65536 in
theorem w_named : about1.methodNamed? x = some theMethod := by decide +kernel
set_option maxRecDepth 65536 in
theorem w_hears : about1.hears theMethod below0 = true := by decide +kernel
set_option maxRecDepth 65536 in
theorem w_ripe : about1.ripe theMethod args0 below0 = true := by decide +kernel
theorem w_running : about1.status = .running := rfl
set_option maxRecDepth 65536 in
theorem w_room : about1.hasRoom e0.platform room_1 = true :=
  launch0.hasRoom_least _ room_1 (by decide +kernel) (by decide +kernel) (by decide +kernel) (by decide +kernel) (by decide +kernel) (by decide +kernel)
theorem allAtoms_all (ts : List Jvm.Cond) (a : Array Jvm.Value) (st : Jvm.State) : (allAtoms ts).before a st = ts.all (fun c => c.before a st) := by
  induction ts with
  | nil => rfl
  | cons c t ih =>
    show (Jvm.Cond.and c (allAtoms t)).before a st = _
    rw [Jvm.Cond.before_and, ih, List.all_cons]
def words1 : List Jvm.Cond := Jvm.Cond.code x code maxLocals ret :: tables_1
/-- a 'code' word, met by the world's own term for the bytes: nothing is compared byte by byte -/
theorem code_word {y : MethodName} {bytes : ByteArray} {mx : Nat} {rt : Option FieldType} {a : Array Value} {s : State} {m : MethodId} {meth : Method} {c : Code} (h1 : s.methodNamed? y = some m) (h2 : s.vm.method? m = some meth) (h3 : meth.code = some c) (h4 : c.code = bytes)
    (h5 : (c.maxLocals == mx && c.exceptionTable.isEmpty && decide (c.maxStack ≤ mostOperands) && decide (meth.sig.returnType = rt) && !meth.locks && decide (parseMethodDescriptor y.desc = some meth.sig)) = true) : (Jvm.Cond.code y bytes mx rt).before a s = true := by
  simp only [Bool.and_eq_true, beq_iff_eq, Bool.not_eq_true', decide_eq_true_eq] at h5
  obtain ⟨⟨⟨⟨⟨g1, g2⟩, g3⟩, g4⟩, g5⟩, g6⟩ := h5
  simp [Cond.before, Cond.holds, Cond.value, h1, h2, h3, h4, g1, g2, g3, g4, g5, g6]
def isCode : Jvm.Cond → Bool
  | .code _ _ _ _ => true
  | _ => false
theorem all_split {L : List Jvm.Cond} {P : Jvm.Cond → Bool} (h1 : L.all (fun c => isCode c || P c) = true) (h2 : ∀ c ∈ L.filter isCode, P c = true) : L.all P = true := by
  refine List.all_eq_true.mpr fun c hc => ?_
  have h := List.all_eq_true.mp h1 c hc
  rcases Bool.eq_false_or_eq_true (isCode c) with hi | hi
  · exact h2 c (List.mem_filter.mpr ⟨hc, hi⟩)
  · simpa [hi] using h
set_option maxRecDepth 65536 in
theorem w_c0 : (Jvm.Cond.code x code maxLocals ret).before args0 about1 = true := code_word (m := ⟨1, 1⟩) (meth := k1m1) (c := k1c1) (by decide +kernel) rfl rfl rfl (by decide +kernel)
set_option maxRecDepth 65536 in
theorem w_c1 : (Jvm.Cond.code ({ cls := "com/example/xml_graph_join/xmlgraphjoin/labels/PackedSlotsFindPinLaw", name := "pick", desc := "(IIJJJ)J" } : Jvm.MethodName) method_3_code (9 : Nat) (Option.some Jvm.ClassFile.FieldType.long)).before args0 about1 = true := code_word (m := ⟨1, 2⟩) (meth := k1m2) (c := k1c2) (by decide +kernel) rfl rfl rfl (by decide +kernel)
set_option maxRecDepth 65536 in
theorem w_c2 : (Jvm.Cond.code ({ cls := "com/example/xml_graph_join/xmlgraphjoin/labels/PackedSlotsFindPinLaw", name := "put", desc := "([JIJ)V" } : Jvm.MethodName) method_4_code (4 : Nat) (Option.none : Option Jvm.ClassFile.FieldType)).before args0 about1 = true := code_word (m := ⟨1, 3⟩) (meth := k1m3) (c := k1c3) (by decide +kernel) rfl rfl rfl (by decide +kernel)
set_option maxRecDepth 65536 in
theorem w_c3 : (Jvm.Cond.code ({ cls := "com/example/xml_graph_join/xmlgraphjoin/labels/PackedSlotsFindPinLaw", name := "stopAt", desc := "([JIJ)Z" } : Jvm.MethodName) method_5_code (4 : Nat) (Option.some Jvm.ClassFile.FieldType.boolean)).before args0 about1 = true := code_word (m := ⟨1, 4⟩) (meth := k1m4) (c := k1c4) (by decide +kernel) rfl rfl rfl (by decide +kernel)
set_option maxRecDepth 65536 in
theorem w_c4 : (Jvm.Cond.code ({ cls := "com/example/xml_graph_join/xmlgraphjoin/labels/PackedSlots", name := "find", desc := "([JJ)I" } : Jvm.MethodName) prog_61_method_3_code (5 : Nat) (Option.some Jvm.ClassFile.FieldType.int)).before args0 about1 = true := code_word (m := ⟨2, 1⟩) (meth := k2m1) (c := k2c1) (by decide +kernel) rfl rfl rfl (by decide +kernel)
set_option maxRecDepth 65536 in
theorem w_c5 : (Jvm.Cond.code ({ cls := "com/example/xml_graph_join/xmlgraphjoin/labels/PackedSlotsFindPinLaw", name := "clear", desc := "([JIIIIJ)Z" } : Jvm.MethodName) method_6_code (9 : Nat) (Option.some Jvm.ClassFile.FieldType.boolean)).before args0 about1 = true := code_word (m := ⟨1, 5⟩) (meth := k1m5) (c := k1c5) (by decide +kernel) rfl rfl rfl (by decide +kernel)
def codes1 : List Jvm.Cond := [Jvm.Cond.code x code maxLocals ret, Jvm.Cond.code ({ cls := "com/example/xml_graph_join/xmlgraphjoin/labels/PackedSlotsFindPinLaw", name := "pick", desc := "(IIJJJ)J" } : Jvm.MethodName) method_3_code (9 : Nat) (Option.some Jvm.ClassFile.FieldType.long), Jvm.Cond.code ({ cls := "com/example/xml_graph_join/xmlgraphjoin/labels/PackedSlotsFindPinLaw", name := "put", desc := "([JIJ)V" } : Jvm.MethodName) method_4_code (4 : Nat) (Option.none : Option Jvm.ClassFile.FieldType), Jvm.Cond.code ({ cls := "com/example/xml_graph_join/xmlgraphjoin/labels/PackedSlotsFindPinLaw", name := "stopAt", desc := "([JIJ)Z" } : Jvm.MethodName) method_5_code (4 : Nat) (Option.some Jvm.ClassFile.FieldType.boolean), Jvm.Cond.code ({ cls := "com/example/xml_graph_join/xmlgraphjoin/labels/PackedSlots", name := "find", desc := "([JJ)I" } : Jvm.MethodName) prog_61_method_3_code (5 : Nat) (Option.some Jvm.ClassFile.FieldType.int), Jvm.Cond.code ({ cls := "com/example/xml_graph_join/xmlgraphjoin/labels/PackedSlotsFindPinLaw", name := "clear", desc := "([JIIIIJ)Z" } : Jvm.MethodName) method_6_code (9 : Nat) (Option.some Jvm.ClassFile.FieldType.boolean)]
set_option maxRecDepth 65536 in
theorem codes_eq : words1.filter isCode = codes1 := rfl
theorem w_codes : ∀ c ∈ words1.filter isCode, c.before args0 about1 = true := by
  rw [codes_eq]
  intro c hc
  simp only [codes1, List.mem_cons, List.not_mem_nil, or_false] at hc
  rcases hc with rfl | rfl | rfl | rfl | rfl | rfl
  · exact w_c0
  · exact w_c1
  · exact w_c2
  · exact w_c3
  · exact w_c4
  · exact w_c5
set_option maxRecDepth 65536 in
theorem w_t1 : words1.all (fun c => isCode c || c.before args0 about1) = true := by decide +kernel
theorem w_tables : (allAtoms (Jvm.Cond.code x code maxLocals ret :: tables_1)).before args0 about1 = true := by
  rw [allAtoms_all]
  show words1.all (fun c => c.before args0 about1) = true
  refine all_split ?_ w_codes
  rw [w_t1]
set_option maxRecDepth 65536 in
theorem w_case : (Jvm.Cond.and given_1 narrow_1).before args0 about1 = true := by decide +kernel
theorem w_applies : (headSpec (Jvm.Cond.code x code maxLocals ret :: tables_1) room_1).applies x e0.platform about1 = true :=
  (Spec.applies_iff w_frames).mpr ⟨w_running, w_runnable, w_alone, w_named, w_hears, w_ripe, w_room, w_tables⟩
theorem atStart : AtStart classFile x code maxLocals ret World_1 tables_1 room_1 Calls_1 rest_1 Pre_1 launch0 p0 e0 about1 theMethod args0 below0 :=
  ⟨lists_1, trivial, launch0.admits_env _ _ _, launch0.least_env, fairChoices_fair.cas, fairChoices_fair.clock, w_frames, w_args, w_heap, w_applies, trivial, trivial, w_case⟩
end start1
theorem witness_1 : WitnessClaimed_1 := ⟨start1.p0, start1.e0, start1.about1, start1.theMethod, start1.args0, start1.below0, start1.atStart⟩
end Jvm.Pilot.@@N@@
