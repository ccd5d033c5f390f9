import JvmDerived
import JvmDerived.Pilot.@@N@@Statement
import JvmDerived.Pilot.@@N@@Code
set_option linter.unusedVariables false
set_option linter.unusedSimpArgs false
namespace Jvm.Pilot.@@N@@
open Jvm Jvm.ClassFile Sem Op Lib Jvm.Free Jvm.Stand Jvm.LawKit Jvm.RoadKit Bundle Jvm.Pilot.@@N@@.Jvm.D
section Own
variable {p : Program} {l : Launch} {e : Env} {R : Room} {s : State} {m : MethodId} {args : Array Value} {below : List Frame} {meth : Method} {c : Code} {T : State} {locs : List Loc} {cells slots : Nat} {Z : State} {h h' : Heap} {a b : Addr}
/-- from A the run comes to its return, and Q holds there -/
def own_Goes (p : Program) (e : Env) (below : List Frame) (s : State) (Q : Option Value → Heap → List Loc → Prop) (kc ks : Nat) (A : State) : Prop :=
  ∃ s₂ o, Steps p.tables e below A s₂ ∧ s₂.status = .running ∧ Ended s₂ below o ∧ ∃ v L, o = .returned v ∧ Q v s₂.heap L ∧ FrameEnd s o s₂ L kc ks
theorem own_go {Q : Option Value → Heap → List Loc → Prop} {kc ks : Nat} {A B : State} (st : ∀ t, Steps p.tables e below B t → Steps p.tables e below A t) (k : own_Goes p e below s Q kc ks B) : own_Goes p e below s Q kc ks A := by
  obtain ⟨s2, o, h1, h2⟩ := k
  exact ⟨s2, o, st _ h1, h2⟩
theorem own_w {a0 : Array Value} {Z : State} (hw : ∀ d ∈ tables_1, d.before a0 Z = true) (i : Nat) {d : Jvm.Cond} (h : tables_1[i]? = some d) : d.before a0 Z = true := hw d (List.mem_of_getElem? h)
theorem own_selP {y y' : MethodName} (hs : (Cond.selects y'.cls y' y').before args s = true) (he : y.cls = y'.cls) (hpriv : s.PrivateAt y) (hinst : (Cond.instanceMethod y).before args s = true) (hy : y.cls ≠ "java/lang/invoke/MethodHandle" ∧ y.cls ≠ "java/lang/invoke/VarHandle") : (Cond.selects y.cls y y).before args s = true := by
  obtain ⟨c2, r2, m2, q1, q2, q3, q4, kP, hkP, hkPi⟩ := Cond.selects_spec hs
  exact selects_self_of_private (by rw [he]; exact findClass_of_methodNamed q3) hkP hkPi hpriv hinst hy
theorem own_st {tb : Tables} {A B t : State} (h1 : Steps tb e below A B) (k : Steps tb e below B t) : Steps tb e below A t := h1.trans k
theorem own_out {Q : Option Value → Heap → List Loc → Prop} {kc ks : Nat} {A : State} (X : Stand p l e R s m args below meth c T locs cells slots) {v : Option Value} (hv : meth.sig.returnType = none → v = none) (hlk : meth.locks = false)
    (st : ∀ fs, (∀ (f : JFrame) (acts : List Action), f.method = m → f.locked = none → f.entered = [] → (doReturn e (T.setTop f) acts v).1 = T.setFrames fs) → Steps p.tables e below A (T.setFrames fs))
    (hq : Q v T.heap locs) (hc : cells ≤ kc) (hs : slots ≤ ks) : own_Goes p e below s Q kc ks A := by
  obtain ⟨fs, hr, hrun, hended, hW, hsame⟩ := X.leave hv hlk
  exact ⟨_, _, st fs hr, hrun, hended, _, _, rfl, hq, ⟨_, rfl⟩, hW, hsame.mono hc hs⟩
theorem own_irem {tb : Tables} [Ours tb] {T target : State} {g : JFrame} (h : At T m c below) (hx : tb.exec = Jvm.exec) (hg : g.method = m) {x y : Int32} {rest : List Value} (hd : decode c.code g.pc = .ok (.irem, 1)) (hs : g.stack = .int y :: .int x :: rest) (hy : y ≠ 0)
    (hr : Steps tb e below (T.setTop { g with pc := g.pc + 1, stack := .int (x % y) :: rest }) target) : Steps tb e below (T.setTop g) target := XS.irem h hx hg hd hs hy (by rw [irem_eq_mod]; exact hr)
theorem own_lrem {tb : Tables} [Ours tb] {T target : State} {g : JFrame} (h : At T m c below) (hx : tb.exec = Jvm.exec) (hg : g.method = m) {x y : Int64} {rest : List Value} (hd : decode c.code g.pc = .ok (.lrem, 1)) (hs : g.stack = .long y :: .long x :: rest) (hy : y ≠ 0)
    (hr : Steps tb e below (T.setTop { g with pc := g.pc + 1, stack := .long (x % y) :: rest }) target) : Steps tb e below (T.setTop g) target := XS.lrem h hx hg hd hs hy (by rw [lrem_mod]; exact hr)
/-- an array of ints (bytes, booleans): its length, and what each place holds -/
def own_IA (Z : State) (h : Heap) (a : Addr) (ty : FieldType) (n : Nat) (f : Nat → Int32) : Prop := ∃ c : Cell, Arr Z h a c ty ∧ c.slots.size = n ∧ ∀ i, i < n → c.slots[i]? = some (.int (f i))
/-- an array of longs -/
def own_LA (Z : State) (h : Heap) (a : Addr) (n : Nat) (f : Nat → Int64) : Prop := ∃ c : Cell, Arr Z h a c .long ∧ c.slots.size = n ∧ ∀ i, i < n → c.slots[i]? = some (.long (f i))
def own_upd {α : Type} (f : Nat → α) (j : Nat) (x : α) (i : Nat) : α := if i = j then x else f i
theorem own_upd_hit {α : Type} (f : Nat → α) (j : Nat) (x : α) : own_upd f j x j = x := if_pos rfl
theorem own_upd_miss {α : Type} (f : Nat → α) {i j : Nat} (x : α) (q : i ≠ j) : own_upd f j x i = f i := if_neg q
section Arrays
variable {ty : FieldType} {n : Nat} {f : Nat → Int32} {fl : Nat → Int64} {sl : Nat} {v : Value} {ws : List Addr}
theorem own_IA.lt (F : own_IA Z h a ty n f) : a < h.size := by obtain ⟨c, A, -⟩ := F; exact A.lt
theorem own_LA.lt (F : own_LA Z h a n fl) : a < h.size := by obtain ⟨c, A, -⟩ := F; exact A.lt
theorem own_IA.ext (F : own_IA Z h a ty n f) (E : Ext h h') : own_IA Z h' a ty n f := by obtain ⟨c, A, r⟩ := F; exact ⟨c, A.ext E, r⟩
theorem own_LA.ext (F : own_LA Z h a n fl) (E : Ext h h') : own_LA Z h' a n fl := by obtain ⟨c, A, r⟩ := F; exact ⟨c, A.ext E, r⟩
theorem own_IA.other (F : own_IA Z h b ty n f) (W : Wr h h' a sl v) (q : b ≠ a) : own_IA Z h' b ty n f := by obtain ⟨c, A, r⟩ := F; exact ⟨c, A.other W q, r⟩
theorem own_LA.other (F : own_LA Z h b n fl) (W : Wr h h' a sl v) (q : b ≠ a) : own_LA Z h' b n fl := by obtain ⟨c, A, r⟩ := F; exact ⟨c, A.other W q, r⟩
theorem own_IA.keep (F : own_IA Z h a ty n f) (K : Keep h h' ws) (q : a ∉ ws) : own_IA Z h' a ty n f := by obtain ⟨c, A, r⟩ := F; exact ⟨c, ⟨K.2.1 a c A.1 q, A.2⟩, r⟩
theorem own_LA.keep (F : own_LA Z h a n fl) (K : Keep h h' ws) (q : a ∉ ws) : own_LA Z h' a n fl := by obtain ⟨c, A, r⟩ := F; exact ⟨c, ⟨K.2.1 a c A.1 q, A.2⟩, r⟩
theorem own_IA.cong {g : Nat → Int32} (F : own_IA Z h a ty n f) (q : ∀ i, i < n → f i = g i) : own_IA Z h a ty n g := by obtain ⟨c, A, r, u⟩ := F; exact ⟨c, A, r, fun i hi => by rw [u i hi, q i hi]⟩
theorem own_LA.cong {g : Nat → Int64} (F : own_LA Z h a n fl) (q : ∀ i, i < n → fl i = g i) : own_LA Z h a n g := by obtain ⟨c, A, r, u⟩ := F; exact ⟨c, A, r, fun i hi => by rw [u i hi, q i hi]⟩
theorem own_in {cl : Cell} {j : Int32} {k : Nat} (S : cl.slots.size = n) (h1 : ¬ j < 0) (hk : j.toNatClampNeg = k) (h2 : k < n) : ¬ (j < 0 ∨ cl.slots.size ≤ j.toNatClampNeg) := by
  rintro (q | q)
  · exact h1 q
  · rw [S, hk] at q; exact absurd h2 (Nat.not_lt.mpr q)
theorem own_set {cl : Cell} {k : Nat} (S : cl.slots.size = n) (h2 : k < n) (v : Value) (i : Nat) : (cl.setSlot k v).slots[i]? = if i = k then some v else cl.slots[i]? := by
  by_cases q : i = k
  · subst q; rw [if_pos rfl]; exact Array.getElem?_setIfInBounds_self_of_lt (by rw [S]; exact h2)
  · rw [if_neg q]; exact Array.getElem?_setIfInBounds_ne (fun z => q z.symm)
theorem own_Inew {k : ClassId} {z : Int32} (A : Arr Z h a (newA k ty z) ty) (hz : z.toNatClampNeg = n) (hd : defaultValue ty = .int 0) : own_IA Z h a ty n (fun _ => 0) := by
  refine ⟨_, A, by rw [sz_new, hz], fun i hi => ?_⟩
  show (Array.replicate z.toNatClampNeg (defaultValue ty))[i]? = _
  rw [hz, hd, Array.getElem?_replicate, if_pos hi]
theorem own_Lnew {k : ClassId} {z : Int32} (A : Arr Z h a (newA k .long z) .long) (hz : z.toNatClampNeg = n) : own_LA Z h a n (fun _ => 0) := by
  refine ⟨_, A, by rw [sz_new, hz], fun i hi => ?_⟩
  show (Array.replicate z.toNatClampNeg (defaultValue .long))[i]? = _
  rw [hz, Array.getElem?_replicate, if_pos hi]; rfl
theorem own_iaload (X : Stand p l e R s m args below meth c T locs cells slots) (hx : p.tables.exec = Jvm.exec) (hZ : Z.Warmed39 s.vm) (eT : T.heap = h) (V : own_IA Z h a .int n f) {j : Int32} {k : Nat} (h1 : ¬ j < 0) (hk : j.toNatClampNeg = k) (h2 : k < n) {pc : Nat} {Ls : Array Slot} {rest : List Value} (hd : decode c.code pc = .ok (.iaload, 1)) (t : State)
    (kk : Steps p.tables e below (T.setTop (mkF m (pc + 1) Ls (.int (f k) :: rest))) t) : Steps p.tables e below (T.setTop (mkF m pc Ls (.int j :: .ref a :: rest))) t := by
  obtain ⟨cl, A, S, H⟩ := V
  exact X.iaload hx (j := j) (v := .int (f k)) (by rw [eT]; exact A.1) (State.isArrayOf_alike hZ.alike A.2.1) A.2.2 (own_in S h1 hk h2) (by rw [hk]; exact H _ h2) (g := mkF m pc Ls (.int j :: .ref a :: rest)) rfl rfl hd t kk
theorem own_baload (X : Stand p l e R s m args below meth c T locs cells slots) (hx : p.tables.exec = Jvm.exec) (hZ : Z.Warmed39 s.vm) (eT : T.heap = h) (V : own_IA Z h a .byte n f) {j : Int32} {k : Nat} (h1 : ¬ j < 0) (hk : j.toNatClampNeg = k) (h2 : k < n) {pc : Nat} {Ls : Array Slot} {rest : List Value} (hd : decode c.code pc = .ok (.baload, 1)) (t : State)
    (kk : Steps p.tables e below (T.setTop (mkF m (pc + 1) Ls (.int (f k) :: rest))) t) : Steps p.tables e below (T.setTop (mkF m pc Ls (.int j :: .ref a :: rest))) t := by
  obtain ⟨cl, A, S, H⟩ := V
  exact X.baloadBytes hx (j := j) (v := .int (f k)) (by rw [eT]; exact A.1) (State.isArrayOf_alike hZ.alike A.2.1) A.2.2 (own_in S h1 hk h2) (by rw [hk]; exact H _ h2) (g := mkF m pc Ls (.int j :: .ref a :: rest)) rfl rfl hd t kk
theorem own_laload (X : Stand p l e R s m args below meth c T locs cells slots) (hx : p.tables.exec = Jvm.exec) (hZ : Z.Warmed39 s.vm) (eT : T.heap = h) (V : own_LA Z h a n fl) {j : Int32} {k : Nat} (h1 : ¬ j < 0) (hk : j.toNatClampNeg = k) (h2 : k < n) {pc : Nat} {Ls : Array Slot} {rest : List Value} (hd : decode c.code pc = .ok (.laload, 1)) (t : State)
    (kk : Steps p.tables e below (T.setTop (mkF m (pc + 1) Ls (.long (fl k) :: rest))) t) : Steps p.tables e below (T.setTop (mkF m pc Ls (.int j :: .ref a :: rest))) t := by
  obtain ⟨cl, A, S, H⟩ := V
  exact X.laload hx (j := j) (v := .long (fl k)) (by rw [eT]; exact A.1) (State.isArrayOf_alike hZ.alike A.2.1) A.2.2 (own_in S h1 hk h2) (by rw [hk]; exact H _ h2) (g := mkF m pc Ls (.int j :: .ref a :: rest)) rfl rfl hd t kk
theorem own_alen (X : Stand p l e R s m args below meth c T locs cells slots) (hx : p.tables.exec = Jvm.exec) (hZ : Z.Warmed39 s.vm) (eT : T.heap = h) (V : own_IA Z h a ty n f) {z : Int32} (hl : n.toInt32 = z) {pc : Nat} {Ls : Array Slot} {rest : List Value} (hd : decode c.code pc = .ok (.arraylength, 1)) (t : State)
    (kk : Steps p.tables e below (T.setTop (mkF m (pc + 1) Ls (.int z :: rest))) t) : Steps p.tables e below (T.setTop (mkF m pc Ls (.ref a :: rest))) t := by
  obtain ⟨cl, A, S, H⟩ := V
  exact X.arraylength hx (by rw [eT]; exact A.1) (State.isArrayOf_alike hZ.alike A.2.1) (g := mkF m pc Ls (.ref a :: rest)) rfl rfl hd t (by rw [S, hl]; exact kk)
theorem own_alenL (X : Stand p l e R s m args below meth c T locs cells slots) (hx : p.tables.exec = Jvm.exec) (hZ : Z.Warmed39 s.vm) (eT : T.heap = h) (V : own_LA Z h a n fl) {z : Int32} (hl : n.toInt32 = z) {pc : Nat} {Ls : Array Slot} {rest : List Value} (hd : decode c.code pc = .ok (.arraylength, 1)) (t : State)
    (kk : Steps p.tables e below (T.setTop (mkF m (pc + 1) Ls (.int z :: rest))) t) : Steps p.tables e below (T.setTop (mkF m pc Ls (.ref a :: rest))) t := by
  obtain ⟨cl, A, S, H⟩ := V
  exact X.arraylength hx (by rw [eT]; exact A.1) (State.isArrayOf_alike hZ.alike A.2.1) (g := mkF m pc Ls (.ref a :: rest)) rfl rfl hd t (by rw [S, hl]; exact kk)
theorem own_iastore (X : Stand p l e R s m args below meth c T locs cells slots) (hx : p.tables.exec = Jvm.exec) (hZ : Z.Warmed39 s.vm) (eT : T.heap = h) (V : own_IA Z h a .int n f) {j x : Int32} {k : Nat} (h1 : ¬ j < 0) (hk : j.toNatClampNeg = k) (h2 : k < n) {g : JFrame} (hg : g.method = m) {rest : List Value} (hs : g.stack = .int x :: .int j :: .ref a :: rest) (hd : decode c.code g.pc = .ok (.iastore, 1)) :
    ∃ T' h', Stand p l e R s m args below meth c T' (locs ++ [⟨a, k⟩]) cells slots ∧ T'.heap = h' ∧ Wr h h' a k (.int x) ∧ own_IA Z h' a .int n (own_upd f k x) ∧ ∀ target, Steps p.tables e below (T'.setTop { g with pc := g.pc + 1, stack := rest }) target → Steps p.tables e below (T.setTop g) target := by
  obtain ⟨cl, A, S, H⟩ := V
  obtain ⟨T', h', X', e', W, st⟩ := stI X hx hZ eT A (own_in S h1 hk h2) hg hs hd
  rw [hk] at X' W
  refine ⟨T', h', X', e', W, ⟨_, A.same W, by rw [sz_set, S], fun i hi => ?_⟩, st⟩
  rw [own_set S h2]; unfold own_upd
  by_cases q : i = k
  · rw [if_pos q, if_pos q]
  · rw [if_neg q, if_neg q]; exact H i hi
theorem own_bastore (X : Stand p l e R s m args below meth c T locs cells slots) (hx : p.tables.exec = Jvm.exec) (hZ : Z.Warmed39 s.vm) (eT : T.heap = h) (V : own_IA Z h a .byte n f) {j x : Int32} {k : Nat} (h1 : ¬ j < 0) (hk : j.toNatClampNeg = k) (h2 : k < n) {g : JFrame} (hg : g.method = m) {rest : List Value} (hs : g.stack = .int x :: .int j :: .ref a :: rest) (hd : decode c.code g.pc = .ok (.bastore, 1)) :
    ∃ T' h', Stand p l e R s m args below meth c T' (locs ++ [⟨a, k⟩]) cells slots ∧ T'.heap = h' ∧ Wr h h' a k (.int x.toInt8.toInt32) ∧ own_IA Z h' a .byte n (own_upd f k x.toInt8.toInt32) ∧ ∀ target, Steps p.tables e below (T'.setTop { g with pc := g.pc + 1, stack := rest }) target → Steps p.tables e below (T.setTop g) target := by
  obtain ⟨cl, A, S, H⟩ := V
  obtain ⟨T', h', X', e', W, st⟩ := stB X hx hZ eT A (own_in S h1 hk h2) hg hs hd
  rw [hk] at X' W
  refine ⟨T', h', X', e', W, ⟨_, A.same W, by rw [sz_set, S], fun i hi => ?_⟩, st⟩
  rw [own_set S h2]; unfold own_upd
  by_cases q : i = k
  · rw [if_pos q, if_pos q]; rfl
  · rw [if_neg q, if_neg q]; exact H i hi
theorem own_lastore (X : Stand p l e R s m args below meth c T locs cells slots) (hx : p.tables.exec = Jvm.exec) (hZ : Z.Warmed39 s.vm) (eT : T.heap = h) (V : own_LA Z h a n fl) {j : Int32} {x : Int64} {k : Nat} (h1 : ¬ j < 0) (hk : j.toNatClampNeg = k) (h2 : k < n) {g : JFrame} (hg : g.method = m) {rest : List Value} (hs : g.stack = .long x :: .int j :: .ref a :: rest) (hd : decode c.code g.pc = .ok (.lastore, 1)) :
    ∃ T' h', Stand p l e R s m args below meth c T' (locs ++ [⟨a, k⟩]) cells slots ∧ T'.heap = h' ∧ Wr h h' a k (.long x) ∧ own_LA Z h' a n (own_upd fl k x) ∧ ∀ target, Steps p.tables e below (T'.setTop { g with pc := g.pc + 1, stack := rest }) target → Steps p.tables e below (T.setTop g) target := by
  obtain ⟨cl, A, S, H⟩ := V
  obtain ⟨T', h', X', e', W, st⟩ := stJ X hx hZ eT A (own_in S h1 hk h2) hg hs hd
  rw [hk] at X' W
  refine ⟨T', h', X', e', W, ⟨_, A.same W, by rw [sz_set, S], fun i hi => ?_⟩, st⟩
  rw [own_set S h2]; unfold own_upd
  by_cases q : i = k
  · rw [if_pos q, if_pos q]
  · rw [if_neg q, if_neg q]; exact H i hi
theorem own_clone (X : Stand p l e R s m args below meth c T locs cells slots) (hx : p.tables.exec = Jvm.exec) (hZ : Z.Warmed39 s.vm) {a0 : Array Value} {own ad : String} {index : Nat} (hown : s.vm.findClass own = some m.cls)
    (w1 : (Cond.methodLink own index ⟨ad, "clone", "()Ljava/lang/Object;"⟩).before a0 Z = true) (w2 : (Cond.sameMethod ad "java/lang/Object" "clone" "()Ljava/lang/Object;").before a0 Z = true) (w3 : (Cond.native ⟨"java/lang/Object", "clone", "()Ljava/lang/Object;"⟩).before a0 Z = true)
    (w4 : (Cond.instanceMethod ⟨"java/lang/Object", "clone", "()Ljava/lang/Object;"⟩).before a0 Z = true) (w5 : (Cond.selects ad ⟨ad, "clone", "()Ljava/lang/Object;"⟩ ⟨"java/lang/Object", "clone", "()Ljava/lang/Object;"⟩).before a0 Z = true) (w6 : (Cond.castable ad "java/lang/Cloneable").before a0 Z = true)
    (eT : T.heap = h) (V : own_IA Z h a .int n f) (E : Exa Z h a ad) {g : JFrame} (hg : g.method = m) (hsize : g.locals.size = c.maxLocals) {rest : List Value} (hst : g.stack = .ref a :: rest) (hd : decode c.code g.pc = .ok (.invokevirtual index, 3))
    (hf : 1 ≤ R.frames) {W cap : Nat} (hW : 2 * g.monitorRoom + (rest.map fun v => v.category).sum ≤ W) (hl : W + 14 ≤ R.locals) (hcap : n ≤ cap) (hc : cells + 1 ≤ R.cells) (hsl : slots + cap ≤ R.slots) :
    ∃ T' h', Stand p l e R s m args below meth c T' locs (cells + 1) (slots + cap) ∧ T'.heap = h' ∧ Ext h h' ∧ own_IA Z h' h.size .int n f ∧ Exa Z h' h.size ad ∧
      ∀ target, Steps p.tables e below (T'.setTop { g with pc := g.pc + 3, stack := .ref h.size :: rest }) target → Steps p.tables e below (T.setTop g) target := by
  obtain ⟨cl, A, S, H⟩ := V
  have FC : FitC Z cl := fitC_of A fun i hi v hv => by rw [H i (by rw [← S]; exact hi)] at hv; cases hv; rfl
  obtain ⟨T', h', X', e', ex, A', E', st⟩ := cloneA X hx hZ hown w1 w2 w3 w4 w5 w6 eT A E FC hg hsize hst hd hf hW hl (by rw [S]; exact hcap) hc hsl
  exact ⟨T', h', X', e', ex, ⟨cloneOf cl, A', S, H⟩, E', st⟩
end Arrays
end Own
def own_bt (x : Int32) : Int64 := ((1 : Int64) <<< (x &&& 0x3f).toInt64)
def own_ix (x : Int32) : Nat := (x / (64 : Int32)).toNatClampNeg
def own_lw (x : Int32) : Int32 := (x + (63 : Int32)) / (64 : Int32)
def own_kx (x : Int32) : Nat := x.toBitVec.toNat % 64
def own_has (f : Nat → Int64) (x : Int32) : Prop := ¬ ((f (own_ix x) &&& own_bt x) = (0 : Int64))
theorem own_bt_bv (x : Int32) : (own_bt x).toBitVec = 1#64 <<< own_kx x := by
  obtain ⟨h1, h2⟩ := sm64 x (own_kx x) rfl
  unfold own_bt
  rw [Int64.toBitVec_shiftLeft, h1, BitVec.shiftLeft_eq', smod64 _ h2]
  rfl
theorem own_bt_bit (x : Int32) (i : Nat) (hi : i < 64) : (own_bt x).toBitVec.getLsbD i = decide (i = own_kx x) := by
  rw [own_bt_bv]
  have hk : own_kx x < 64 := Nat.mod_lt _ (by decide)
  simp only [BitVec.getLsbD_shiftLeft, BitVec.getLsbD_one]
  by_cases h : i = own_kx x
  · subst h; simp [hi]
  · simp only [h, decide_false]
    by_cases h2 : i < own_kx x
    · simp [h2]
    · have : ¬ (i - own_kx x = 0) := by omega
      have : ¬ (0 = i - own_kx x) := by omega
      simp [*]
theorem own_and0 (w : Int64) (x : Int32) : (w &&& own_bt x) = (0 : Int64) ↔ w.toBitVec.getLsbD (own_kx x) = false := by
  have hk : own_kx x < 64 := Nat.mod_lt _ (by decide)
  rw [← Int64.toBitVec_inj, Int64.toBitVec_and]
  constructor
  · intro h
    have h2 := congrArg (fun z => z.getLsbD (own_kx x)) h
    simp only [BitVec.getLsbD_and, own_bt_bit x _ hk] at h2
    simpa using h2
  · intro h
    apply BitVec.eq_of_getLsbD_eq
    intro i hi
    rw [BitVec.getLsbD_and, own_bt_bit x i hi]
    by_cases g : i = own_kx x
    · rw [g, h]; simp
    · simp [g]
theorem own_has_iff (f : Nat → Int64) (x : Int32) : own_has f x ↔ (f (own_ix x)).toBitVec.getLsbD (own_kx x) = true := by
  unfold own_has; rw [own_and0]; simp
theorem own_ix_int (x : Int32) (h : 0 ≤ x.toInt) : (own_ix x : Int) = x.toInt / 64 := by
  have h1 := (c_idiv x 64 64 rfl (by decide)).1 h
  unfold own_ix Int32.toNatClampNeg
  rw [h1]; omega
theorem own_kx_int (x : Int32) (h : 0 ≤ x.toInt) : (own_kx x : Int) = x.toInt % 64 := by
  unfold own_kx
  have h1 : x.toInt = x.toBitVec.toNat := by
    have h2 : x.toInt = x.toBitVec.toInt := rfl
    rw [BitVec.toInt_eq_toNat_cond] at h2
    have := x.toBitVec.isLt
    split at h2 <;> omega
  omega
theorem own_same (x a : Int32) (h : 0 ≤ x.toInt) (h2 : 0 ≤ a.toInt) (e1 : own_ix x = own_ix a) (e2 : own_kx x = own_kx a) : x = a := by
  have a1 := own_ix_int x h; have a2 := own_ix_int a h2; have a3 := own_kx_int x h; have a4 := own_kx_int a h2
  apply Int32.toInt_inj.mp; omega
theorem own_add (f : Nat → Int64) (a x : Int32) (h2 : 0 ≤ a.toInt) (h : 0 ≤ x.toInt) : own_has (own_upd f (own_ix a) (f (own_ix a) ||| own_bt a)) x ↔ (x = a ∨ own_has f x) := by
  have hk : own_kx x < 64 := Nat.mod_lt _ (by decide)
  rw [own_has_iff, own_has_iff]
  by_cases g : own_ix x = own_ix a
  · rw [g, own_upd_hit, Int64.toBitVec_or, BitVec.getLsbD_or, own_bt_bit a _ hk]
    by_cases q : own_kx x = own_kx a
    · have e := own_same x a h h2 g q; simp [q, e]
    · have e : ¬ x = a := fun z => q (by rw [z])
      simp [q, e]
  · rw [own_upd_miss _ _ g]
    have e : ¬ x = a := fun z => g (by rw [z])
    simp [e]
theorem own_del (f : Nat → Int64) (a x : Int32) (h2 : 0 ≤ a.toInt) (h : 0 ≤ x.toInt) : own_has (own_upd f (own_ix a) (f (own_ix a) &&& (own_bt a ^^^ (-1 : Int64)))) x ↔ (own_has f x ∧ ¬ x = a) := by
  have hk : own_kx x < 64 := Nat.mod_lt _ (by decide)
  have hm : (-1 : Int64).toBitVec = BitVec.allOnes 64 := by decide
  rw [own_has_iff, own_has_iff]
  by_cases g : own_ix x = own_ix a
  · rw [g, own_upd_hit, Int64.toBitVec_and, Int64.toBitVec_xor, hm, BitVec.getLsbD_and, BitVec.getLsbD_xor, own_bt_bit a _ hk, BitVec.getLsbD_allOnes]
    by_cases q : own_kx x = own_kx a
    · have e := own_same x a h h2 g q
      have hk' : own_kx a < 64 := Nat.mod_lt _ (by decide)
      simp [q, e, hk, hk']
    · have e : ¬ x = a := fun z => q (by rw [z])
      simp [q, e, hk]
  · rw [own_upd_miss _ _ g]
    have e : ¬ x = a := fun z => g (by rw [z])
    simp [e]
theorem own_none (x : Int32) : ¬ own_has (fun _ => 0) x := by
  rw [own_has_iff]; simp
theorem own_lw_int (n : Int32) (h : 0 ≤ n.toInt ∧ n.toInt ≤ 8192) : (own_lw n).toInt = (n.toInt + 63) / 64 := by
  have h1 := c_iadd n 63
  have e : (63 : Int32).toInt = 63 := rfl
  rw [e] at h1
  have r := rng32 (n + 63)
  have h2 := (c_idiv (n + 63) 64 64 rfl (by decide)).1 (by omega)
  unfold own_lw; rw [h2]; omega
theorem own_lw_nn (n : Int32) (h : 0 ≤ n.toInt ∧ n.toInt ≤ 8192) : ¬ (own_lw n < (0 : Int32)) := by
  have := own_lw_int n h
  rw [Int32.lt_iff_toInt_lt]; have : (0 : Int32).toInt = 0 := rfl; omega
theorem own_lw_le (n : Int32) (h : 0 ≤ n.toInt ∧ n.toInt ≤ 8192) (k : Nat) (hk : (n.toInt + 63) / 64 ≤ k) : (own_lw n).toNatClampNeg ≤ k := by
  have := own_lw_int n h
  unfold Int32.toNatClampNeg; omega
theorem own_nn (x : Int32) : (¬ (x < (0 : Int32))) ↔ 0 ≤ x.toInt := by
  rw [Int32.lt_iff_toInt_lt]; have : (0 : Int32).toInt = 0 := rfl; omega
theorem own_d64 (x : Int32) (h : 0 ≤ x.toInt) : (x / (64 : Int32)).toInt = x.toInt / 64 := (c_idiv x 64 64 rfl (by decide)).1 h
theorem own_in1 (x n : Int32) (h : 0 ≤ x.toInt ∧ x.toInt < n.toInt) (hn : n.toInt ≤ 8192) : ¬ (x < (0 : Int32)) ∧ own_ix x < (own_lw n).toNatClampNeg ∧ own_ix (x / (64 : Int32)) < (own_lw (own_lw n)).toNatClampNeg := by
  have a1 := own_ix_int x h.1
  have a2 := own_lw_int n (by omega)
  have a3 := own_lw_int (own_lw n) (by omega)
  have a4 := own_d64 x h.1
  have a5 := own_ix_int (x / 64) (by omega)
  rw [own_nn]
  unfold Int32.toNatClampNeg
  omega
theorem pn_com_example_netloom_netloom_embed_NodeSet : plainName "com/example/netloom/netloom/embed/NodeSet" = true := by first | (simp [plainName, overriddenIn]; done) | decide +kernel
theorem d1_0 : decode prog_34_method_1_code 0 = .ok (.aload_n 0, 1) := by decide +kernel
theorem d1_1 : decode prog_34_method_1_code 1 = .ok (.invokespecial 1, 3) := by decide +kernel
theorem d1_4 : decode prog_34_method_1_code 4 = .ok (.aload_n 0, 1) := by decide +kernel
theorem d1_5 : decode prog_34_method_1_code 5 = .ok (.iload_n 1, 1) := by decide +kernel
theorem d1_6 : decode prog_34_method_1_code 6 = .ok (.bipush 63, 2) := by decide +kernel
theorem d1_8 : decode prog_34_method_1_code 8 = .ok (.iadd, 1) := by decide +kernel
theorem d1_9 : decode prog_34_method_1_code 9 = .ok (.bipush 64, 2) := by decide +kernel
theorem d1_11 : decode prog_34_method_1_code 11 = .ok (.idiv, 1) := by decide +kernel
theorem d1_12 : decode prog_34_method_1_code 12 = .ok (.newarray .long, 2) := by decide +kernel
theorem d1_14 : decode prog_34_method_1_code 14 = .ok (.putfield 7, 3) := by decide +kernel
theorem d1_17 : decode prog_34_method_1_code 17 = .ok (.aload_n 0, 1) := by decide +kernel
theorem d1_18 : decode prog_34_method_1_code 18 = .ok (.aload_n 0, 1) := by decide +kernel
theorem d1_19 : decode prog_34_method_1_code 19 = .ok (.getfield 7, 3) := by decide +kernel
theorem d1_22 : decode prog_34_method_1_code 22 = .ok (.arraylength, 1) := by decide +kernel
theorem d1_23 : decode prog_34_method_1_code 23 = .ok (.bipush 63, 2) := by decide +kernel
theorem d1_25 : decode prog_34_method_1_code 25 = .ok (.iadd, 1) := by decide +kernel
theorem d1_26 : decode prog_34_method_1_code 26 = .ok (.bipush 64, 2) := by decide +kernel
theorem d1_28 : decode prog_34_method_1_code 28 = .ok (.idiv, 1) := by decide +kernel
theorem d1_29 : decode prog_34_method_1_code 29 = .ok (.newarray .long, 2) := by decide +kernel
theorem d1_31 : decode prog_34_method_1_code 31 = .ok (.putfield 13, 3) := by decide +kernel
theorem d1_34 : decode prog_34_method_1_code 34 = .ok (.return_, 1) := by decide +kernel
theorem ef_1 (m : MethodId) (x0 : Addr) (x1 : Int32) : entryFrame m #[(.ref x0), (.int x1)] 2 = mkF m 0 #[.val (.ref x0), .val (.int x1)] [] := by first | (simp [entryFrame, mkF, argsToLocals, Value.category]; done) | rfl
def own_Q1 (Z : State) (zs : Addr) (zx : Int32) (h0 : Heap) (n0 : Nat) (v : Option Value) (h : Heap) (L : List Loc) : Prop := v = none ∧ Fr n0 L ∧ ∃ zw : Addr, h0.size ≤ zw ∧ ∃ zo : Addr, h0.size ≤ zo ∧ zw ≠ zo ∧ Keep h0 h [zs] ∧ Exa Z h zs "com/example/netloom/netloom/embed/NodeSet" ∧ Fld Z h zs "com/example/netloom/netloom/embed/NodeSet" "words" "[J" (.ref zw) ∧ Fld Z h zs "com/example/netloom/netloom/embed/NodeSet" "occupied" "[J" (.ref zo) ∧ own_LA Z h zw (own_lw zx).toNatClampNeg (fun _ => 0) ∧ own_LA Z h zo (own_lw (own_lw zx)).toNatClampNeg (fun _ => 0)
set_option maxRecDepth 65536 in
set_option maxHeartbeats 40000000 in
theorem rm1 (l : Launch) (Z : State) (a0 : Array Value) (hw : ∀ d ∈ tables_1, d.before a0 Z = true) (ws : List Jvm.Cond) (zs : Addr) (zx : Int32) (h0 : Heap) (n0 : Nat) (Z0 : n0 ≤ h0.size) (E_zs : Exa Z h0 zs "com/example/netloom/netloom/embed/NodeSet") (F_zs_words : Fld Z h0 zs "com/example/netloom/netloom/embed/NodeSet" "words" "[J" .null) (F_zs_occupied : Fld Z h0 zs "com/example/netloom/netloom/embed/NodeSet" "occupied" "[J" .null) (g_zs : n0 ≤ zs) (hn : 1 ≤ zx.toInt ∧ zx.toInt ≤ 1024) :
    MetFree l (⟨"com/example/netloom/netloom/embed/NodeSet", "<init>", "(I)V"⟩ : MethodName) (head1 (Jvm.Cond.code (⟨"com/example/netloom/netloom/embed/NodeSet", "<init>", "(I)V"⟩ : MethodName) prog_34_method_1_code 2 none :: ws) ({ frames := 1, cells := 2, slots := 17, locals := 12 } : Room)) (fun a U => a = #[(.ref zs), (.int zx)] ∧ Z.Warmed39 U.vm ∧ U.heap = h0) (fun _ _ _ _ _ => True) (fun _ U o U' => ∃ v L, o = .returned v ∧ own_Q1 Z zs zx h0 n0 v U'.heap L ∧ FrameEnd U o U' L ({ frames := 1, cells := 2, slots := 17, locals := 12 } : Room).cells ({ frames := 1, cells := 2, slots := 17, locals := 12 } : Room).slots) := by
  refine MetFree.of_bodySF (plainFor_of_name pn_com_example_netloom_netloom_embed_NodeSet) hisR ?_
  intro p e s m args below meth c s₁ Bd hml0 hP hK
  obtain ⟨rfl, hZ, hh⟩ := hP
  have hx := Bd.exec
  have hby := Bd.bytes
  have hml : c.maxLocals = 2 := hml0
  have hown : s.vm.findClass "com/example/netloom/netloom/embed/NodeSet" = some m.cls := findClass_of_methodNamed Bd.named
  have hnm := (name_of_methodNamed Bd.named Bd.method).1
  have X0 : Stand p l e ({ frames := 1, cells := 2, slots := 17, locals := 12 } : Room) s m #[(.ref zs), (.int zx)] below meth c s₁ [] 0 0 := Stand.of_body Bd
  have e0 : s₁.heap = h0 := by rw [← hh, Bd.state]; rfl
  have N0 := Fr.nil n0
  have Zs := Z0
  have K : Keep h0 h0 [zs] := Keep.refl _ _
  show own_Goes p e below s (own_Q1 Z zs zx h0 n0) ({ frames := 1, cells := 2, slots := 17, locals := 12 } : Room).cells ({ frames := 1, cells := 2, slots := 17, locals := 12 } : Room).slots _
  refine own_go (B := s₁.setTop (mkF m 0 #[.val (.ref zs), .val (.int zx)] [])) (fun t k => castTop (ef_1 m zs zx) k) ?_
  refine own_go (B := s₁.setTop (mkF m 1 #[.val (.ref zs), .val (.int zx)] [(.ref zs)])) (fun t k => XS.aloadN X0.here hx rfl (Jvm.hb hby d1_0) rfl rfl k) ?_
  obtain ⟨T1, X1, e1, st1⟩ := initO X0 hx hZ hown (own_w hw 7 rfl) (own_w hw 8 rfl) (own_w hw 9 rfl) e0 (g := (mkF m 1 #[.val (.ref zs), .val (.int zx)] [(.ref zs)])) rfl (by rw [hml]; rfl) rfl (Jvm.hb hby d1_1) (by decide) (W := 0) (by show 2 * 0 + _ ≤ _; exact Nat.le_of_eq rfl) (by decide)
  refine own_go (B := T1.setTop (mkF m 4 #[.val (.ref zs), .val (.int zx)] [])) (fun t k => st1 _ k) ?_
  refine own_go (B := T1.setTop (mkF m 5 #[.val (.ref zs), .val (.int zx)] [(.ref zs)])) (fun t k => XS.aloadN X1.here hx rfl (Jvm.hb hby d1_4) rfl rfl k) ?_
  refine own_go (B := T1.setTop (mkF m 6 #[.val (.ref zs), .val (.int zx)] [(.int zx), (.ref zs)])) (fun t k => XS.iloadN X1.here hx rfl (Jvm.hb hby d1_5) rfl k) ?_
  refine own_go (B := T1.setTop (mkF m 8 #[.val (.ref zs), .val (.int zx)] [(.int (63 : Int32)), (.int zx), (.ref zs)])) (fun t k => XS.bipush X1.here hx rfl (Jvm.hb hby d1_6) k) ?_
  refine own_go (B := T1.setTop (mkF m 9 #[.val (.ref zs), .val (.int zx)] [(.int (zx + (63 : Int32))), (.ref zs)])) (fun t k => XS.iadd X1.here hx rfl (Jvm.hb hby d1_8) rfl k) ?_
  refine own_go (B := T1.setTop (mkF m 11 #[.val (.ref zs), .val (.int zx)] [(.int (64 : Int32)), (.int (zx + (63 : Int32))), (.ref zs)])) (fun t k => XS.bipush X1.here hx rfl (Jvm.hb hby d1_9) k) ?_
  refine own_go (B := T1.setTop (mkF m 12 #[.val (.ref zs), .val (.int zx)] [(.int ((zx + (63 : Int32)) / (64 : Int32))), (.ref zs)])) (fun t k => XS.idiv X1.here hx rfl (Jvm.hb hby d1_11) rfl (by decide) k) ?_
  obtain ⟨T2, h2, k2, X2, e2, E2, A2, st2⟩ := newP X1 hx hZ (own_w hw 10 rfl) e1 (g := (mkF m 12 #[.val (.ref zs), .val (.int zx)] [(.int ((zx + (63 : Int32)) / (64 : Int32))), (.ref zs)])) rfl (Jvm.hb hby d1_12) rfl (own_lw_nn zx (by omega)) (cap := 16) (own_lw_le zx (by omega) 16 (by omega)) (by decide) (by decide) (by decide)
  obtain ⟨b2, g2⟩ : ∃ z, z = h0.size := ⟨_, rfl⟩
  rw [← g2] at A2 st2
  have ne_zs_b2 : zs ≠ b2 := Nat.ne_of_lt (Nat.lt_of_lt_of_le E_zs.lt (Nat.le_of_eq g2.symm))
  have g_b2 : n0 ≤ b2 := Nat.le_trans Zs (Nat.le_of_eq g2.symm)
  have sz_b2 : h0.size ≤ b2 := Nat.le_trans K.1 (Nat.le_of_eq g2.symm)
  have E_zs := E_zs.ext E2
  have F_zs_words := F_zs_words.ext E2
  have F_zs_occupied := F_zs_occupied.ext E2
  have K := K.ext E2
  have Zs := Nat.le_trans Zs E2.1
  have V_b2 : own_LA Z h2 b2 (own_lw zx).toNatClampNeg (fun _ => 0) := own_Lnew A2 rfl
  refine own_go (B := T2.setTop (mkF m 14 #[.val (.ref zs), .val (.int zx)] [(.ref b2), (.ref zs)])) (fun t k => st2 _ k) ?_
  obtain ⟨T3, h3, X3, e3, W3, st3⟩ := putF X2 hx hZ hown (host := "") (Or.inl (own_w hw 11 rfl)) Via.refl e2 F_zs_words E_zs (Or.inr ⟨(own_w hw 12 rfl), rfl, hnm⟩) (own_w hw 2 rfl) (ty := (.array .long)) (by decide) rfl rfl (g := (mkF m 14 #[.val (.ref zs), .val (.int zx)] [(.ref b2), (.ref zs)])) rfl rfl (Jvm.hb hby d1_14)
  have N3 := Fr.snoc X3 N0 g_zs
  have E_zs := E_zs.wr W3
  have F_zs_words := F_zs_words.same W3
  have F_zs_occupied := F_zs_occupied.other W3 (Or.inr (slot_ne (Or.inr (own_w hw 14 rfl)) (Or.inr (own_w hw 12 rfl)) (by decide) (t := (.array .long)) (t' := (.array .long)) (by decide) (by decide)))
  have V_b2 := V_b2.other W3 (Ne.symm ne_zs_b2)
  have K := K.wr W3 (Or.inl (List.mem_of_getElem? (i := 0) rfl))
  have Zs := Nat.le_trans Zs (Keep.of_wr W3).1
  refine own_go (B := T3.setTop (mkF m 17 #[.val (.ref zs), .val (.int zx)] [])) (fun t k => st3 _ k) ?_
  refine own_go (B := T3.setTop (mkF m 18 #[.val (.ref zs), .val (.int zx)] [(.ref zs)])) (fun t k => XS.aloadN X3.here hx rfl (Jvm.hb hby d1_17) rfl rfl k) ?_
  refine own_go (B := T3.setTop (mkF m 19 #[.val (.ref zs), .val (.int zx)] [(.ref zs), (.ref zs)])) (fun t k => XS.aloadN X3.here hx rfl (Jvm.hb hby d1_18) rfl rfl k) ?_
  obtain ⟨T4, X4, e4, st4⟩ := getF X3 hx hZ hown (host := "") (Or.inl (own_w hw 11 rfl)) Via.refl e3 F_zs_words (g := (mkF m 19 #[.val (.ref zs), .val (.int zx)] [(.ref zs), (.ref zs)])) rfl rfl (Jvm.hb hby d1_19)
  refine own_go (B := T4.setTop (mkF m 22 #[.val (.ref zs), .val (.int zx)] [(.ref b2), (.ref zs)])) (fun t k => st4 _ k) ?_
  refine own_go (B := T4.setTop (mkF m 23 #[.val (.ref zs), .val (.int zx)] [(.int ((zx + (63 : Int32)) / (64 : Int32))), (.ref zs)])) (fun t k => own_alenL X4 hx hZ e4 V_b2 (back32 (own_lw_nn zx (by omega))).1 (Jvm.hb hby d1_22) t k) ?_
  refine own_go (B := T4.setTop (mkF m 25 #[.val (.ref zs), .val (.int zx)] [(.int (63 : Int32)), (.int ((zx + (63 : Int32)) / (64 : Int32))), (.ref zs)])) (fun t k => XS.bipush X4.here hx rfl (Jvm.hb hby d1_23) k) ?_
  refine own_go (B := T4.setTop (mkF m 26 #[.val (.ref zs), .val (.int zx)] [(.int (((zx + (63 : Int32)) / (64 : Int32)) + (63 : Int32))), (.ref zs)])) (fun t k => XS.iadd X4.here hx rfl (Jvm.hb hby d1_25) rfl k) ?_
  refine own_go (B := T4.setTop (mkF m 28 #[.val (.ref zs), .val (.int zx)] [(.int (64 : Int32)), (.int (((zx + (63 : Int32)) / (64 : Int32)) + (63 : Int32))), (.ref zs)])) (fun t k => XS.bipush X4.here hx rfl (Jvm.hb hby d1_26) k) ?_
  refine own_go (B := T4.setTop (mkF m 29 #[.val (.ref zs), .val (.int zx)] [(.int ((((zx + (63 : Int32)) / (64 : Int32)) + (63 : Int32)) / (64 : Int32))), (.ref zs)])) (fun t k => XS.idiv X4.here hx rfl (Jvm.hb hby d1_28) rfl (by decide) k) ?_
  obtain ⟨T5, h5, k5, X5, e5, E5, A5, st5⟩ := newP X4 hx hZ (own_w hw 10 rfl) e4 (g := (mkF m 29 #[.val (.ref zs), .val (.int zx)] [(.int ((((zx + (63 : Int32)) / (64 : Int32)) + (63 : Int32)) / (64 : Int32))), (.ref zs)])) rfl (Jvm.hb hby d1_29) rfl (own_lw_nn (own_lw zx) (by have := own_lw_int zx (by omega); omega)) (cap := 1) (own_lw_le (own_lw zx) (by have := own_lw_int zx (by omega); omega) 1 (by have := own_lw_int zx (by omega); omega)) (by decide) (by decide) (by decide)
  obtain ⟨b5, g5⟩ : ∃ z, z = h3.size := ⟨_, rfl⟩
  rw [← g5] at A5 st5
  have ne_zs_b5 : zs ≠ b5 := Nat.ne_of_lt (Nat.lt_of_lt_of_le E_zs.lt (Nat.le_of_eq g5.symm))
  have ne_b2_b5 : b2 ≠ b5 := Nat.ne_of_lt (Nat.lt_of_lt_of_le V_b2.lt (Nat.le_of_eq g5.symm))
  have g_b5 : n0 ≤ b5 := Nat.le_trans Zs (Nat.le_of_eq g5.symm)
  have sz_b5 : h0.size ≤ b5 := Nat.le_trans K.1 (Nat.le_of_eq g5.symm)
  have E_zs := E_zs.ext E5
  have F_zs_words := F_zs_words.ext E5
  have F_zs_occupied := F_zs_occupied.ext E5
  have V_b2 := V_b2.ext E5
  have K := K.ext E5
  have Zs := Nat.le_trans Zs E5.1
  have V_b5 : own_LA Z h5 b5 (own_lw (own_lw zx)).toNatClampNeg (fun _ => 0) := own_Lnew A5 rfl
  refine own_go (B := T5.setTop (mkF m 31 #[.val (.ref zs), .val (.int zx)] [(.ref b5), (.ref zs)])) (fun t k => st5 _ k) ?_
  obtain ⟨T6, h6, X6, e6, W6, st6⟩ := putF X5 hx hZ hown (host := "") (Or.inl (own_w hw 13 rfl)) Via.refl e5 F_zs_occupied E_zs (Or.inr ⟨(own_w hw 14 rfl), rfl, hnm⟩) (own_w hw 2 rfl) (ty := (.array .long)) (by decide) rfl rfl (g := (mkF m 31 #[.val (.ref zs), .val (.int zx)] [(.ref b5), (.ref zs)])) rfl rfl (Jvm.hb hby d1_31)
  have N6 := Fr.snoc X6 N3 g_zs
  have E_zs := E_zs.wr W6
  have F_zs_words := F_zs_words.other W6 (Or.inr (slot_ne (Or.inr (own_w hw 12 rfl)) (Or.inr (own_w hw 14 rfl)) (by decide) (t := (.array .long)) (t' := (.array .long)) (by decide) (by decide)))
  have F_zs_occupied := F_zs_occupied.same W6
  have V_b2 := V_b2.other W6 (Ne.symm ne_zs_b2)
  have V_b5 := V_b5.other W6 (Ne.symm ne_zs_b5)
  have K := K.wr W6 (Or.inl (List.mem_of_getElem? (i := 0) rfl))
  have Zs := Nat.le_trans Zs (Keep.of_wr W6).1
  refine own_go (B := T6.setTop (mkF m 34 #[.val (.ref zs), .val (.int zx)] [])) (fun t k => st6 _ k) ?_
  refine own_out X6 (v := none) (fun _ => rfl) Bd.notSynchronized (fun fs hr => X6.returnOut hx Bd.returns (Jvm.hb hby d1_34) hr) ?_ (by decide) (by decide)
  show own_Q1 Z zs zx h0 n0 none T6.heap _
  rw [e6]
  exact ⟨rfl, N6, b2, sz_b2, b5, sz_b5, ne_b2_b5, K, E_zs, F_zs_words, F_zs_occupied, V_b2, V_b5⟩
theorem d3_0 : decode prog_34_method_3_code 0 = .ok (.iload_n 1, 1) := by decide +kernel
theorem d3_1 : decode prog_34_method_3_code 1 = .ok (.bipush 64, 2) := by decide +kernel
theorem d3_3 : decode prog_34_method_3_code 3 = .ok (.idiv, 1) := by decide +kernel
theorem d3_4 : decode prog_34_method_3_code 4 = .ok (.istore_n 2, 1) := by decide +kernel
theorem d3_5 : decode prog_34_method_3_code 5 = .ok (.aload_n 0, 1) := by decide +kernel
theorem d3_6 : decode prog_34_method_3_code 6 = .ok (.getfield 7, 3) := by decide +kernel
theorem d3_9 : decode prog_34_method_3_code 9 = .ok (.iload_n 2, 1) := by decide +kernel
theorem d3_10 : decode prog_34_method_3_code 10 = .ok (.dup2, 1) := by decide +kernel
theorem d3_11 : decode prog_34_method_3_code 11 = .ok (.laload, 1) := by decide +kernel
theorem d3_12 : decode prog_34_method_3_code 12 = .ok (.lconst 1, 1) := by decide +kernel
theorem d3_13 : decode prog_34_method_3_code 13 = .ok (.iload_n 1, 1) := by decide +kernel
theorem d3_14 : decode prog_34_method_3_code 14 = .ok (.lshl, 1) := by decide +kernel
theorem d3_15 : decode prog_34_method_3_code 15 = .ok (.lor, 1) := by decide +kernel
theorem d3_16 : decode prog_34_method_3_code 16 = .ok (.lastore, 1) := by decide +kernel
theorem d3_17 : decode prog_34_method_3_code 17 = .ok (.aload_n 0, 1) := by decide +kernel
theorem d3_18 : decode prog_34_method_3_code 18 = .ok (.getfield 13, 3) := by decide +kernel
theorem d3_21 : decode prog_34_method_3_code 21 = .ok (.iload_n 2, 1) := by decide +kernel
theorem d3_22 : decode prog_34_method_3_code 22 = .ok (.bipush 64, 2) := by decide +kernel
theorem d3_24 : decode prog_34_method_3_code 24 = .ok (.idiv, 1) := by decide +kernel
theorem d3_25 : decode prog_34_method_3_code 25 = .ok (.dup2, 1) := by decide +kernel
theorem d3_26 : decode prog_34_method_3_code 26 = .ok (.laload, 1) := by decide +kernel
theorem d3_27 : decode prog_34_method_3_code 27 = .ok (.lconst 1, 1) := by decide +kernel
theorem d3_28 : decode prog_34_method_3_code 28 = .ok (.iload_n 2, 1) := by decide +kernel
theorem d3_29 : decode prog_34_method_3_code 29 = .ok (.lshl, 1) := by decide +kernel
theorem d3_30 : decode prog_34_method_3_code 30 = .ok (.lor, 1) := by decide +kernel
theorem d3_31 : decode prog_34_method_3_code 31 = .ok (.lastore, 1) := by decide +kernel
theorem d3_32 : decode prog_34_method_3_code 32 = .ok (.return_, 1) := by decide +kernel
theorem ef_3 (m : MethodId) (x0 : Addr) (x1 : Int32) : entryFrame m #[(.ref x0), (.int x1)] 3 = mkF m 0 #[.val (.ref x0), .val (.int x1), .unset] [] := by first | (simp [entryFrame, mkF, argsToLocals, Value.category]; done) | rfl
def own_Q3 (Z : State) (zs : Addr) (zx : Int32) (zw : Addr) (zo : Addr) (znw : Nat) (zno : Nat) (zf : Nat → Int64) (zg : Nat → Int64) (h0 : Heap) (n0 : Nat) (v : Option Value) (h : Heap) (L : List Loc) : Prop := v = none ∧ Fr n0 L ∧ Keep h0 h [zw, zo] ∧ own_LA Z h zw znw (own_upd zf (own_ix zx) (zf (own_ix zx) ||| own_bt zx)) ∧ own_LA Z h zo zno (own_upd zg (own_ix (zx / (64 : Int32))) (zg (own_ix (zx / (64 : Int32))) ||| own_bt (zx / (64 : Int32))))
set_option maxRecDepth 65536 in
set_option maxHeartbeats 40000000 in
theorem rm3 (l : Launch) (Z : State) (a0 : Array Value) (hw : ∀ d ∈ tables_1, d.before a0 Z = true) (ws : List Jvm.Cond) (zs : Addr) (zx : Int32) (zw : Addr) (zo : Addr) (znw : Nat) (zno : Nat) (zf : Nat → Int64) (zg : Nat → Int64) (h0 : Heap) (n0 : Nat) (Z0 : n0 ≤ h0.size) (E_zs : Exa Z h0 zs "com/example/netloom/netloom/embed/NodeSet") (F_zs_words : Fld Z h0 zs "com/example/netloom/netloom/embed/NodeSet" "words" "[J" (.ref zw)) (F_zs_occupied : Fld Z h0 zs "com/example/netloom/netloom/embed/NodeSet" "occupied" "[J" (.ref zo)) (V_zw : own_LA Z h0 zw znw zf) (V_zo : own_LA Z h0 zo zno zg) (g_zw : n0 ≤ zw) (g_zo : n0 ≤ zo) (ne_zs_zw : zs ≠ zw) (ne_zs_zo : zs ≠ zo) (ne_zw_zo : zw ≠ zo) (hx0 : ¬ (zx < (0 : Int32))) (hi : own_ix zx < znw) (ho : own_ix (zx / (64 : Int32)) < zno) :
    MetFree l (⟨"com/example/netloom/netloom/embed/NodeSet", "add", "(I)V"⟩ : MethodName) (head1 (Jvm.Cond.code (⟨"com/example/netloom/netloom/embed/NodeSet", "add", "(I)V"⟩ : MethodName) prog_34_method_3_code 3 none :: ws) ({ frames := 0, cells := 0, slots := 0, locals := 0 } : Room)) (fun a U => a = #[(.ref zs), (.int zx)] ∧ Z.Warmed39 U.vm ∧ U.heap = h0) (fun _ _ _ _ _ => True) (fun _ U o U' => ∃ v L, o = .returned v ∧ own_Q3 Z zs zx zw zo znw zno zf zg h0 n0 v U'.heap L ∧ FrameEnd U o U' L ({ frames := 0, cells := 0, slots := 0, locals := 0 } : Room).cells ({ frames := 0, cells := 0, slots := 0, locals := 0 } : Room).slots) := by
  refine MetFree.of_bodySF (plainFor_of_name pn_com_example_netloom_netloom_embed_NodeSet) hisR ?_
  intro p e s m args below meth c s₁ Bd hml0 hP hK
  obtain ⟨rfl, hZ, hh⟩ := hP
  have hx := Bd.exec
  have hby := Bd.bytes
  have hml : c.maxLocals = 3 := hml0
  have hown : s.vm.findClass "com/example/netloom/netloom/embed/NodeSet" = some m.cls := findClass_of_methodNamed Bd.named
  have hnm := (name_of_methodNamed Bd.named Bd.method).1
  have X0 : Stand p l e ({ frames := 0, cells := 0, slots := 0, locals := 0 } : Room) s m #[(.ref zs), (.int zx)] below meth c s₁ [] 0 0 := Stand.of_body Bd
  have e0 : s₁.heap = h0 := by rw [← hh, Bd.state]; rfl
  have N0 := Fr.nil n0
  have Zs := Z0
  have K : Keep h0 h0 [zw, zo] := Keep.refl _ _
  show own_Goes p e below s (own_Q3 Z zs zx zw zo znw zno zf zg h0 n0) ({ frames := 0, cells := 0, slots := 0, locals := 0 } : Room).cells ({ frames := 0, cells := 0, slots := 0, locals := 0 } : Room).slots _
  refine own_go (B := s₁.setTop (mkF m 0 #[.val (.ref zs), .val (.int zx), .unset] [])) (fun t k => castTop (ef_3 m zs zx) k) ?_
  refine own_go (B := s₁.setTop (mkF m 1 #[.val (.ref zs), .val (.int zx), .unset] [(.int zx)])) (fun t k => XS.iloadN X0.here hx rfl (Jvm.hb hby d3_0) rfl k) ?_
  refine own_go (B := s₁.setTop (mkF m 3 #[.val (.ref zs), .val (.int zx), .unset] [(.int (64 : Int32)), (.int zx)])) (fun t k => XS.bipush X0.here hx rfl (Jvm.hb hby d3_1) k) ?_
  refine own_go (B := s₁.setTop (mkF m 4 #[.val (.ref zs), .val (.int zx), .unset] [(.int (zx / (64 : Int32)))])) (fun t k => XS.idiv X0.here hx rfl (Jvm.hb hby d3_3) rfl (by decide) k) ?_
  refine own_go (B := s₁.setTop (mkF m 5 #[.val (.ref zs), .val (.int zx), .val (.int (zx / (64 : Int32)))] [])) (fun t k => XS.istoreN X0.here hx rfl (Jvm.hb hby d3_4) rfl (l' := #[.val (.ref zs), .val (.int zx), .val (.int (zx / (64 : Int32)))]) rfl k) ?_
  refine own_go (B := s₁.setTop (mkF m 6 #[.val (.ref zs), .val (.int zx), .val (.int (zx / (64 : Int32)))] [(.ref zs)])) (fun t k => XS.aloadN X0.here hx rfl (Jvm.hb hby d3_5) rfl rfl k) ?_
  obtain ⟨T7, X7, e7, st7⟩ := getF X0 hx hZ hown (host := "") (Or.inl (own_w hw 11 rfl)) Via.refl e0 F_zs_words (g := (mkF m 6 #[.val (.ref zs), .val (.int zx), .val (.int (zx / (64 : Int32)))] [(.ref zs)])) rfl rfl (Jvm.hb hby d3_6)
  refine own_go (B := T7.setTop (mkF m 9 #[.val (.ref zs), .val (.int zx), .val (.int (zx / (64 : Int32)))] [(.ref zw)])) (fun t k => st7 _ k) ?_
  refine own_go (B := T7.setTop (mkF m 10 #[.val (.ref zs), .val (.int zx), .val (.int (zx / (64 : Int32)))] [(.int (zx / (64 : Int32))), (.ref zw)])) (fun t k => XS.iloadN X7.here hx rfl (Jvm.hb hby d3_9) rfl k) ?_
  refine own_go (B := T7.setTop (mkF m 11 #[.val (.ref zs), .val (.int zx), .val (.int (zx / (64 : Int32)))] [(.int (zx / (64 : Int32))), (.ref zw), (.int (zx / (64 : Int32))), (.ref zw)])) (fun t k => XT.dup2 X7.here hx rfl (Jvm.hb hby d3_10) rfl rfl rfl k) ?_
  refine own_go (B := T7.setTop (mkF m 12 #[.val (.ref zs), .val (.int zx), .val (.int (zx / (64 : Int32)))] [(.long (zf (own_ix zx))), (.int (zx / (64 : Int32))), (.ref zw)])) (fun t k => own_laload X7 hx hZ e7 V_zw (j := (zx / (64 : Int32))) (k := (own_ix zx)) (by rw [own_nn] at *; have := own_d64 zx hx0; omega) rfl hi (Jvm.hb hby d3_11) t k) ?_
  refine own_go (B := T7.setTop (mkF m 13 #[.val (.ref zs), .val (.int zx), .val (.int (zx / (64 : Int32)))] [(.long (1 : Int64)), (.long (zf (own_ix zx))), (.int (zx / (64 : Int32))), (.ref zw)])) (fun t k => XS.lconst X7.here hx rfl (Jvm.hb hby d3_12) k) ?_
  refine own_go (B := T7.setTop (mkF m 14 #[.val (.ref zs), .val (.int zx), .val (.int (zx / (64 : Int32)))] [(.int zx), (.long (1 : Int64)), (.long (zf (own_ix zx))), (.int (zx / (64 : Int32))), (.ref zw)])) (fun t k => XS.iloadN X7.here hx rfl (Jvm.hb hby d3_13) rfl k) ?_
  refine own_go (B := T7.setTop (mkF m 15 #[.val (.ref zs), .val (.int zx), .val (.int (zx / (64 : Int32)))] [(.long ((1 : Int64) <<< (zx &&& 0x3f).toInt64)), (.long (zf (own_ix zx))), (.int (zx / (64 : Int32))), (.ref zw)])) (fun t k => XS.lshl X7.here hx rfl (Jvm.hb hby d3_14) rfl k) ?_
  refine own_go (B := T7.setTop (mkF m 16 #[.val (.ref zs), .val (.int zx), .val (.int (zx / (64 : Int32)))] [(.long ((zf (own_ix zx)) ||| ((1 : Int64) <<< (zx &&& 0x3f).toInt64))), (.int (zx / (64 : Int32))), (.ref zw)])) (fun t k => XS.lor X7.here hx rfl (Jvm.hb hby d3_15) rfl k) ?_
  obtain ⟨T8, h8, X8, e8, W8, V8, st8⟩ := own_lastore X7 hx hZ e7 V_zw (j := (zx / (64 : Int32))) (k := (own_ix zx)) (by rw [own_nn] at *; have := own_d64 zx hx0; omega) rfl hi (g := (mkF m 16 #[.val (.ref zs), .val (.int zx), .val (.int (zx / (64 : Int32)))] [(.long ((zf (own_ix zx)) ||| ((1 : Int64) <<< (zx &&& 0x3f).toInt64))), (.int (zx / (64 : Int32))), (.ref zw)])) rfl rfl (Jvm.hb hby d3_16)
  have N8 := Fr.snoc X8 N0 g_zw
  have E_zs := E_zs.wr W8
  have F_zs_words := F_zs_words.other W8 (Or.inl ne_zs_zw)
  have F_zs_occupied := F_zs_occupied.other W8 (Or.inl ne_zs_zw)
  have V_zo := V_zo.other W8 (Ne.symm ne_zw_zo)
  have K := K.wr W8 (Or.inl (List.mem_of_getElem? (i := 0) rfl))
  have Zs := Nat.le_trans Zs (Keep.of_wr W8).1
  have V_zw := V8
  refine own_go (B := T8.setTop (mkF m 17 #[.val (.ref zs), .val (.int zx), .val (.int (zx / (64 : Int32)))] [])) (fun t k => st8 _ k) ?_
  refine own_go (B := T8.setTop (mkF m 18 #[.val (.ref zs), .val (.int zx), .val (.int (zx / (64 : Int32)))] [(.ref zs)])) (fun t k => XS.aloadN X8.here hx rfl (Jvm.hb hby d3_17) rfl rfl k) ?_
  obtain ⟨T9, X9, e9, st9⟩ := getF X8 hx hZ hown (host := "") (Or.inl (own_w hw 13 rfl)) Via.refl e8 F_zs_occupied (g := (mkF m 18 #[.val (.ref zs), .val (.int zx), .val (.int (zx / (64 : Int32)))] [(.ref zs)])) rfl rfl (Jvm.hb hby d3_18)
  refine own_go (B := T9.setTop (mkF m 21 #[.val (.ref zs), .val (.int zx), .val (.int (zx / (64 : Int32)))] [(.ref zo)])) (fun t k => st9 _ k) ?_
  refine own_go (B := T9.setTop (mkF m 22 #[.val (.ref zs), .val (.int zx), .val (.int (zx / (64 : Int32)))] [(.int (zx / (64 : Int32))), (.ref zo)])) (fun t k => XS.iloadN X9.here hx rfl (Jvm.hb hby d3_21) rfl k) ?_
  refine own_go (B := T9.setTop (mkF m 24 #[.val (.ref zs), .val (.int zx), .val (.int (zx / (64 : Int32)))] [(.int (64 : Int32)), (.int (zx / (64 : Int32))), (.ref zo)])) (fun t k => XS.bipush X9.here hx rfl (Jvm.hb hby d3_22) k) ?_
  refine own_go (B := T9.setTop (mkF m 25 #[.val (.ref zs), .val (.int zx), .val (.int (zx / (64 : Int32)))] [(.int ((zx / (64 : Int32)) / (64 : Int32))), (.ref zo)])) (fun t k => XS.idiv X9.here hx rfl (Jvm.hb hby d3_24) rfl (by decide) k) ?_
  refine own_go (B := T9.setTop (mkF m 26 #[.val (.ref zs), .val (.int zx), .val (.int (zx / (64 : Int32)))] [(.int ((zx / (64 : Int32)) / (64 : Int32))), (.ref zo), (.int ((zx / (64 : Int32)) / (64 : Int32))), (.ref zo)])) (fun t k => XT.dup2 X9.here hx rfl (Jvm.hb hby d3_25) rfl rfl rfl k) ?_
  refine own_go (B := T9.setTop (mkF m 27 #[.val (.ref zs), .val (.int zx), .val (.int (zx / (64 : Int32)))] [(.long (zg (own_ix (zx / (64 : Int32))))), (.int ((zx / (64 : Int32)) / (64 : Int32))), (.ref zo)])) (fun t k => own_laload X9 hx hZ e9 V_zo (j := ((zx / (64 : Int32)) / (64 : Int32))) (k := (own_ix (zx / (64 : Int32)))) (by rw [own_nn] at *; have := own_d64 zx hx0; have := own_d64 (zx / (64 : Int32)) (by omega); omega) rfl ho (Jvm.hb hby d3_26) t k) ?_
  refine own_go (B := T9.setTop (mkF m 28 #[.val (.ref zs), .val (.int zx), .val (.int (zx / (64 : Int32)))] [(.long (1 : Int64)), (.long (zg (own_ix (zx / (64 : Int32))))), (.int ((zx / (64 : Int32)) / (64 : Int32))), (.ref zo)])) (fun t k => XS.lconst X9.here hx rfl (Jvm.hb hby d3_27) k) ?_
  refine own_go (B := T9.setTop (mkF m 29 #[.val (.ref zs), .val (.int zx), .val (.int (zx / (64 : Int32)))] [(.int (zx / (64 : Int32))), (.long (1 : Int64)), (.long (zg (own_ix (zx / (64 : Int32))))), (.int ((zx / (64 : Int32)) / (64 : Int32))), (.ref zo)])) (fun t k => XS.iloadN X9.here hx rfl (Jvm.hb hby d3_28) rfl k) ?_
  refine own_go (B := T9.setTop (mkF m 30 #[.val (.ref zs), .val (.int zx), .val (.int (zx / (64 : Int32)))] [(.long ((1 : Int64) <<< ((zx / (64 : Int32)) &&& 0x3f).toInt64)), (.long (zg (own_ix (zx / (64 : Int32))))), (.int ((zx / (64 : Int32)) / (64 : Int32))), (.ref zo)])) (fun t k => XS.lshl X9.here hx rfl (Jvm.hb hby d3_29) rfl k) ?_
  refine own_go (B := T9.setTop (mkF m 31 #[.val (.ref zs), .val (.int zx), .val (.int (zx / (64 : Int32)))] [(.long ((zg (own_ix (zx / (64 : Int32)))) ||| ((1 : Int64) <<< ((zx / (64 : Int32)) &&& 0x3f).toInt64))), (.int ((zx / (64 : Int32)) / (64 : Int32))), (.ref zo)])) (fun t k => XS.lor X9.here hx rfl (Jvm.hb hby d3_30) rfl k) ?_
  obtain ⟨T10, h10, X10, e10, W10, V10, st10⟩ := own_lastore X9 hx hZ e9 V_zo (j := ((zx / (64 : Int32)) / (64 : Int32))) (k := (own_ix (zx / (64 : Int32)))) (by rw [own_nn] at *; have := own_d64 zx hx0; have := own_d64 (zx / (64 : Int32)) (by omega); omega) rfl ho (g := (mkF m 31 #[.val (.ref zs), .val (.int zx), .val (.int (zx / (64 : Int32)))] [(.long ((zg (own_ix (zx / (64 : Int32)))) ||| ((1 : Int64) <<< ((zx / (64 : Int32)) &&& 0x3f).toInt64))), (.int ((zx / (64 : Int32)) / (64 : Int32))), (.ref zo)])) rfl rfl (Jvm.hb hby d3_31)
  have N10 := Fr.snoc X10 N8 g_zo
  have E_zs := E_zs.wr W10
  have F_zs_words := F_zs_words.other W10 (Or.inl ne_zs_zo)
  have F_zs_occupied := F_zs_occupied.other W10 (Or.inl ne_zs_zo)
  have V_zw := V_zw.other W10 ne_zw_zo
  have K := K.wr W10 (Or.inl (List.mem_of_getElem? (i := 1) rfl))
  have Zs := Nat.le_trans Zs (Keep.of_wr W10).1
  have V_zo := V10
  refine own_go (B := T10.setTop (mkF m 32 #[.val (.ref zs), .val (.int zx), .val (.int (zx / (64 : Int32)))] [])) (fun t k => st10 _ k) ?_
  refine own_out X10 (v := none) (fun _ => rfl) Bd.notSynchronized (fun fs hr => X10.returnOut hx Bd.returns (Jvm.hb hby d3_32) hr) ?_ (by decide) (by decide)
  show own_Q3 Z zs zx zw zo znw zno zf zg h0 n0 none T10.heap _
  rw [e10]
  exact ⟨rfl, N10, K, V_zw, V_zo⟩
def own_con (f : Nat → Int64) (x : Int32) : Int32 := if (f (own_ix x) &&& own_bt x) = (0 : Int64) then (0 : Int32) else (1 : Int32)
theorem d4_0 : decode prog_34_method_2_code 0 = .ok (.aload_n 0, 1) := by decide +kernel
theorem d4_1 : decode prog_34_method_2_code 1 = .ok (.getfield 7, 3) := by decide +kernel
theorem d4_4 : decode prog_34_method_2_code 4 = .ok (.iload_n 1, 1) := by decide +kernel
theorem d4_5 : decode prog_34_method_2_code 5 = .ok (.bipush 64, 2) := by decide +kernel
theorem d4_7 : decode prog_34_method_2_code 7 = .ok (.idiv, 1) := by decide +kernel
theorem d4_8 : decode prog_34_method_2_code 8 = .ok (.laload, 1) := by decide +kernel
theorem d4_9 : decode prog_34_method_2_code 9 = .ok (.lconst 1, 1) := by decide +kernel
theorem d4_10 : decode prog_34_method_2_code 10 = .ok (.iload_n 1, 1) := by decide +kernel
theorem d4_11 : decode prog_34_method_2_code 11 = .ok (.lshl, 1) := by decide +kernel
theorem d4_12 : decode prog_34_method_2_code 12 = .ok (.land, 1) := by decide +kernel
theorem d4_13 : decode prog_34_method_2_code 13 = .ok (.lconst 0, 1) := by decide +kernel
theorem d4_14 : decode prog_34_method_2_code 14 = .ok (.lcmp, 1) := by decide +kernel
theorem d4_15 : decode prog_34_method_2_code 15 = .ok (.ifCond .eq 7, 3) := by decide +kernel
theorem d4_18 : decode prog_34_method_2_code 18 = .ok (.iconst 1, 1) := by decide +kernel
theorem d4_19 : decode prog_34_method_2_code 19 = .ok (.goto 4, 3) := by decide +kernel
theorem d4_22 : decode prog_34_method_2_code 22 = .ok (.iconst 0, 1) := by decide +kernel
theorem d4_23 : decode prog_34_method_2_code 23 = .ok (.ireturn, 1) := by decide +kernel
theorem ef_4 (m : MethodId) (x0 : Addr) (x1 : Int32) : entryFrame m #[(.ref x0), (.int x1)] 2 = mkF m 0 #[.val (.ref x0), .val (.int x1)] [] := by first | (simp [entryFrame, mkF, argsToLocals, Value.category]; done) | rfl
def own_Q4 (Z : State) (zs : Addr) (zx : Int32) (zw : Addr) (znw : Nat) (zf : Nat → Int64) (h0 : Heap) (n0 : Nat) (v : Option Value) (h : Heap) (L : List Loc) : Prop := v = some (.int (own_con zf zx)) ∧ Fr n0 L ∧ h = h0
set_option maxRecDepth 65536 in
set_option maxHeartbeats 40000000 in
theorem rm4 (l : Launch) (Z : State) (a0 : Array Value) (hw : ∀ d ∈ tables_1, d.before a0 Z = true) (ws : List Jvm.Cond) (zs : Addr) (zx : Int32) (zw : Addr) (znw : Nat) (zf : Nat → Int64) (h0 : Heap) (n0 : Nat) (Z0 : n0 ≤ h0.size) (F_zs_words : Fld Z h0 zs "com/example/netloom/netloom/embed/NodeSet" "words" "[J" (.ref zw)) (V_zw : own_LA Z h0 zw znw zf) (hx0 : ¬ (zx < (0 : Int32))) (hi : own_ix zx < znw) :
    MetFree l (⟨"com/example/netloom/netloom/embed/NodeSet", "contains", "(I)Z"⟩ : MethodName) (head1 (Jvm.Cond.code (⟨"com/example/netloom/netloom/embed/NodeSet", "contains", "(I)Z"⟩ : MethodName) prog_34_method_2_code 2 (some .boolean) :: ws) ({ frames := 0, cells := 0, slots := 0, locals := 0 } : Room)) (fun a U => a = #[(.ref zs), (.int zx)] ∧ Z.Warmed39 U.vm ∧ U.heap = h0) (fun _ _ _ _ _ => True) (fun _ U o U' => ∃ v L, o = .returned v ∧ own_Q4 Z zs zx zw znw zf h0 n0 v U'.heap L ∧ FrameEnd U o U' L ({ frames := 0, cells := 0, slots := 0, locals := 0 } : Room).cells ({ frames := 0, cells := 0, slots := 0, locals := 0 } : Room).slots) := by
  refine MetFree.of_bodySF (plainFor_of_name pn_com_example_netloom_netloom_embed_NodeSet) hisR ?_
  intro p e s m args below meth c s₁ Bd hml0 hP hK
  obtain ⟨rfl, hZ, hh⟩ := hP
  have hx := Bd.exec
  have hby := Bd.bytes
  have hml : c.maxLocals = 2 := hml0
  have hown : s.vm.findClass "com/example/netloom/netloom/embed/NodeSet" = some m.cls := findClass_of_methodNamed Bd.named
  have hnm := (name_of_methodNamed Bd.named Bd.method).1
  have X0 : Stand p l e ({ frames := 0, cells := 0, slots := 0, locals := 0 } : Room) s m #[(.ref zs), (.int zx)] below meth c s₁ [] 0 0 := Stand.of_body Bd
  have e0 : s₁.heap = h0 := by rw [← hh, Bd.state]; rfl
  have N0 := Fr.nil n0
  have Zs := Z0
  show own_Goes p e below s (own_Q4 Z zs zx zw znw zf h0 n0) ({ frames := 0, cells := 0, slots := 0, locals := 0 } : Room).cells ({ frames := 0, cells := 0, slots := 0, locals := 0 } : Room).slots _
  refine own_go (B := s₁.setTop (mkF m 0 #[.val (.ref zs), .val (.int zx)] [])) (fun t k => castTop (ef_4 m zs zx) k) ?_
  refine own_go (B := s₁.setTop (mkF m 1 #[.val (.ref zs), .val (.int zx)] [(.ref zs)])) (fun t k => XS.aloadN X0.here hx rfl (Jvm.hb hby d4_0) rfl rfl k) ?_
  obtain ⟨T11, X11, e11, st11⟩ := getF X0 hx hZ hown (host := "") (Or.inl (own_w hw 11 rfl)) Via.refl e0 F_zs_words (g := (mkF m 1 #[.val (.ref zs), .val (.int zx)] [(.ref zs)])) rfl rfl (Jvm.hb hby d4_1)
  refine own_go (B := T11.setTop (mkF m 4 #[.val (.ref zs), .val (.int zx)] [(.ref zw)])) (fun t k => st11 _ k) ?_
  refine own_go (B := T11.setTop (mkF m 5 #[.val (.ref zs), .val (.int zx)] [(.int zx), (.ref zw)])) (fun t k => XS.iloadN X11.here hx rfl (Jvm.hb hby d4_4) rfl k) ?_
  refine own_go (B := T11.setTop (mkF m 7 #[.val (.ref zs), .val (.int zx)] [(.int (64 : Int32)), (.int zx), (.ref zw)])) (fun t k => XS.bipush X11.here hx rfl (Jvm.hb hby d4_5) k) ?_
  refine own_go (B := T11.setTop (mkF m 8 #[.val (.ref zs), .val (.int zx)] [(.int (zx / (64 : Int32))), (.ref zw)])) (fun t k => XS.idiv X11.here hx rfl (Jvm.hb hby d4_7) rfl (by decide) k) ?_
  refine own_go (B := T11.setTop (mkF m 9 #[.val (.ref zs), .val (.int zx)] [(.long (zf (own_ix zx)))])) (fun t k => own_laload X11 hx hZ e11 V_zw (j := (zx / (64 : Int32))) (k := (own_ix zx)) (by rw [own_nn] at *; have := own_d64 zx hx0; omega) rfl hi (Jvm.hb hby d4_8) t k) ?_
  refine own_go (B := T11.setTop (mkF m 10 #[.val (.ref zs), .val (.int zx)] [(.long (1 : Int64)), (.long (zf (own_ix zx)))])) (fun t k => XS.lconst X11.here hx rfl (Jvm.hb hby d4_9) k) ?_
  refine own_go (B := T11.setTop (mkF m 11 #[.val (.ref zs), .val (.int zx)] [(.int zx), (.long (1 : Int64)), (.long (zf (own_ix zx)))])) (fun t k => XS.iloadN X11.here hx rfl (Jvm.hb hby d4_10) rfl k) ?_
  refine own_go (B := T11.setTop (mkF m 12 #[.val (.ref zs), .val (.int zx)] [(.long ((1 : Int64) <<< (zx &&& 0x3f).toInt64)), (.long (zf (own_ix zx)))])) (fun t k => XS.lshl X11.here hx rfl (Jvm.hb hby d4_11) rfl k) ?_
  refine own_go (B := T11.setTop (mkF m 13 #[.val (.ref zs), .val (.int zx)] [(.long ((zf (own_ix zx)) &&& ((1 : Int64) <<< (zx &&& 0x3f).toInt64)))])) (fun t k => XS.land X11.here hx rfl (Jvm.hb hby d4_12) rfl k) ?_
  refine own_go (B := T11.setTop (mkF m 14 #[.val (.ref zs), .val (.int zx)] [(.long (0 : Int64)), (.long ((zf (own_ix zx)) &&& ((1 : Int64) <<< (zx &&& 0x3f).toInt64)))])) (fun t k => XS.lconst X11.here hx rfl (Jvm.hb hby d4_13) k) ?_
  refine own_go (B := T11.setTop (mkF m 15 #[.val (.ref zs), .val (.int zx)] [(.int (lcmpW ((zf (own_ix zx)) &&& ((1 : Int64) <<< (zx &&& 0x3f).toInt64)) (0 : Int64)))])) (fun t k => XS.lcmp X11.here hx rfl (Jvm.hb hby d4_14) rfl k) ?_
  by_cases hc15_12 : ((zf (own_ix zx)) &&& ((1 : Int64) <<< (zx &&& 0x3f).toInt64)) = (0 : Int64)
  · refine own_go (B := T11.setTop (mkF m 22 #[.val (.ref zs), .val (.int zx)] [])) (fun t k => XS.ifYes X11.here hx rfl (pc0 := 15) (pc' := 22) rfl (Jvm.hb hby d4_15) rfl ((if0 _ _).trans (teq ((lw_eq ((zf (own_ix zx)) &&& ((1 : Int64) <<< (zx &&& 0x3f).toInt64)) (0 : Int64)).mpr hc15_12)).1) (by decide) (by decide) k) ?_
    refine own_go (B := T11.setTop (mkF m 23 #[.val (.ref zs), .val (.int zx)] [(.int (0 : Int32))])) (fun t k => XS.iconst X11.here hx rfl (Jvm.hb hby d4_22) k) ?_
    refine own_out X11 (v := (some (.int (0 : Int32)))) (fun h => by rw [Bd.returns] at h; cases h) Bd.notSynchronized (fun fs hr => retOut X11 hx (t := .boolean) Bd.returns rfl (by first | exact Or.inl ⟨rfl, by simp, _, rfl⟩) (Jvm.hb hby d4_23) hr) ?_ (by decide) (by decide)
    show own_Q4 Z zs zx zw znw zf h0 n0 (some (.int (0 : Int32))) T11.heap _
    rw [e11]
    exact ⟨(by unfold own_con own_bt; rw [if_pos hc15_12]), N0, rfl⟩
  · refine own_go (B := T11.setTop (mkF m 18 #[.val (.ref zs), .val (.int zx)] [])) (fun t k => XS.ifNo X11.here hx rfl (Jvm.hb hby d4_15) rfl ((if0 _ _).trans (feq (mt (lw_eq ((zf (own_ix zx)) &&& ((1 : Int64) <<< (zx &&& 0x3f).toInt64)) (0 : Int64)).mp hc15_12)).1) k) ?_
    refine own_go (B := T11.setTop (mkF m 19 #[.val (.ref zs), .val (.int zx)] [(.int (1 : Int32))])) (fun t k => XS.iconst X11.here hx rfl (Jvm.hb hby d4_18) k) ?_
    refine own_go (B := T11.setTop (mkF m 23 #[.val (.ref zs), .val (.int zx)] [(.int (1 : Int32))])) (fun t k => XS.goto X11.here hx rfl (pc0 := 19) (pc' := 23) rfl (Jvm.hb hby d4_19) (by decide) (by decide) k) ?_
    refine own_out X11 (v := (some (.int (1 : Int32)))) (fun h => by rw [Bd.returns] at h; cases h) Bd.notSynchronized (fun fs hr => retOut X11 hx (t := .boolean) Bd.returns rfl (by first | exact Or.inl ⟨rfl, by simp, _, rfl⟩) (Jvm.hb hby d4_23) hr) ?_ (by decide) (by decide)
    show own_Q4 Z zs zx zw znw zf h0 n0 (some (.int (1 : Int32))) T11.heap _
    rw [e11]
    exact ⟨(by unfold own_con own_bt; rw [if_neg hc15_12]), N0, rfl⟩
theorem d7_0 : decode prog_34_method_13_code 0 = .ok (.aload_n 0, 1) := by decide +kernel
theorem d7_1 : decode prog_34_method_13_code 1 = .ok (.getfield 7, 3) := by decide +kernel
theorem d7_4 : decode prog_34_method_13_code 4 = .ok (.iload_n 1, 1) := by decide +kernel
theorem d7_5 : decode prog_34_method_13_code 5 = .ok (.dup2, 1) := by decide +kernel
theorem d7_6 : decode prog_34_method_13_code 6 = .ok (.laload, 1) := by decide +kernel
theorem d7_7 : decode prog_34_method_13_code 7 = .ok (.lload_n 2, 1) := by decide +kernel
theorem d7_8 : decode prog_34_method_13_code 8 = .ok (.ldc2_w 56, 3) := by decide +kernel
theorem d7_11 : decode prog_34_method_13_code 11 = .ok (.lxor, 1) := by decide +kernel
theorem d7_12 : decode prog_34_method_13_code 12 = .ok (.land, 1) := by decide +kernel
theorem d7_13 : decode prog_34_method_13_code 13 = .ok (.lastore, 1) := by decide +kernel
theorem d7_14 : decode prog_34_method_13_code 14 = .ok (.aload_n 0, 1) := by decide +kernel
theorem d7_15 : decode prog_34_method_13_code 15 = .ok (.getfield 7, 3) := by decide +kernel
theorem d7_18 : decode prog_34_method_13_code 18 = .ok (.iload_n 1, 1) := by decide +kernel
theorem d7_19 : decode prog_34_method_13_code 19 = .ok (.laload, 1) := by decide +kernel
theorem d7_20 : decode prog_34_method_13_code 20 = .ok (.lconst 0, 1) := by decide +kernel
theorem d7_21 : decode prog_34_method_13_code 21 = .ok (.lcmp, 1) := by decide +kernel
theorem d7_22 : decode prog_34_method_13_code 22 = .ok (.ifCond .ne 22, 3) := by decide +kernel
theorem d7_25 : decode prog_34_method_13_code 25 = .ok (.aload_n 0, 1) := by decide +kernel
theorem d7_26 : decode prog_34_method_13_code 26 = .ok (.getfield 13, 3) := by decide +kernel
theorem d7_29 : decode prog_34_method_13_code 29 = .ok (.iload_n 1, 1) := by decide +kernel
theorem d7_30 : decode prog_34_method_13_code 30 = .ok (.bipush 64, 2) := by decide +kernel
theorem d7_32 : decode prog_34_method_13_code 32 = .ok (.idiv, 1) := by decide +kernel
theorem d7_33 : decode prog_34_method_13_code 33 = .ok (.dup2, 1) := by decide +kernel
theorem d7_34 : decode prog_34_method_13_code 34 = .ok (.laload, 1) := by decide +kernel
theorem d7_35 : decode prog_34_method_13_code 35 = .ok (.lconst 1, 1) := by decide +kernel
theorem d7_36 : decode prog_34_method_13_code 36 = .ok (.iload_n 1, 1) := by decide +kernel
theorem d7_37 : decode prog_34_method_13_code 37 = .ok (.lshl, 1) := by decide +kernel
theorem d7_38 : decode prog_34_method_13_code 38 = .ok (.ldc2_w 56, 3) := by decide +kernel
theorem d7_41 : decode prog_34_method_13_code 41 = .ok (.lxor, 1) := by decide +kernel
theorem d7_42 : decode prog_34_method_13_code 42 = .ok (.land, 1) := by decide +kernel
theorem d7_43 : decode prog_34_method_13_code 43 = .ok (.lastore, 1) := by decide +kernel
theorem d7_44 : decode prog_34_method_13_code 44 = .ok (.return_, 1) := by decide +kernel
theorem ef_7 (m : MethodId) (x0 : Addr) (x1 : Int32) (x2 : Int64) : entryFrame m #[(.ref x0), (.int x1), (.long x2)] 4 = mkF m 0 #[.val (.ref x0), .val (.int x1), .val (.long x2), .second] [] := by first | (simp [entryFrame, mkF, argsToLocals, Value.category]; done) | rfl
def own_Q7 (Z : State) (zs : Addr) (zi : Int32) (zb : Int64) (zw : Addr) (zo : Addr) (znw : Nat) (zno : Nat) (zf : Nat → Int64) (zg : Nat → Int64) (h0 : Heap) (n0 : Nat) (v : Option Value) (h : Heap) (L : List Loc) : Prop := v = none ∧ Fr n0 L ∧ Keep h0 h [zw, zo] ∧ own_LA Z h zw znw (own_upd zf zi.toNatClampNeg (zf zi.toNatClampNeg &&& (zb ^^^ (-1 : Int64)))) ∧ own_LA Z h zo zno (if (own_upd zf zi.toNatClampNeg (zf zi.toNatClampNeg &&& (zb ^^^ (-1 : Int64)))) zi.toNatClampNeg = (0 : Int64) then own_upd zg (own_ix zi) (zg (own_ix zi) &&& (own_bt zi ^^^ (-1 : Int64))) else zg)
set_option maxRecDepth 65536 in
set_option maxHeartbeats 40000000 in
theorem rm7 (l : Launch) (Z : State) (a0 : Array Value) (hw : ∀ d ∈ tables_1, d.before a0 Z = true) (ws : List Jvm.Cond) (zs : Addr) (zi : Int32) (zb : Int64) (zw : Addr) (zo : Addr) (znw : Nat) (zno : Nat) (zf : Nat → Int64) (zg : Nat → Int64) (h0 : Heap) (n0 : Nat) (Z0 : n0 ≤ h0.size) (E_zs : Exa Z h0 zs "com/example/netloom/netloom/embed/NodeSet") (F_zs_words : Fld Z h0 zs "com/example/netloom/netloom/embed/NodeSet" "words" "[J" (.ref zw)) (F_zs_occupied : Fld Z h0 zs "com/example/netloom/netloom/embed/NodeSet" "occupied" "[J" (.ref zo)) (V_zw : own_LA Z h0 zw znw zf) (V_zo : own_LA Z h0 zo zno zg) (g_zw : n0 ≤ zw) (g_zo : n0 ≤ zo) (ne_zs_zw : zs ≠ zw) (ne_zs_zo : zs ≠ zo) (ne_zw_zo : zw ≠ zo) (hi0 : ¬ (zi < (0 : Int32))) (hi1 : zi.toNatClampNeg < znw) (hi2 : own_ix zi < zno) :
    MetFree l (⟨"com/example/netloom/netloom/embed/NodeSet", "drop", "(IJ)V"⟩ : MethodName) (head1 (Jvm.Cond.code (⟨"com/example/netloom/netloom/embed/NodeSet", "drop", "(IJ)V"⟩ : MethodName) prog_34_method_13_code 4 none :: ws) ({ frames := 0, cells := 0, slots := 0, locals := 0 } : Room)) (fun a U => a = #[(.ref zs), (.int zi), (.long zb)] ∧ Z.Warmed39 U.vm ∧ U.heap = h0) (fun _ _ _ _ _ => True) (fun _ U o U' => ∃ v L, o = .returned v ∧ own_Q7 Z zs zi zb zw zo znw zno zf zg h0 n0 v U'.heap L ∧ FrameEnd U o U' L ({ frames := 0, cells := 0, slots := 0, locals := 0 } : Room).cells ({ frames := 0, cells := 0, slots := 0, locals := 0 } : Room).slots) := by
  refine MetFree.of_bodySF (plainFor_of_name pn_com_example_netloom_netloom_embed_NodeSet) hisR ?_
  intro p e s m args below meth c s₁ Bd hml0 hP hK
  obtain ⟨rfl, hZ, hh⟩ := hP
  have hx := Bd.exec
  have hby := Bd.bytes
  have hml : c.maxLocals = 4 := hml0
  have hown : s.vm.findClass "com/example/netloom/netloom/embed/NodeSet" = some m.cls := findClass_of_methodNamed Bd.named
  have hnm := (name_of_methodNamed Bd.named Bd.method).1
  have X0 : Stand p l e ({ frames := 0, cells := 0, slots := 0, locals := 0 } : Room) s m #[(.ref zs), (.int zi), (.long zb)] below meth c s₁ [] 0 0 := Stand.of_body Bd
  have e0 : s₁.heap = h0 := by rw [← hh, Bd.state]; rfl
  have N0 := Fr.nil n0
  have Zs := Z0
  have K : Keep h0 h0 [zw, zo] := Keep.refl _ _
  show own_Goes p e below s (own_Q7 Z zs zi zb zw zo znw zno zf zg h0 n0) ({ frames := 0, cells := 0, slots := 0, locals := 0 } : Room).cells ({ frames := 0, cells := 0, slots := 0, locals := 0 } : Room).slots _
  refine own_go (B := s₁.setTop (mkF m 0 #[.val (.ref zs), .val (.int zi), .val (.long zb), .second] [])) (fun t k => castTop (ef_7 m zs zi zb) k) ?_
  refine own_go (B := s₁.setTop (mkF m 1 #[.val (.ref zs), .val (.int zi), .val (.long zb), .second] [(.ref zs)])) (fun t k => XS.aloadN X0.here hx rfl (Jvm.hb hby d7_0) rfl rfl k) ?_
  obtain ⟨T13, X13, e13, st13⟩ := getF X0 hx hZ hown (host := "") (Or.inl (own_w hw 11 rfl)) Via.refl e0 F_zs_words (g := (mkF m 1 #[.val (.ref zs), .val (.int zi), .val (.long zb), .second] [(.ref zs)])) rfl rfl (Jvm.hb hby d7_1)
  refine own_go (B := T13.setTop (mkF m 4 #[.val (.ref zs), .val (.int zi), .val (.long zb), .second] [(.ref zw)])) (fun t k => st13 _ k) ?_
  refine own_go (B := T13.setTop (mkF m 5 #[.val (.ref zs), .val (.int zi), .val (.long zb), .second] [(.int zi), (.ref zw)])) (fun t k => XS.iloadN X13.here hx rfl (Jvm.hb hby d7_4) rfl k) ?_
  refine own_go (B := T13.setTop (mkF m 6 #[.val (.ref zs), .val (.int zi), .val (.long zb), .second] [(.int zi), (.ref zw), (.int zi), (.ref zw)])) (fun t k => XT.dup2 X13.here hx rfl (Jvm.hb hby d7_5) rfl rfl rfl k) ?_
  refine own_go (B := T13.setTop (mkF m 7 #[.val (.ref zs), .val (.int zi), .val (.long zb), .second] [(.long (zf zi.toNatClampNeg)), (.int zi), (.ref zw)])) (fun t k => own_laload X13 hx hZ e13 V_zw (j := zi) (k := zi.toNatClampNeg) hi0 rfl hi1 (Jvm.hb hby d7_6) t k) ?_
  refine own_go (B := T13.setTop (mkF m 8 #[.val (.ref zs), .val (.int zi), .val (.long zb), .second] [(.long zb), (.long (zf zi.toNatClampNeg)), (.int zi), (.ref zw)])) (fun t k => XS.lloadN X13.here hx rfl (Jvm.hb hby d7_7) rfl k) ?_
  refine own_go (B := T13.setTop (mkF m 11 #[.val (.ref zs), .val (.int zi), .val (.long zb), .second] [(.long (-1 : Int64)), (.long zb), (.long (zf zi.toNatClampNeg)), (.int zi), (.ref zw)])) (fun t k => X13.ldc2Long hx hown (mvT hZ (own_w hw 38 rfl)) (g := (mkF m 8 #[.val (.ref zs), .val (.int zi), .val (.long zb), .second] [(.long zb), (.long (zf zi.toNatClampNeg)), (.int zi), (.ref zw)])) rfl (Jvm.hb hby d7_8) _ k) ?_
  refine own_go (B := T13.setTop (mkF m 12 #[.val (.ref zs), .val (.int zi), .val (.long zb), .second] [(.long (zb ^^^ (-1 : Int64))), (.long (zf zi.toNatClampNeg)), (.int zi), (.ref zw)])) (fun t k => XS.lxor X13.here hx rfl (Jvm.hb hby d7_11) rfl k) ?_
  refine own_go (B := T13.setTop (mkF m 13 #[.val (.ref zs), .val (.int zi), .val (.long zb), .second] [(.long ((zf zi.toNatClampNeg) &&& (zb ^^^ (-1 : Int64)))), (.int zi), (.ref zw)])) (fun t k => XS.land X13.here hx rfl (Jvm.hb hby d7_12) rfl k) ?_
  obtain ⟨T14, h14, X14, e14, W14, V14, st14⟩ := own_lastore X13 hx hZ e13 V_zw (j := zi) (k := zi.toNatClampNeg) hi0 rfl hi1 (g := (mkF m 13 #[.val (.ref zs), .val (.int zi), .val (.long zb), .second] [(.long ((zf zi.toNatClampNeg) &&& (zb ^^^ (-1 : Int64)))), (.int zi), (.ref zw)])) rfl rfl (Jvm.hb hby d7_13)
  have N14 := Fr.snoc X14 N0 g_zw
  have E_zs := E_zs.wr W14
  have F_zs_words := F_zs_words.other W14 (Or.inl ne_zs_zw)
  have F_zs_occupied := F_zs_occupied.other W14 (Or.inl ne_zs_zw)
  have V_zo := V_zo.other W14 (Ne.symm ne_zw_zo)
  have K := K.wr W14 (Or.inl (List.mem_of_getElem? (i := 0) rfl))
  have Zs := Nat.le_trans Zs (Keep.of_wr W14).1
  have V_zw := V14
  refine own_go (B := T14.setTop (mkF m 14 #[.val (.ref zs), .val (.int zi), .val (.long zb), .second] [])) (fun t k => st14 _ k) ?_
  refine own_go (B := T14.setTop (mkF m 15 #[.val (.ref zs), .val (.int zi), .val (.long zb), .second] [(.ref zs)])) (fun t k => XS.aloadN X14.here hx rfl (Jvm.hb hby d7_14) rfl rfl k) ?_
  obtain ⟨T15, X15, e15, st15⟩ := getF X14 hx hZ hown (host := "") (Or.inl (own_w hw 11 rfl)) Via.refl e14 F_zs_words (g := (mkF m 15 #[.val (.ref zs), .val (.int zi), .val (.long zb), .second] [(.ref zs)])) rfl rfl (Jvm.hb hby d7_15)
  refine own_go (B := T15.setTop (mkF m 18 #[.val (.ref zs), .val (.int zi), .val (.long zb), .second] [(.ref zw)])) (fun t k => st15 _ k) ?_
  refine own_go (B := T15.setTop (mkF m 19 #[.val (.ref zs), .val (.int zi), .val (.long zb), .second] [(.int zi), (.ref zw)])) (fun t k => XS.iloadN X15.here hx rfl (Jvm.hb hby d7_18) rfl k) ?_
  refine own_go (B := T15.setTop (mkF m 20 #[.val (.ref zs), .val (.int zi), .val (.long zb), .second] [(.long ((own_upd zf zi.toNatClampNeg ((zf zi.toNatClampNeg) &&& (zb ^^^ (-1 : Int64)))) zi.toNatClampNeg))])) (fun t k => own_laload X15 hx hZ e15 V_zw (j := zi) (k := zi.toNatClampNeg) hi0 rfl hi1 (Jvm.hb hby d7_19) t k) ?_
  refine own_go (B := T15.setTop (mkF m 21 #[.val (.ref zs), .val (.int zi), .val (.long zb), .second] [(.long (0 : Int64)), (.long ((own_upd zf zi.toNatClampNeg ((zf zi.toNatClampNeg) &&& (zb ^^^ (-1 : Int64)))) zi.toNatClampNeg))])) (fun t k => XS.lconst X15.here hx rfl (Jvm.hb hby d7_20) k) ?_
  refine own_go (B := T15.setTop (mkF m 22 #[.val (.ref zs), .val (.int zi), .val (.long zb), .second] [(.int (lcmpW ((own_upd zf zi.toNatClampNeg ((zf zi.toNatClampNeg) &&& (zb ^^^ (-1 : Int64)))) zi.toNatClampNeg) (0 : Int64)))])) (fun t k => XS.lcmp X15.here hx rfl (Jvm.hb hby d7_21) rfl k) ?_
  by_cases hc22_16 : ((own_upd zf zi.toNatClampNeg ((zf zi.toNatClampNeg) &&& (zb ^^^ (-1 : Int64)))) zi.toNatClampNeg) = (0 : Int64)
  · refine own_go (B := T15.setTop (mkF m 25 #[.val (.ref zs), .val (.int zi), .val (.long zb), .second] [])) (fun t k => XS.ifNo X15.here hx rfl (Jvm.hb hby d7_22) rfl ((if0 _ _).trans (teq ((lw_eq ((own_upd zf zi.toNatClampNeg ((zf zi.toNatClampNeg) &&& (zb ^^^ (-1 : Int64)))) zi.toNatClampNeg) (0 : Int64)).mpr hc22_16)).2) k) ?_
    refine own_go (B := T15.setTop (mkF m 26 #[.val (.ref zs), .val (.int zi), .val (.long zb), .second] [(.ref zs)])) (fun t k => XS.aloadN X15.here hx rfl (Jvm.hb hby d7_25) rfl rfl k) ?_
    obtain ⟨T17, X17, e17, st17⟩ := getF X15 hx hZ hown (host := "") (Or.inl (own_w hw 13 rfl)) Via.refl e15 F_zs_occupied (g := (mkF m 26 #[.val (.ref zs), .val (.int zi), .val (.long zb), .second] [(.ref zs)])) rfl rfl (Jvm.hb hby d7_26)
    refine own_go (B := T17.setTop (mkF m 29 #[.val (.ref zs), .val (.int zi), .val (.long zb), .second] [(.ref zo)])) (fun t k => st17 _ k) ?_
    refine own_go (B := T17.setTop (mkF m 30 #[.val (.ref zs), .val (.int zi), .val (.long zb), .second] [(.int zi), (.ref zo)])) (fun t k => XS.iloadN X17.here hx rfl (Jvm.hb hby d7_29) rfl k) ?_
    refine own_go (B := T17.setTop (mkF m 32 #[.val (.ref zs), .val (.int zi), .val (.long zb), .second] [(.int (64 : Int32)), (.int zi), (.ref zo)])) (fun t k => XS.bipush X17.here hx rfl (Jvm.hb hby d7_30) k) ?_
    refine own_go (B := T17.setTop (mkF m 33 #[.val (.ref zs), .val (.int zi), .val (.long zb), .second] [(.int (zi / (64 : Int32))), (.ref zo)])) (fun t k => XS.idiv X17.here hx rfl (Jvm.hb hby d7_32) rfl (by decide) k) ?_
    refine own_go (B := T17.setTop (mkF m 34 #[.val (.ref zs), .val (.int zi), .val (.long zb), .second] [(.int (zi / (64 : Int32))), (.ref zo), (.int (zi / (64 : Int32))), (.ref zo)])) (fun t k => XT.dup2 X17.here hx rfl (Jvm.hb hby d7_33) rfl rfl rfl k) ?_
    refine own_go (B := T17.setTop (mkF m 35 #[.val (.ref zs), .val (.int zi), .val (.long zb), .second] [(.long (zg (own_ix zi))), (.int (zi / (64 : Int32))), (.ref zo)])) (fun t k => own_laload X17 hx hZ e17 V_zo (j := (zi / (64 : Int32))) (k := (own_ix zi)) (by rw [own_nn] at *; have := own_d64 zi hi0; omega) rfl hi2 (Jvm.hb hby d7_34) t k) ?_
    refine own_go (B := T17.setTop (mkF m 36 #[.val (.ref zs), .val (.int zi), .val (.long zb), .second] [(.long (1 : Int64)), (.long (zg (own_ix zi))), (.int (zi / (64 : Int32))), (.ref zo)])) (fun t k => XS.lconst X17.here hx rfl (Jvm.hb hby d7_35) k) ?_
    refine own_go (B := T17.setTop (mkF m 37 #[.val (.ref zs), .val (.int zi), .val (.long zb), .second] [(.int zi), (.long (1 : Int64)), (.long (zg (own_ix zi))), (.int (zi / (64 : Int32))), (.ref zo)])) (fun t k => XS.iloadN X17.here hx rfl (Jvm.hb hby d7_36) rfl k) ?_
    refine own_go (B := T17.setTop (mkF m 38 #[.val (.ref zs), .val (.int zi), .val (.long zb), .second] [(.long ((1 : Int64) <<< (zi &&& 0x3f).toInt64)), (.long (zg (own_ix zi))), (.int (zi / (64 : Int32))), (.ref zo)])) (fun t k => XS.lshl X17.here hx rfl (Jvm.hb hby d7_37) rfl k) ?_
    refine own_go (B := T17.setTop (mkF m 41 #[.val (.ref zs), .val (.int zi), .val (.long zb), .second] [(.long (-1 : Int64)), (.long ((1 : Int64) <<< (zi &&& 0x3f).toInt64)), (.long (zg (own_ix zi))), (.int (zi / (64 : Int32))), (.ref zo)])) (fun t k => X17.ldc2Long hx hown (mvT hZ (own_w hw 38 rfl)) (g := (mkF m 38 #[.val (.ref zs), .val (.int zi), .val (.long zb), .second] [(.long ((1 : Int64) <<< (zi &&& 0x3f).toInt64)), (.long (zg (own_ix zi))), (.int (zi / (64 : Int32))), (.ref zo)])) rfl (Jvm.hb hby d7_38) _ k) ?_
    refine own_go (B := T17.setTop (mkF m 42 #[.val (.ref zs), .val (.int zi), .val (.long zb), .second] [(.long (((1 : Int64) <<< (zi &&& 0x3f).toInt64) ^^^ (-1 : Int64))), (.long (zg (own_ix zi))), (.int (zi / (64 : Int32))), (.ref zo)])) (fun t k => XS.lxor X17.here hx rfl (Jvm.hb hby d7_41) rfl k) ?_
    refine own_go (B := T17.setTop (mkF m 43 #[.val (.ref zs), .val (.int zi), .val (.long zb), .second] [(.long ((zg (own_ix zi)) &&& (((1 : Int64) <<< (zi &&& 0x3f).toInt64) ^^^ (-1 : Int64)))), (.int (zi / (64 : Int32))), (.ref zo)])) (fun t k => XS.land X17.here hx rfl (Jvm.hb hby d7_42) rfl k) ?_
    obtain ⟨T18, h18, X18, e18, W18, V18, st18⟩ := own_lastore X17 hx hZ e17 V_zo (j := (zi / (64 : Int32))) (k := (own_ix zi)) (by rw [own_nn] at *; have := own_d64 zi hi0; omega) rfl hi2 (g := (mkF m 43 #[.val (.ref zs), .val (.int zi), .val (.long zb), .second] [(.long ((zg (own_ix zi)) &&& (((1 : Int64) <<< (zi &&& 0x3f).toInt64) ^^^ (-1 : Int64)))), (.int (zi / (64 : Int32))), (.ref zo)])) rfl rfl (Jvm.hb hby d7_43)
    have N18 := Fr.snoc X18 N14 g_zo
    have E_zs := E_zs.wr W18
    have F_zs_words := F_zs_words.other W18 (Or.inl ne_zs_zo)
    have F_zs_occupied := F_zs_occupied.other W18 (Or.inl ne_zs_zo)
    have V_zw := V_zw.other W18 ne_zw_zo
    have K := K.wr W18 (Or.inl (List.mem_of_getElem? (i := 1) rfl))
    have Zs := Nat.le_trans Zs (Keep.of_wr W18).1
    have V_zo := V18
    refine own_go (B := T18.setTop (mkF m 44 #[.val (.ref zs), .val (.int zi), .val (.long zb), .second] [])) (fun t k => st18 _ k) ?_
    refine own_out X18 (v := none) (fun _ => rfl) Bd.notSynchronized (fun fs hr => X18.returnOut hx Bd.returns (Jvm.hb hby d7_44) hr) ?_ (by decide) (by decide)
    show own_Q7 Z zs zi zb zw zo znw zno zf zg h0 n0 none T18.heap _
    rw [e18]
    exact ⟨rfl, N18, K, V_zw, (by rw [if_pos hc22_16]; exact V_zo)⟩
  · refine own_go (B := T15.setTop (mkF m 44 #[.val (.ref zs), .val (.int zi), .val (.long zb), .second] [])) (fun t k => XS.ifYes X15.here hx rfl (pc0 := 22) (pc' := 44) rfl (Jvm.hb hby d7_22) rfl ((if0 _ _).trans (feq (mt (lw_eq ((own_upd zf zi.toNatClampNeg ((zf zi.toNatClampNeg) &&& (zb ^^^ (-1 : Int64)))) zi.toNatClampNeg) (0 : Int64)).mp hc22_16)).2) (by decide) (by decide) k) ?_
    refine own_out X15 (v := none) (fun _ => rfl) Bd.notSynchronized (fun fs hr => X15.returnOut hx Bd.returns (Jvm.hb hby d7_44) hr) ?_ (by decide) (by decide)
    show own_Q7 Z zs zi zb zw zo znw zno zf zg h0 n0 none T15.heap _
    rw [e15]
    exact ⟨rfl, N14, K, V_zw, (by rw [if_neg hc22_16]; exact V_zo)⟩
theorem d6_0 : decode prog_34_method_4_code 0 = .ok (.aload_n 0, 1) := by decide +kernel
theorem d6_1 : decode prog_34_method_4_code 1 = .ok (.iload_n 1, 1) := by decide +kernel
theorem d6_2 : decode prog_34_method_4_code 2 = .ok (.bipush 64, 2) := by decide +kernel
theorem d6_4 : decode prog_34_method_4_code 4 = .ok (.idiv, 1) := by decide +kernel
theorem d6_5 : decode prog_34_method_4_code 5 = .ok (.lconst 1, 1) := by decide +kernel
theorem d6_6 : decode prog_34_method_4_code 6 = .ok (.iload_n 1, 1) := by decide +kernel
theorem d6_7 : decode prog_34_method_4_code 7 = .ok (.lshl, 1) := by decide +kernel
theorem d6_8 : decode prog_34_method_4_code 8 = .ok (.invokevirtual 16, 3) := by decide +kernel
theorem d6_11 : decode prog_34_method_4_code 11 = .ok (.return_, 1) := by decide +kernel
theorem pd_0 : parseMethodDescriptor "(IJ)V" = some ⟨[.int, .long], none⟩ := by decide +kernel
theorem ef_6 (m : MethodId) (x0 : Addr) (x1 : Int32) : entryFrame m #[(.ref x0), (.int x1)] 2 = mkF m 0 #[.val (.ref x0), .val (.int x1)] [] := by first | (simp [entryFrame, mkF, argsToLocals, Value.category]; done) | rfl
def own_Q6 (Z : State) (zs : Addr) (zx : Int32) (zw : Addr) (zo : Addr) (znw : Nat) (zno : Nat) (zf : Nat → Int64) (zg : Nat → Int64) (h0 : Heap) (n0 : Nat) (v : Option Value) (h : Heap) (L : List Loc) : Prop := v = none ∧ Fr n0 L ∧ Keep h0 h [zw, zo] ∧ own_LA Z h zw znw (own_upd zf (own_ix zx) (zf (own_ix zx) &&& (own_bt zx ^^^ (-1 : Int64)))) ∧ own_LA Z h zo zno (if (own_upd zf (own_ix zx) (zf (own_ix zx) &&& (own_bt zx ^^^ (-1 : Int64)))) (own_ix zx) = (0 : Int64) then own_upd zg (own_ix (zx / (64 : Int32))) (zg (own_ix (zx / (64 : Int32))) &&& (own_bt (zx / (64 : Int32)) ^^^ (-1 : Int64))) else zg)
set_option maxRecDepth 65536 in
set_option maxHeartbeats 40000000 in
theorem rm6 (l : Launch) (Z : State) (a0 : Array Value) (hw : ∀ d ∈ tables_1, d.before a0 Z = true) (ws : List Jvm.Cond) (zs : Addr) (zx : Int32) (zw : Addr) (zo : Addr) (znw : Nat) (zno : Nat) (zf : Nat → Int64) (zg : Nat → Int64) (h0 : Heap) (n0 : Nat) (Z0 : n0 ≤ h0.size) (E_zs : Exa Z h0 zs "com/example/netloom/netloom/embed/NodeSet") (F_zs_words : Fld Z h0 zs "com/example/netloom/netloom/embed/NodeSet" "words" "[J" (.ref zw)) (F_zs_occupied : Fld Z h0 zs "com/example/netloom/netloom/embed/NodeSet" "occupied" "[J" (.ref zo)) (V_zw : own_LA Z h0 zw znw zf) (V_zo : own_LA Z h0 zo zno zg) (g_zw : n0 ≤ zw) (g_zo : n0 ≤ zo) (ne_zs_zw : zs ≠ zw) (ne_zs_zo : zs ≠ zo) (ne_zw_zo : zw ≠ zo) (hx0 : ¬ (zx < (0 : Int32))) (hi : own_ix zx < znw) (ho : own_ix (zx / (64 : Int32)) < zno) :
    MetFree l (⟨"com/example/netloom/netloom/embed/NodeSet", "remove", "(I)V"⟩ : MethodName) (head1 (Jvm.Cond.code (⟨"com/example/netloom/netloom/embed/NodeSet", "remove", "(I)V"⟩ : MethodName) prog_34_method_4_code 2 none :: ws) ({ frames := 1, cells := 0, slots := 0, locals := 15 } : Room)) (fun a U => a = #[(.ref zs), (.int zx)] ∧ Z.Warmed39 U.vm ∧ U.heap = h0) (fun _ _ _ _ _ => True) (fun _ U o U' => ∃ v L, o = .returned v ∧ own_Q6 Z zs zx zw zo znw zno zf zg h0 n0 v U'.heap L ∧ FrameEnd U o U' L ({ frames := 1, cells := 0, slots := 0, locals := 15 } : Room).cells ({ frames := 1, cells := 0, slots := 0, locals := 15 } : Room).slots) := by
  refine MetFree.of_bodySF (plainFor_of_name pn_com_example_netloom_netloom_embed_NodeSet) hisR ?_
  intro p e s m args below meth c s₁ Bd hml0 hP hK
  obtain ⟨rfl, hZ, hh⟩ := hP
  have hx := Bd.exec
  have hby := Bd.bytes
  have hml : c.maxLocals = 2 := hml0
  have hown : s.vm.findClass "com/example/netloom/netloom/embed/NodeSet" = some m.cls := findClass_of_methodNamed Bd.named
  have hnm := (name_of_methodNamed Bd.named Bd.method).1
  have X0 : Stand p l e ({ frames := 1, cells := 0, slots := 0, locals := 15 } : Room) s m #[(.ref zs), (.int zx)] below meth c s₁ [] 0 0 := Stand.of_body Bd
  have e0 : s₁.heap = h0 := by rw [← hh, Bd.state]; rfl
  have N0 := Fr.nil n0
  have Zs := Z0
  have K : Keep h0 h0 [zw, zo] := Keep.refl _ _
  show own_Goes p e below s (own_Q6 Z zs zx zw zo znw zno zf zg h0 n0) ({ frames := 1, cells := 0, slots := 0, locals := 15 } : Room).cells ({ frames := 1, cells := 0, slots := 0, locals := 15 } : Room).slots _
  refine own_go (B := s₁.setTop (mkF m 0 #[.val (.ref zs), .val (.int zx)] [])) (fun t k => castTop (ef_6 m zs zx) k) ?_
  refine own_go (B := s₁.setTop (mkF m 1 #[.val (.ref zs), .val (.int zx)] [(.ref zs)])) (fun t k => XS.aloadN X0.here hx rfl (Jvm.hb hby d6_0) rfl rfl k) ?_
  refine own_go (B := s₁.setTop (mkF m 2 #[.val (.ref zs), .val (.int zx)] [(.int zx), (.ref zs)])) (fun t k => XS.iloadN X0.here hx rfl (Jvm.hb hby d6_1) rfl k) ?_
  refine own_go (B := s₁.setTop (mkF m 4 #[.val (.ref zs), .val (.int zx)] [(.int (64 : Int32)), (.int zx), (.ref zs)])) (fun t k => XS.bipush X0.here hx rfl (Jvm.hb hby d6_2) k) ?_
  refine own_go (B := s₁.setTop (mkF m 5 #[.val (.ref zs), .val (.int zx)] [(.int (zx / (64 : Int32))), (.ref zs)])) (fun t k => XS.idiv X0.here hx rfl (Jvm.hb hby d6_4) rfl (by decide) k) ?_
  refine own_go (B := s₁.setTop (mkF m 6 #[.val (.ref zs), .val (.int zx)] [(.long (1 : Int64)), (.int (zx / (64 : Int32))), (.ref zs)])) (fun t k => XS.lconst X0.here hx rfl (Jvm.hb hby d6_5) k) ?_
  refine own_go (B := s₁.setTop (mkF m 7 #[.val (.ref zs), .val (.int zx)] [(.int zx), (.long (1 : Int64)), (.int (zx / (64 : Int32))), (.ref zs)])) (fun t k => XS.iloadN X0.here hx rfl (Jvm.hb hby d6_6) rfl k) ?_
  refine own_go (B := s₁.setTop (mkF m 8 #[.val (.ref zs), .val (.int zx)] [(.long ((1 : Int64) <<< (zx &&& 0x3f).toInt64)), (.int (zx / (64 : Int32))), (.ref zs)])) (fun t k => XS.lshl X0.here hx rfl (Jvm.hb hby d6_7) rfl k) ?_
  obtain ⟨cq19, q19, q19'⟩ := E_zs.cell
  obtain ⟨_, _, ⟨T19, La19, ka19, na19⟩, -, X19, ⟨Lc19, hQ19, l19, y19, z19⟩, st19⟩ := X0.privateBack hx (y := (⟨"com/example/netloom/netloom/embed/NodeSet", "drop", "(IJ)V"⟩ : MethodName)) hown (mvT hZ (own_w hw 34 rfl)) (mvT hZ (own_w hw 35 rfl)) (own_selP (y' := (⟨"com/example/netloom/netloom/embed/NodeSet", "add", "(I)V"⟩ : MethodName)) (mvT hZ (own_w hw 18 rfl)) rfl (Cond.privateMethod_at (mvP hZ (own_w hw 36 rfl) (args := #[]))) (mvT hZ (own_w hw 35 rfl)) (by decide)) (Cond.privateMethod_at (mvP hZ (own_w hw 36 rfl) (args := #[]))) (mvT hZ (own_w hw 37 rfl)) (by decide) (backOf (W := 0) (rm7 l Z a0 hw [] zs (zx / (64 : Int32)) ((1 : Int64) <<< (zx &&& 0x3f).toInt64) zw zo znw zno zf zg h0 n0 Zs E_zs F_zs_words F_zs_occupied V_zw V_zo g_zw g_zo ne_zs_zw ne_zs_zo ne_zw_zo (by rw [own_nn] at *; have := own_d64 zx hx0; omega) hi ho) hZ (own_w hw 37 rfl) (own_w hw 3 rfl) (by decide) (by decide)) (g := (mkF m 8 #[.val (.ref zs), .val (.int zx)] [(.long ((1 : Int64) <<< (zx &&& 0x3f).toInt64)), (.int (zx / (64 : Int32))), (.ref zs)])) rfl (by rw [hml]; rfl) (Steps.refl _) (a := zs) (by rw [e0]; exact q19) q19' (argsL := [(.int (zx / (64 : Int32))), (.long ((1 : Int64) <<< (zx &&& 0x3f).toInt64))]) (rest := []) (lenOf pd_0 rfl) rfl (by show 2 * 0 + _ ≤ _; exact Nat.le_of_eq rfl) (Jvm.hb hby d6_8) (fun _ _ => ⟨rfl, e0, (by decide : 0 + 0 ≤ _), (by decide : 0 + 0 ≤ _)⟩)
  dsimp only [Pt.U, Pt.locs, Pt.cells, Pt.slots] at X19 l19 y19 z19 st19 hQ19
  subst l19 y19 z19
  obtain ⟨rfl, N19q, Kc19, V_zw_q, V_zo_q⟩ := hQ19
  have N19 := Fr.app N0 N19q
  have E_zs := E_zs.keep Kc19
  have F_zs_words := F_zs_words.keep Kc19 (ninS ne_zs_zw (ninS ne_zs_zo nin0))
  have F_zs_occupied := F_zs_occupied.keep Kc19 (ninS ne_zs_zw (ninS ne_zs_zo nin0))
  have K := K.trans Kc19 (allS (Or.inl (List.mem_of_getElem? (i := 0) rfl)) (allS (Or.inl (List.mem_of_getElem? (i := 1) rfl)) all0))
  have Zs := Nat.le_trans Zs Kc19.1
  have V_zw := V_zw_q
  have V_zo := V_zo_q
  refine own_go (B := T19.setTop (mkF m 11 #[.val (.ref zs), .val (.int zx)] [])) (fun t k => own_st st19 k) ?_
  refine own_out X19 (v := none) (fun _ => rfl) Bd.notSynchronized (fun fs hr => X19.returnOut hx Bd.returns (Jvm.hb hby d6_11) hr) ?_ (by decide) (by decide)
  show own_Q6 Z zs zx zw zo znw zno zf zg h0 n0 none T19.heap _
  exact ⟨rfl, N19, K, V_zw, V_zo⟩
def own_f5 (x1 : Int32) (a1 : Int32) (b1 : Int32) (c1 : Int32) (d1 : Int32) (e1 : Int32) (g1 : Int32) : Int32 := (if d1 = (0 : Int32) then (if e1 = (0 : Int32) then (if g1 = (0 : Int32) then (0 : Int32) else (if x1 = c1 then (0 : Int32) else (0 : Int32))) else (if x1 = b1 then (if g1 = (0 : Int32) then (1 : Int32) else (if x1 = c1 then (0 : Int32) else (1 : Int32))) else (if g1 = (0 : Int32) then (0 : Int32) else (if x1 = c1 then (0 : Int32) else (0 : Int32))))) else (if x1 = a1 then (if g1 = (0 : Int32) then (1 : Int32) else (if x1 = c1 then (0 : Int32) else (1 : Int32))) else (if e1 = (0 : Int32) then (if g1 = (0 : Int32) then (0 : Int32) else (if x1 = c1 then (0 : Int32) else (0 : Int32))) else (if x1 = b1 then (if g1 = (0 : Int32) then (1 : Int32) else (if x1 = c1 then (0 : Int32) else (1 : Int32))) else (if g1 = (0 : Int32) then (0 : Int32) else (if x1 = c1 then (0 : Int32) else (0 : Int32)))))))
theorem pn_com_example_netloom_netloom_embed_NodeSetContainsPinLaw : plainName "com/example/netloom/netloom/embed/NodeSetContainsPinLaw" = true := by first | (simp [plainName, overriddenIn]; done) | decide +kernel
theorem d5_0 : decode method_2_code 0 = .ok (.iload 4, 2) := by decide +kernel
theorem d5_2 : decode method_2_code 2 = .ok (.ifCond .eq 8, 3) := by decide +kernel
theorem d5_5 : decode method_2_code 5 = .ok (.iload_n 0, 1) := by decide +kernel
theorem d5_6 : decode method_2_code 6 = .ok (.iload_n 1, 1) := by decide +kernel
theorem d5_7 : decode method_2_code 7 = .ok (.if_icmp .eq 13, 3) := by decide +kernel
theorem d5_10 : decode method_2_code 10 = .ok (.iload 5, 2) := by decide +kernel
theorem d5_12 : decode method_2_code 12 = .ok (.ifCond .eq 12, 3) := by decide +kernel
theorem d5_15 : decode method_2_code 15 = .ok (.iload_n 0, 1) := by decide +kernel
theorem d5_16 : decode method_2_code 16 = .ok (.iload_n 2, 1) := by decide +kernel
theorem d5_17 : decode method_2_code 17 = .ok (.if_icmp .ne 7, 3) := by decide +kernel
theorem d5_20 : decode method_2_code 20 = .ok (.iconst 1, 1) := by decide +kernel
theorem d5_21 : decode method_2_code 21 = .ok (.goto 4, 3) := by decide +kernel
theorem d5_24 : decode method_2_code 24 = .ok (.iconst 0, 1) := by decide +kernel
theorem d5_25 : decode method_2_code 25 = .ok (.istore 7, 2) := by decide +kernel
theorem d5_27 : decode method_2_code 27 = .ok (.iload 6, 2) := by decide +kernel
theorem d5_29 : decode method_2_code 29 = .ok (.ifCond .eq 12, 3) := by decide +kernel
theorem d5_32 : decode method_2_code 32 = .ok (.iload_n 0, 1) := by decide +kernel
theorem d5_33 : decode method_2_code 33 = .ok (.iload_n 3, 1) := by decide +kernel
theorem d5_34 : decode method_2_code 34 = .ok (.if_icmp .ne 7, 3) := by decide +kernel
theorem d5_37 : decode method_2_code 37 = .ok (.iconst 1, 1) := by decide +kernel
theorem d5_38 : decode method_2_code 38 = .ok (.goto 4, 3) := by decide +kernel
theorem d5_41 : decode method_2_code 41 = .ok (.iconst 0, 1) := by decide +kernel
theorem d5_42 : decode method_2_code 42 = .ok (.istore 8, 2) := by decide +kernel
theorem d5_44 : decode method_2_code 44 = .ok (.iload 7, 2) := by decide +kernel
theorem d5_46 : decode method_2_code 46 = .ok (.ifCond .eq 12, 3) := by decide +kernel
theorem d5_49 : decode method_2_code 49 = .ok (.iload 8, 2) := by decide +kernel
theorem d5_51 : decode method_2_code 51 = .ok (.ifCond .ne 7, 3) := by decide +kernel
theorem d5_54 : decode method_2_code 54 = .ok (.iconst 1, 1) := by decide +kernel
theorem d5_55 : decode method_2_code 55 = .ok (.goto 4, 3) := by decide +kernel
theorem d5_58 : decode method_2_code 58 = .ok (.iconst 0, 1) := by decide +kernel
theorem d5_59 : decode method_2_code 59 = .ok (.ireturn, 1) := by decide +kernel
theorem ef_5 (m : MethodId) (x0 : Int32) (x1 : Int32) (x2 : Int32) (x3 : Int32) (x4 : Int32) (x5 : Int32) (x6 : Int32) : entryFrame m #[(.int x0), (.int x1), (.int x2), (.int x3), (.int x4), (.int x5), (.int x6)] 9 = mkF m 0 #[.val (.int x0), .val (.int x1), .val (.int x2), .val (.int x3), .val (.int x4), .val (.int x5), .val (.int x6), .unset, .unset] [] := by first | (simp [entryFrame, mkF, argsToLocals, Value.category]; done) | rfl
def own_Q5 (Z : State) (x1 : Int32) (a1 : Int32) (b1 : Int32) (c1 : Int32) (d1 : Int32) (e1 : Int32) (g1 : Int32) (h0 : Heap) (n0 : Nat) (v : Option Value) (h : Heap) (L : List Loc) : Prop := v = some (.int (own_f5 x1 a1 b1 c1 d1 e1 g1)) ∧ Fr n0 L ∧ h = h0
set_option maxRecDepth 65536 in
set_option maxHeartbeats 40000000 in
theorem rm5 (l : Launch) (Z : State) (a0 : Array Value) (hw : ∀ d ∈ tables_1, d.before a0 Z = true) (ws : List Jvm.Cond) (x1 : Int32) (a1 : Int32) (b1 : Int32) (c1 : Int32) (d1 : Int32) (e1 : Int32) (g1 : Int32) (h0 : Heap) (n0 : Nat) (Z0 : n0 ≤ h0.size)  :
    MetFree l (⟨"com/example/netloom/netloom/embed/NodeSetContainsPinLaw", "expected", "(IIIIZZZ)Z"⟩ : MethodName) (head1 (Jvm.Cond.code (⟨"com/example/netloom/netloom/embed/NodeSetContainsPinLaw", "expected", "(IIIIZZZ)Z"⟩ : MethodName) method_2_code 9 (some .boolean) :: ws) ({ frames := 0, cells := 0, slots := 0, locals := 0 } : Room)) (fun a U => a = #[(.int x1), (.int a1), (.int b1), (.int c1), (.int d1), (.int e1), (.int g1)] ∧ Z.Warmed39 U.vm ∧ U.heap = h0) (fun _ _ _ _ _ => True) (fun _ U o U' => ∃ v L, o = .returned v ∧ own_Q5 Z x1 a1 b1 c1 d1 e1 g1 h0 n0 v U'.heap L ∧ FrameEnd U o U' L ({ frames := 0, cells := 0, slots := 0, locals := 0 } : Room).cells ({ frames := 0, cells := 0, slots := 0, locals := 0 } : Room).slots) := by
  refine MetFree.of_bodySF (plainFor_of_name pn_com_example_netloom_netloom_embed_NodeSetContainsPinLaw) hisR ?_
  intro p e s m args below meth c s₁ Bd hml0 hP hK
  obtain ⟨rfl, hZ, hh⟩ := hP
  have hx := Bd.exec
  have hby := Bd.bytes
  have hml : c.maxLocals = 9 := hml0
  have hown : s.vm.findClass "com/example/netloom/netloom/embed/NodeSetContainsPinLaw" = some m.cls := findClass_of_methodNamed Bd.named
  have hnm := (name_of_methodNamed Bd.named Bd.method).1
  have X0 : Stand p l e ({ frames := 0, cells := 0, slots := 0, locals := 0 } : Room) s m #[(.int x1), (.int a1), (.int b1), (.int c1), (.int d1), (.int e1), (.int g1)] below meth c s₁ [] 0 0 := Stand.of_body Bd
  have e0 : s₁.heap = h0 := by rw [← hh, Bd.state]; rfl
  have N0 := Fr.nil n0
  have Zs := Z0
  show own_Goes p e below s (own_Q5 Z x1 a1 b1 c1 d1 e1 g1 h0 n0) ({ frames := 0, cells := 0, slots := 0, locals := 0 } : Room).cells ({ frames := 0, cells := 0, slots := 0, locals := 0 } : Room).slots _
  refine own_go (B := s₁.setTop (mkF m 0 #[.val (.int x1), .val (.int a1), .val (.int b1), .val (.int c1), .val (.int d1), .val (.int e1), .val (.int g1), .unset, .unset] [])) (fun t k => castTop (ef_5 m x1 a1 b1 c1 d1 e1 g1) k) ?_
  refine own_go (B := s₁.setTop (mkF m 2 #[.val (.int x1), .val (.int a1), .val (.int b1), .val (.int c1), .val (.int d1), .val (.int e1), .val (.int g1), .unset, .unset] [(.int d1)])) (fun t k => XS.iload X0.here hx rfl (Jvm.hb hby d5_0) rfl k) ?_
  by_cases hc2_20 : d1 = (0 : Int32)
  · refine own_go (B := s₁.setTop (mkF m 10 #[.val (.int x1), .val (.int a1), .val (.int b1), .val (.int c1), .val (.int d1), .val (.int e1), .val (.int g1), .unset, .unset] [])) (fun t k => XS.ifYes X0.here hx rfl (pc0 := 2) (pc' := 10) rfl (Jvm.hb hby d5_2) rfl ((if0 _ _).trans (teq hc2_20).1) (by decide) (by decide) k) ?_
    refine own_go (B := s₁.setTop (mkF m 12 #[.val (.int x1), .val (.int a1), .val (.int b1), .val (.int c1), .val (.int d1), .val (.int e1), .val (.int g1), .unset, .unset] [(.int e1)])) (fun t k => XS.iload X0.here hx rfl (Jvm.hb hby d5_10) rfl k) ?_
    by_cases hc12_21 : e1 = (0 : Int32)
    · refine own_go (B := s₁.setTop (mkF m 24 #[.val (.int x1), .val (.int a1), .val (.int b1), .val (.int c1), .val (.int d1), .val (.int e1), .val (.int g1), .unset, .unset] [])) (fun t k => XS.ifYes X0.here hx rfl (pc0 := 12) (pc' := 24) rfl (Jvm.hb hby d5_12) rfl ((if0 _ _).trans (teq hc12_21).1) (by decide) (by decide) k) ?_
      refine own_go (B := s₁.setTop (mkF m 25 #[.val (.int x1), .val (.int a1), .val (.int b1), .val (.int c1), .val (.int d1), .val (.int e1), .val (.int g1), .unset, .unset] [(.int (0 : Int32))])) (fun t k => XS.iconst X0.here hx rfl (Jvm.hb hby d5_24) k) ?_
      refine own_go (B := s₁.setTop (mkF m 27 #[.val (.int x1), .val (.int a1), .val (.int b1), .val (.int c1), .val (.int d1), .val (.int e1), .val (.int g1), .val (.int (0 : Int32)), .unset] [])) (fun t k => XS.istore X0.here hx rfl (Jvm.hb hby d5_25) rfl (l' := #[.val (.int x1), .val (.int a1), .val (.int b1), .val (.int c1), .val (.int d1), .val (.int e1), .val (.int g1), .val (.int (0 : Int32)), .unset]) rfl k) ?_
      refine own_go (B := s₁.setTop (mkF m 29 #[.val (.int x1), .val (.int a1), .val (.int b1), .val (.int c1), .val (.int d1), .val (.int e1), .val (.int g1), .val (.int (0 : Int32)), .unset] [(.int g1)])) (fun t k => XS.iload X0.here hx rfl (Jvm.hb hby d5_27) rfl k) ?_
      by_cases hc29_22 : g1 = (0 : Int32)
      · refine own_go (B := s₁.setTop (mkF m 41 #[.val (.int x1), .val (.int a1), .val (.int b1), .val (.int c1), .val (.int d1), .val (.int e1), .val (.int g1), .val (.int (0 : Int32)), .unset] [])) (fun t k => XS.ifYes X0.here hx rfl (pc0 := 29) (pc' := 41) rfl (Jvm.hb hby d5_29) rfl ((if0 _ _).trans (teq hc29_22).1) (by decide) (by decide) k) ?_
        refine own_go (B := s₁.setTop (mkF m 42 #[.val (.int x1), .val (.int a1), .val (.int b1), .val (.int c1), .val (.int d1), .val (.int e1), .val (.int g1), .val (.int (0 : Int32)), .unset] [(.int (0 : Int32))])) (fun t k => XS.iconst X0.here hx rfl (Jvm.hb hby d5_41) k) ?_
        refine own_go (B := s₁.setTop (mkF m 44 #[.val (.int x1), .val (.int a1), .val (.int b1), .val (.int c1), .val (.int d1), .val (.int e1), .val (.int g1), .val (.int (0 : Int32)), .val (.int (0 : Int32))] [])) (fun t k => XS.istore X0.here hx rfl (Jvm.hb hby d5_42) rfl (l' := #[.val (.int x1), .val (.int a1), .val (.int b1), .val (.int c1), .val (.int d1), .val (.int e1), .val (.int g1), .val (.int (0 : Int32)), .val (.int (0 : Int32))]) rfl k) ?_
        refine own_go (B := s₁.setTop (mkF m 46 #[.val (.int x1), .val (.int a1), .val (.int b1), .val (.int c1), .val (.int d1), .val (.int e1), .val (.int g1), .val (.int (0 : Int32)), .val (.int (0 : Int32))] [(.int (0 : Int32))])) (fun t k => XS.iload X0.here hx rfl (Jvm.hb hby d5_44) rfl k) ?_
        refine own_go (B := s₁.setTop (mkF m 58 #[.val (.int x1), .val (.int a1), .val (.int b1), .val (.int c1), .val (.int d1), .val (.int e1), .val (.int g1), .val (.int (0 : Int32)), .val (.int (0 : Int32))] [])) (fun t k => XS.ifYes X0.here hx rfl (pc0 := 46) (pc' := 58) rfl (Jvm.hb hby d5_46) rfl ((if0 _ _).trans (teq (by decide : (0 : Int32) = (0 : Int32))).1) (by decide) (by decide) k) ?_
        refine own_go (B := s₁.setTop (mkF m 59 #[.val (.int x1), .val (.int a1), .val (.int b1), .val (.int c1), .val (.int d1), .val (.int e1), .val (.int g1), .val (.int (0 : Int32)), .val (.int (0 : Int32))] [(.int (0 : Int32))])) (fun t k => XS.iconst X0.here hx rfl (Jvm.hb hby d5_58) k) ?_
        refine own_out X0 (v := (some (.int (0 : Int32)))) (fun h => by rw [Bd.returns] at h; cases h) Bd.notSynchronized (fun fs hr => retOut X0 hx (t := .boolean) Bd.returns rfl (by first | exact Or.inl ⟨rfl, by simp, _, rfl⟩) (Jvm.hb hby d5_59) hr) ?_ (by decide) (by decide)
        show own_Q5 Z x1 a1 b1 c1 d1 e1 g1 h0 n0 (some (.int (0 : Int32))) s₁.heap _
        rw [e0]
        exact ⟨congrArg (fun z => some (Value.int z)) (by unfold own_f5; simp only [if_pos hc2_20, if_pos hc12_21, if_pos hc29_22]), N0, rfl⟩
      · refine own_go (B := s₁.setTop (mkF m 32 #[.val (.int x1), .val (.int a1), .val (.int b1), .val (.int c1), .val (.int d1), .val (.int e1), .val (.int g1), .val (.int (0 : Int32)), .unset] [])) (fun t k => XS.ifNo X0.here hx rfl (Jvm.hb hby d5_29) rfl ((if0 _ _).trans (feq hc29_22).1) k) ?_
        refine own_go (B := s₁.setTop (mkF m 33 #[.val (.int x1), .val (.int a1), .val (.int b1), .val (.int c1), .val (.int d1), .val (.int e1), .val (.int g1), .val (.int (0 : Int32)), .unset] [(.int x1)])) (fun t k => XS.iloadN X0.here hx rfl (Jvm.hb hby d5_32) rfl k) ?_
        refine own_go (B := s₁.setTop (mkF m 34 #[.val (.int x1), .val (.int a1), .val (.int b1), .val (.int c1), .val (.int d1), .val (.int e1), .val (.int g1), .val (.int (0 : Int32)), .unset] [(.int c1), (.int x1)])) (fun t k => XS.iloadN X0.here hx rfl (Jvm.hb hby d5_33) rfl k) ?_
        by_cases hc34_23 : x1 = c1
        · refine own_go (B := s₁.setTop (mkF m 37 #[.val (.int x1), .val (.int a1), .val (.int b1), .val (.int c1), .val (.int d1), .val (.int e1), .val (.int g1), .val (.int (0 : Int32)), .unset] [])) (fun t k => XS.icmpNo X0.here hx rfl (Jvm.hb hby d5_34) rfl (teq hc34_23).2 k) ?_
          refine own_go (B := s₁.setTop (mkF m 38 #[.val (.int x1), .val (.int a1), .val (.int b1), .val (.int c1), .val (.int d1), .val (.int e1), .val (.int g1), .val (.int (0 : Int32)), .unset] [(.int (1 : Int32))])) (fun t k => XS.iconst X0.here hx rfl (Jvm.hb hby d5_37) k) ?_
          refine own_go (B := s₁.setTop (mkF m 42 #[.val (.int x1), .val (.int a1), .val (.int b1), .val (.int c1), .val (.int d1), .val (.int e1), .val (.int g1), .val (.int (0 : Int32)), .unset] [(.int (1 : Int32))])) (fun t k => XS.goto X0.here hx rfl (pc0 := 38) (pc' := 42) rfl (Jvm.hb hby d5_38) (by decide) (by decide) k) ?_
          refine own_go (B := s₁.setTop (mkF m 44 #[.val (.int x1), .val (.int a1), .val (.int b1), .val (.int c1), .val (.int d1), .val (.int e1), .val (.int g1), .val (.int (0 : Int32)), .val (.int (1 : Int32))] [])) (fun t k => XS.istore X0.here hx rfl (Jvm.hb hby d5_42) rfl (l' := #[.val (.int x1), .val (.int a1), .val (.int b1), .val (.int c1), .val (.int d1), .val (.int e1), .val (.int g1), .val (.int (0 : Int32)), .val (.int (1 : Int32))]) rfl k) ?_
          refine own_go (B := s₁.setTop (mkF m 46 #[.val (.int x1), .val (.int a1), .val (.int b1), .val (.int c1), .val (.int d1), .val (.int e1), .val (.int g1), .val (.int (0 : Int32)), .val (.int (1 : Int32))] [(.int (0 : Int32))])) (fun t k => XS.iload X0.here hx rfl (Jvm.hb hby d5_44) rfl k) ?_
          refine own_go (B := s₁.setTop (mkF m 58 #[.val (.int x1), .val (.int a1), .val (.int b1), .val (.int c1), .val (.int d1), .val (.int e1), .val (.int g1), .val (.int (0 : Int32)), .val (.int (1 : Int32))] [])) (fun t k => XS.ifYes X0.here hx rfl (pc0 := 46) (pc' := 58) rfl (Jvm.hb hby d5_46) rfl ((if0 _ _).trans (teq (by decide : (0 : Int32) = (0 : Int32))).1) (by decide) (by decide) k) ?_
          refine own_go (B := s₁.setTop (mkF m 59 #[.val (.int x1), .val (.int a1), .val (.int b1), .val (.int c1), .val (.int d1), .val (.int e1), .val (.int g1), .val (.int (0 : Int32)), .val (.int (1 : Int32))] [(.int (0 : Int32))])) (fun t k => XS.iconst X0.here hx rfl (Jvm.hb hby d5_58) k) ?_
          refine own_out X0 (v := (some (.int (0 : Int32)))) (fun h => by rw [Bd.returns] at h; cases h) Bd.notSynchronized (fun fs hr => retOut X0 hx (t := .boolean) Bd.returns rfl (by first | exact Or.inl ⟨rfl, by simp, _, rfl⟩) (Jvm.hb hby d5_59) hr) ?_ (by decide) (by decide)
          show own_Q5 Z x1 a1 b1 c1 d1 e1 g1 h0 n0 (some (.int (0 : Int32))) s₁.heap _
          rw [e0]
          exact ⟨congrArg (fun z => some (Value.int z)) (by unfold own_f5; simp only [if_pos hc2_20, if_pos hc12_21, if_neg hc29_22, if_pos hc34_23]), N0, rfl⟩
        · refine own_go (B := s₁.setTop (mkF m 41 #[.val (.int x1), .val (.int a1), .val (.int b1), .val (.int c1), .val (.int d1), .val (.int e1), .val (.int g1), .val (.int (0 : Int32)), .unset] [])) (fun t k => XS.icmpYes X0.here hx rfl (pc0 := 34) (pc' := 41) rfl (Jvm.hb hby d5_34) rfl (feq hc34_23).2 (by decide) (by decide) k) ?_
          refine own_go (B := s₁.setTop (mkF m 42 #[.val (.int x1), .val (.int a1), .val (.int b1), .val (.int c1), .val (.int d1), .val (.int e1), .val (.int g1), .val (.int (0 : Int32)), .unset] [(.int (0 : Int32))])) (fun t k => XS.iconst X0.here hx rfl (Jvm.hb hby d5_41) k) ?_
          refine own_go (B := s₁.setTop (mkF m 44 #[.val (.int x1), .val (.int a1), .val (.int b1), .val (.int c1), .val (.int d1), .val (.int e1), .val (.int g1), .val (.int (0 : Int32)), .val (.int (0 : Int32))] [])) (fun t k => XS.istore X0.here hx rfl (Jvm.hb hby d5_42) rfl (l' := #[.val (.int x1), .val (.int a1), .val (.int b1), .val (.int c1), .val (.int d1), .val (.int e1), .val (.int g1), .val (.int (0 : Int32)), .val (.int (0 : Int32))]) rfl k) ?_
          refine own_go (B := s₁.setTop (mkF m 46 #[.val (.int x1), .val (.int a1), .val (.int b1), .val (.int c1), .val (.int d1), .val (.int e1), .val (.int g1), .val (.int (0 : Int32)), .val (.int (0 : Int32))] [(.int (0 : Int32))])) (fun t k => XS.iload X0.here hx rfl (Jvm.hb hby d5_44) rfl k) ?_
          refine own_go (B := s₁.setTop (mkF m 58 #[.val (.int x1), .val (.int a1), .val (.int b1), .val (.int c1), .val (.int d1), .val (.int e1), .val (.int g1), .val (.int (0 : Int32)), .val (.int (0 : Int32))] [])) (fun t k => XS.ifYes X0.here hx rfl (pc0 := 46) (pc' := 58) rfl (Jvm.hb hby d5_46) rfl ((if0 _ _).trans (teq (by decide : (0 : Int32) = (0 : Int32))).1) (by decide) (by decide) k) ?_
          refine own_go (B := s₁.setTop (mkF m 59 #[.val (.int x1), .val (.int a1), .val (.int b1), .val (.int c1), .val (.int d1), .val (.int e1), .val (.int g1), .val (.int (0 : Int32)), .val (.int (0 : Int32))] [(.int (0 : Int32))])) (fun t k => XS.iconst X0.here hx rfl (Jvm.hb hby d5_58) k) ?_
          refine own_out X0 (v := (some (.int (0 : Int32)))) (fun h => by rw [Bd.returns] at h; cases h) Bd.notSynchronized (fun fs hr => retOut X0 hx (t := .boolean) Bd.returns rfl (by first | exact Or.inl ⟨rfl, by simp, _, rfl⟩) (Jvm.hb hby d5_59) hr) ?_ (by decide) (by decide)
          show own_Q5 Z x1 a1 b1 c1 d1 e1 g1 h0 n0 (some (.int (0 : Int32))) s₁.heap _
          rw [e0]
          exact ⟨congrArg (fun z => some (Value.int z)) (by unfold own_f5; simp only [if_pos hc2_20, if_pos hc12_21, if_neg hc29_22, if_neg hc34_23]), N0, rfl⟩
    · refine own_go (B := s₁.setTop (mkF m 15 #[.val (.int x1), .val (.int a1), .val (.int b1), .val (.int c1), .val (.int d1), .val (.int e1), .val (.int g1), .unset, .unset] [])) (fun t k => XS.ifNo X0.here hx rfl (Jvm.hb hby d5_12) rfl ((if0 _ _).trans (feq hc12_21).1) k) ?_
      refine own_go (B := s₁.setTop (mkF m 16 #[.val (.int x1), .val (.int a1), .val (.int b1), .val (.int c1), .val (.int d1), .val (.int e1), .val (.int g1), .unset, .unset] [(.int x1)])) (fun t k => XS.iloadN X0.here hx rfl (Jvm.hb hby d5_15) rfl k) ?_
      refine own_go (B := s₁.setTop (mkF m 17 #[.val (.int x1), .val (.int a1), .val (.int b1), .val (.int c1), .val (.int d1), .val (.int e1), .val (.int g1), .unset, .unset] [(.int b1), (.int x1)])) (fun t k => XS.iloadN X0.here hx rfl (Jvm.hb hby d5_16) rfl k) ?_
      by_cases hc17_24 : x1 = b1
      · refine own_go (B := s₁.setTop (mkF m 20 #[.val (.int x1), .val (.int a1), .val (.int b1), .val (.int c1), .val (.int d1), .val (.int e1), .val (.int g1), .unset, .unset] [])) (fun t k => XS.icmpNo X0.here hx rfl (Jvm.hb hby d5_17) rfl (teq hc17_24).2 k) ?_
        refine own_go (B := s₁.setTop (mkF m 21 #[.val (.int x1), .val (.int a1), .val (.int b1), .val (.int c1), .val (.int d1), .val (.int e1), .val (.int g1), .unset, .unset] [(.int (1 : Int32))])) (fun t k => XS.iconst X0.here hx rfl (Jvm.hb hby d5_20) k) ?_
        refine own_go (B := s₁.setTop (mkF m 25 #[.val (.int x1), .val (.int a1), .val (.int b1), .val (.int c1), .val (.int d1), .val (.int e1), .val (.int g1), .unset, .unset] [(.int (1 : Int32))])) (fun t k => XS.goto X0.here hx rfl (pc0 := 21) (pc' := 25) rfl (Jvm.hb hby d5_21) (by decide) (by decide) k) ?_
        refine own_go (B := s₁.setTop (mkF m 27 #[.val (.int x1), .val (.int a1), .val (.int b1), .val (.int c1), .val (.int d1), .val (.int e1), .val (.int g1), .val (.int (1 : Int32)), .unset] [])) (fun t k => XS.istore X0.here hx rfl (Jvm.hb hby d5_25) rfl (l' := #[.val (.int x1), .val (.int a1), .val (.int b1), .val (.int c1), .val (.int d1), .val (.int e1), .val (.int g1), .val (.int (1 : Int32)), .unset]) rfl k) ?_
        refine own_go (B := s₁.setTop (mkF m 29 #[.val (.int x1), .val (.int a1), .val (.int b1), .val (.int c1), .val (.int d1), .val (.int e1), .val (.int g1), .val (.int (1 : Int32)), .unset] [(.int g1)])) (fun t k => XS.iload X0.here hx rfl (Jvm.hb hby d5_27) rfl k) ?_
        by_cases hc29_25 : g1 = (0 : Int32)
        · refine own_go (B := s₁.setTop (mkF m 41 #[.val (.int x1), .val (.int a1), .val (.int b1), .val (.int c1), .val (.int d1), .val (.int e1), .val (.int g1), .val (.int (1 : Int32)), .unset] [])) (fun t k => XS.ifYes X0.here hx rfl (pc0 := 29) (pc' := 41) rfl (Jvm.hb hby d5_29) rfl ((if0 _ _).trans (teq hc29_25).1) (by decide) (by decide) k) ?_
          refine own_go (B := s₁.setTop (mkF m 42 #[.val (.int x1), .val (.int a1), .val (.int b1), .val (.int c1), .val (.int d1), .val (.int e1), .val (.int g1), .val (.int (1 : Int32)), .unset] [(.int (0 : Int32))])) (fun t k => XS.iconst X0.here hx rfl (Jvm.hb hby d5_41) k) ?_
          refine own_go (B := s₁.setTop (mkF m 44 #[.val (.int x1), .val (.int a1), .val (.int b1), .val (.int c1), .val (.int d1), .val (.int e1), .val (.int g1), .val (.int (1 : Int32)), .val (.int (0 : Int32))] [])) (fun t k => XS.istore X0.here hx rfl (Jvm.hb hby d5_42) rfl (l' := #[.val (.int x1), .val (.int a1), .val (.int b1), .val (.int c1), .val (.int d1), .val (.int e1), .val (.int g1), .val (.int (1 : Int32)), .val (.int (0 : Int32))]) rfl k) ?_
          refine own_go (B := s₁.setTop (mkF m 46 #[.val (.int x1), .val (.int a1), .val (.int b1), .val (.int c1), .val (.int d1), .val (.int e1), .val (.int g1), .val (.int (1 : Int32)), .val (.int (0 : Int32))] [(.int (1 : Int32))])) (fun t k => XS.iload X0.here hx rfl (Jvm.hb hby d5_44) rfl k) ?_
          refine own_go (B := s₁.setTop (mkF m 49 #[.val (.int x1), .val (.int a1), .val (.int b1), .val (.int c1), .val (.int d1), .val (.int e1), .val (.int g1), .val (.int (1 : Int32)), .val (.int (0 : Int32))] [])) (fun t k => XS.ifNo X0.here hx rfl (Jvm.hb hby d5_46) rfl ((if0 _ _).trans (feq (by decide : ¬ ((1 : Int32) = (0 : Int32)))).1) k) ?_
          refine own_go (B := s₁.setTop (mkF m 51 #[.val (.int x1), .val (.int a1), .val (.int b1), .val (.int c1), .val (.int d1), .val (.int e1), .val (.int g1), .val (.int (1 : Int32)), .val (.int (0 : Int32))] [(.int (0 : Int32))])) (fun t k => XS.iload X0.here hx rfl (Jvm.hb hby d5_49) rfl k) ?_
          refine own_go (B := s₁.setTop (mkF m 54 #[.val (.int x1), .val (.int a1), .val (.int b1), .val (.int c1), .val (.int d1), .val (.int e1), .val (.int g1), .val (.int (1 : Int32)), .val (.int (0 : Int32))] [])) (fun t k => XS.ifNo X0.here hx rfl (Jvm.hb hby d5_51) rfl ((if0 _ _).trans (teq (by decide : (0 : Int32) = (0 : Int32))).2) k) ?_
          refine own_go (B := s₁.setTop (mkF m 55 #[.val (.int x1), .val (.int a1), .val (.int b1), .val (.int c1), .val (.int d1), .val (.int e1), .val (.int g1), .val (.int (1 : Int32)), .val (.int (0 : Int32))] [(.int (1 : Int32))])) (fun t k => XS.iconst X0.here hx rfl (Jvm.hb hby d5_54) k) ?_
          refine own_go (B := s₁.setTop (mkF m 59 #[.val (.int x1), .val (.int a1), .val (.int b1), .val (.int c1), .val (.int d1), .val (.int e1), .val (.int g1), .val (.int (1 : Int32)), .val (.int (0 : Int32))] [(.int (1 : Int32))])) (fun t k => XS.goto X0.here hx rfl (pc0 := 55) (pc' := 59) rfl (Jvm.hb hby d5_55) (by decide) (by decide) k) ?_
          refine own_out X0 (v := (some (.int (1 : Int32)))) (fun h => by rw [Bd.returns] at h; cases h) Bd.notSynchronized (fun fs hr => retOut X0 hx (t := .boolean) Bd.returns rfl (by first | exact Or.inl ⟨rfl, by simp, _, rfl⟩) (Jvm.hb hby d5_59) hr) ?_ (by decide) (by decide)
          show own_Q5 Z x1 a1 b1 c1 d1 e1 g1 h0 n0 (some (.int (1 : Int32))) s₁.heap _
          rw [e0]
          exact ⟨congrArg (fun z => some (Value.int z)) (by unfold own_f5; simp only [if_pos hc2_20, if_neg hc12_21, if_pos hc17_24, if_pos hc29_25]), N0, rfl⟩
        · refine own_go (B := s₁.setTop (mkF m 32 #[.val (.int x1), .val (.int a1), .val (.int b1), .val (.int c1), .val (.int d1), .val (.int e1), .val (.int g1), .val (.int (1 : Int32)), .unset] [])) (fun t k => XS.ifNo X0.here hx rfl (Jvm.hb hby d5_29) rfl ((if0 _ _).trans (feq hc29_25).1) k) ?_
          refine own_go (B := s₁.setTop (mkF m 33 #[.val (.int x1), .val (.int a1), .val (.int b1), .val (.int c1), .val (.int d1), .val (.int e1), .val (.int g1), .val (.int (1 : Int32)), .unset] [(.int x1)])) (fun t k => XS.iloadN X0.here hx rfl (Jvm.hb hby d5_32) rfl k) ?_
          refine own_go (B := s₁.setTop (mkF m 34 #[.val (.int x1), .val (.int a1), .val (.int b1), .val (.int c1), .val (.int d1), .val (.int e1), .val (.int g1), .val (.int (1 : Int32)), .unset] [(.int c1), (.int x1)])) (fun t k => XS.iloadN X0.here hx rfl (Jvm.hb hby d5_33) rfl k) ?_
          by_cases hc34_26 : x1 = c1
          · refine own_go (B := s₁.setTop (mkF m 37 #[.val (.int x1), .val (.int a1), .val (.int b1), .val (.int c1), .val (.int d1), .val (.int e1), .val (.int g1), .val (.int (1 : Int32)), .unset] [])) (fun t k => XS.icmpNo X0.here hx rfl (Jvm.hb hby d5_34) rfl (teq hc34_26).2 k) ?_
            refine own_go (B := s₁.setTop (mkF m 38 #[.val (.int x1), .val (.int a1), .val (.int b1), .val (.int c1), .val (.int d1), .val (.int e1), .val (.int g1), .val (.int (1 : Int32)), .unset] [(.int (1 : Int32))])) (fun t k => XS.iconst X0.here hx rfl (Jvm.hb hby d5_37) k) ?_
            refine own_go (B := s₁.setTop (mkF m 42 #[.val (.int x1), .val (.int a1), .val (.int b1), .val (.int c1), .val (.int d1), .val (.int e1), .val (.int g1), .val (.int (1 : Int32)), .unset] [(.int (1 : Int32))])) (fun t k => XS.goto X0.here hx rfl (pc0 := 38) (pc' := 42) rfl (Jvm.hb hby d5_38) (by decide) (by decide) k) ?_
            refine own_go (B := s₁.setTop (mkF m 44 #[.val (.int x1), .val (.int a1), .val (.int b1), .val (.int c1), .val (.int d1), .val (.int e1), .val (.int g1), .val (.int (1 : Int32)), .val (.int (1 : Int32))] [])) (fun t k => XS.istore X0.here hx rfl (Jvm.hb hby d5_42) rfl (l' := #[.val (.int x1), .val (.int a1), .val (.int b1), .val (.int c1), .val (.int d1), .val (.int e1), .val (.int g1), .val (.int (1 : Int32)), .val (.int (1 : Int32))]) rfl k) ?_
            refine own_go (B := s₁.setTop (mkF m 46 #[.val (.int x1), .val (.int a1), .val (.int b1), .val (.int c1), .val (.int d1), .val (.int e1), .val (.int g1), .val (.int (1 : Int32)), .val (.int (1 : Int32))] [(.int (1 : Int32))])) (fun t k => XS.iload X0.here hx rfl (Jvm.hb hby d5_44) rfl k) ?_
            refine own_go (B := s₁.setTop (mkF m 49 #[.val (.int x1), .val (.int a1), .val (.int b1), .val (.int c1), .val (.int d1), .val (.int e1), .val (.int g1), .val (.int (1 : Int32)), .val (.int (1 : Int32))] [])) (fun t k => XS.ifNo X0.here hx rfl (Jvm.hb hby d5_46) rfl ((if0 _ _).trans (feq (by decide : ¬ ((1 : Int32) = (0 : Int32)))).1) k) ?_
            refine own_go (B := s₁.setTop (mkF m 51 #[.val (.int x1), .val (.int a1), .val (.int b1), .val (.int c1), .val (.int d1), .val (.int e1), .val (.int g1), .val (.int (1 : Int32)), .val (.int (1 : Int32))] [(.int (1 : Int32))])) (fun t k => XS.iload X0.here hx rfl (Jvm.hb hby d5_49) rfl k) ?_
            refine own_go (B := s₁.setTop (mkF m 58 #[.val (.int x1), .val (.int a1), .val (.int b1), .val (.int c1), .val (.int d1), .val (.int e1), .val (.int g1), .val (.int (1 : Int32)), .val (.int (1 : Int32))] [])) (fun t k => XS.ifYes X0.here hx rfl (pc0 := 51) (pc' := 58) rfl (Jvm.hb hby d5_51) rfl ((if0 _ _).trans (feq (by decide : ¬ ((1 : Int32) = (0 : Int32)))).2) (by decide) (by decide) k) ?_
            refine own_go (B := s₁.setTop (mkF m 59 #[.val (.int x1), .val (.int a1), .val (.int b1), .val (.int c1), .val (.int d1), .val (.int e1), .val (.int g1), .val (.int (1 : Int32)), .val (.int (1 : Int32))] [(.int (0 : Int32))])) (fun t k => XS.iconst X0.here hx rfl (Jvm.hb hby d5_58) k) ?_
            refine own_out X0 (v := (some (.int (0 : Int32)))) (fun h => by rw [Bd.returns] at h; cases h) Bd.notSynchronized (fun fs hr => retOut X0 hx (t := .boolean) Bd.returns rfl (by first | exact Or.inl ⟨rfl, by simp, _, rfl⟩) (Jvm.hb hby d5_59) hr) ?_ (by decide) (by decide)
            show own_Q5 Z x1 a1 b1 c1 d1 e1 g1 h0 n0 (some (.int (0 : Int32))) s₁.heap _
            rw [e0]
            exact ⟨congrArg (fun z => some (Value.int z)) (by unfold own_f5; simp only [if_pos hc2_20, if_neg hc12_21, if_pos hc17_24, if_neg hc29_25, if_pos hc34_26]), N0, rfl⟩
          · refine own_go (B := s₁.setTop (mkF m 41 #[.val (.int x1), .val (.int a1), .val (.int b1), .val (.int c1), .val (.int d1), .val (.int e1), .val (.int g1), .val (.int (1 : Int32)), .unset] [])) (fun t k => XS.icmpYes X0.here hx rfl (pc0 := 34) (pc' := 41) rfl (Jvm.hb hby d5_34) rfl (feq hc34_26).2 (by decide) (by decide) k) ?_
            refine own_go (B := s₁.setTop (mkF m 42 #[.val (.int x1), .val (.int a1), .val (.int b1), .val (.int c1), .val (.int d1), .val (.int e1), .val (.int g1), .val (.int (1 : Int32)), .unset] [(.int (0 : Int32))])) (fun t k => XS.iconst X0.here hx rfl (Jvm.hb hby d5_41) k) ?_
            refine own_go (B := s₁.setTop (mkF m 44 #[.val (.int x1), .val (.int a1), .val (.int b1), .val (.int c1), .val (.int d1), .val (.int e1), .val (.int g1), .val (.int (1 : Int32)), .val (.int (0 : Int32))] [])) (fun t k => XS.istore X0.here hx rfl (Jvm.hb hby d5_42) rfl (l' := #[.val (.int x1), .val (.int a1), .val (.int b1), .val (.int c1), .val (.int d1), .val (.int e1), .val (.int g1), .val (.int (1 : Int32)), .val (.int (0 : Int32))]) rfl k) ?_
            refine own_go (B := s₁.setTop (mkF m 46 #[.val (.int x1), .val (.int a1), .val (.int b1), .val (.int c1), .val (.int d1), .val (.int e1), .val (.int g1), .val (.int (1 : Int32)), .val (.int (0 : Int32))] [(.int (1 : Int32))])) (fun t k => XS.iload X0.here hx rfl (Jvm.hb hby d5_44) rfl k) ?_
            refine own_go (B := s₁.setTop (mkF m 49 #[.val (.int x1), .val (.int a1), .val (.int b1), .val (.int c1), .val (.int d1), .val (.int e1), .val (.int g1), .val (.int (1 : Int32)), .val (.int (0 : Int32))] [])) (fun t k => XS.ifNo X0.here hx rfl (Jvm.hb hby d5_46) rfl ((if0 _ _).trans (feq (by decide : ¬ ((1 : Int32) = (0 : Int32)))).1) k) ?_
            refine own_go (B := s₁.setTop (mkF m 51 #[.val (.int x1), .val (.int a1), .val (.int b1), .val (.int c1), .val (.int d1), .val (.int e1), .val (.int g1), .val (.int (1 : Int32)), .val (.int (0 : Int32))] [(.int (0 : Int32))])) (fun t k => XS.iload X0.here hx rfl (Jvm.hb hby d5_49) rfl k) ?_
            refine own_go (B := s₁.setTop (mkF m 54 #[.val (.int x1), .val (.int a1), .val (.int b1), .val (.int c1), .val (.int d1), .val (.int e1), .val (.int g1), .val (.int (1 : Int32)), .val (.int (0 : Int32))] [])) (fun t k => XS.ifNo X0.here hx rfl (Jvm.hb hby d5_51) rfl ((if0 _ _).trans (teq (by decide : (0 : Int32) = (0 : Int32))).2) k) ?_
            refine own_go (B := s₁.setTop (mkF m 55 #[.val (.int x1), .val (.int a1), .val (.int b1), .val (.int c1), .val (.int d1), .val (.int e1), .val (.int g1), .val (.int (1 : Int32)), .val (.int (0 : Int32))] [(.int (1 : Int32))])) (fun t k => XS.iconst X0.here hx rfl (Jvm.hb hby d5_54) k) ?_
            refine own_go (B := s₁.setTop (mkF m 59 #[.val (.int x1), .val (.int a1), .val (.int b1), .val (.int c1), .val (.int d1), .val (.int e1), .val (.int g1), .val (.int (1 : Int32)), .val (.int (0 : Int32))] [(.int (1 : Int32))])) (fun t k => XS.goto X0.here hx rfl (pc0 := 55) (pc' := 59) rfl (Jvm.hb hby d5_55) (by decide) (by decide) k) ?_
            refine own_out X0 (v := (some (.int (1 : Int32)))) (fun h => by rw [Bd.returns] at h; cases h) Bd.notSynchronized (fun fs hr => retOut X0 hx (t := .boolean) Bd.returns rfl (by first | exact Or.inl ⟨rfl, by simp, _, rfl⟩) (Jvm.hb hby d5_59) hr) ?_ (by decide) (by decide)
            show own_Q5 Z x1 a1 b1 c1 d1 e1 g1 h0 n0 (some (.int (1 : Int32))) s₁.heap _
            rw [e0]
            exact ⟨congrArg (fun z => some (Value.int z)) (by unfold own_f5; simp only [if_pos hc2_20, if_neg hc12_21, if_pos hc17_24, if_neg hc29_25, if_neg hc34_26]), N0, rfl⟩
      · refine own_go (B := s₁.setTop (mkF m 24 #[.val (.int x1), .val (.int a1), .val (.int b1), .val (.int c1), .val (.int d1), .val (.int e1), .val (.int g1), .unset, .unset] [])) (fun t k => XS.icmpYes X0.here hx rfl (pc0 := 17) (pc' := 24) rfl (Jvm.hb hby d5_17) rfl (feq hc17_24).2 (by decide) (by decide) k) ?_
        refine own_go (B := s₁.setTop (mkF m 25 #[.val (.int x1), .val (.int a1), .val (.int b1), .val (.int c1), .val (.int d1), .val (.int e1), .val (.int g1), .unset, .unset] [(.int (0 : Int32))])) (fun t k => XS.iconst X0.here hx rfl (Jvm.hb hby d5_24) k) ?_
        refine own_go (B := s₁.setTop (mkF m 27 #[.val (.int x1), .val (.int a1), .val (.int b1), .val (.int c1), .val (.int d1), .val (.int e1), .val (.int g1), .val (.int (0 : Int32)), .unset] [])) (fun t k => XS.istore X0.here hx rfl (Jvm.hb hby d5_25) rfl (l' := #[.val (.int x1), .val (.int a1), .val (.int b1), .val (.int c1), .val (.int d1), .val (.int e1), .val (.int g1), .val (.int (0 : Int32)), .unset]) rfl k) ?_
        refine own_go (B := s₁.setTop (mkF m 29 #[.val (.int x1), .val (.int a1), .val (.int b1), .val (.int c1), .val (.int d1), .val (.int e1), .val (.int g1), .val (.int (0 : Int32)), .unset] [(.int g1)])) (fun t k => XS.iload X0.here hx rfl (Jvm.hb hby d5_27) rfl k) ?_
        by_cases hc29_27 : g1 = (0 : Int32)
        · refine own_go (B := s₁.setTop (mkF m 41 #[.val (.int x1), .val (.int a1), .val (.int b1), .val (.int c1), .val (.int d1), .val (.int e1), .val (.int g1), .val (.int (0 : Int32)), .unset] [])) (fun t k => XS.ifYes X0.here hx rfl (pc0 := 29) (pc' := 41) rfl (Jvm.hb hby d5_29) rfl ((if0 _ _).trans (teq hc29_27).1) (by decide) (by decide) k) ?_
          refine own_go (B := s₁.setTop (mkF m 42 #[.val (.int x1), .val (.int a1), .val (.int b1), .val (.int c1), .val (.int d1), .val (.int e1), .val (.int g1), .val (.int (0 : Int32)), .unset] [(.int (0 : Int32))])) (fun t k => XS.iconst X0.here hx rfl (Jvm.hb hby d5_41) k) ?_
          refine own_go (B := s₁.setTop (mkF m 44 #[.val (.int x1), .val (.int a1), .val (.int b1), .val (.int c1), .val (.int d1), .val (.int e1), .val (.int g1), .val (.int (0 : Int32)), .val (.int (0 : Int32))] [])) (fun t k => XS.istore X0.here hx rfl (Jvm.hb hby d5_42) rfl (l' := #[.val (.int x1), .val (.int a1), .val (.int b1), .val (.int c1), .val (.int d1), .val (.int e1), .val (.int g1), .val (.int (0 : Int32)), .val (.int (0 : Int32))]) rfl k) ?_
          refine own_go (B := s₁.setTop (mkF m 46 #[.val (.int x1), .val (.int a1), .val (.int b1), .val (.int c1), .val (.int d1), .val (.int e1), .val (.int g1), .val (.int (0 : Int32)), .val (.int (0 : Int32))] [(.int (0 : Int32))])) (fun t k => XS.iload X0.here hx rfl (Jvm.hb hby d5_44) rfl k) ?_
          refine own_go (B := s₁.setTop (mkF m 58 #[.val (.int x1), .val (.int a1), .val (.int b1), .val (.int c1), .val (.int d1), .val (.int e1), .val (.int g1), .val (.int (0 : Int32)), .val (.int (0 : Int32))] [])) (fun t k => XS.ifYes X0.here hx rfl (pc0 := 46) (pc' := 58) rfl (Jvm.hb hby d5_46) rfl ((if0 _ _).trans (teq (by decide : (0 : Int32) = (0 : Int32))).1) (by decide) (by decide) k) ?_
          refine own_go (B := s₁.setTop (mkF m 59 #[.val (.int x1), .val (.int a1), .val (.int b1), .val (.int c1), .val (.int d1), .val (.int e1), .val (.int g1), .val (.int (0 : Int32)), .val (.int (0 : Int32))] [(.int (0 : Int32))])) (fun t k => XS.iconst X0.here hx rfl (Jvm.hb hby d5_58) k) ?_
          refine own_out X0 (v := (some (.int (0 : Int32)))) (fun h => by rw [Bd.returns] at h; cases h) Bd.notSynchronized (fun fs hr => retOut X0 hx (t := .boolean) Bd.returns rfl (by first | exact Or.inl ⟨rfl, by simp, _, rfl⟩) (Jvm.hb hby d5_59) hr) ?_ (by decide) (by decide)
          show own_Q5 Z x1 a1 b1 c1 d1 e1 g1 h0 n0 (some (.int (0 : Int32))) s₁.heap _
          rw [e0]
          exact ⟨congrArg (fun z => some (Value.int z)) (by unfold own_f5; simp only [if_pos hc2_20, if_neg hc12_21, if_neg hc17_24, if_pos hc29_27]), N0, rfl⟩
        · refine own_go (B := s₁.setTop (mkF m 32 #[.val (.int x1), .val (.int a1), .val (.int b1), .val (.int c1), .val (.int d1), .val (.int e1), .val (.int g1), .val (.int (0 : Int32)), .unset] [])) (fun t k => XS.ifNo X0.here hx rfl (Jvm.hb hby d5_29) rfl ((if0 _ _).trans (feq hc29_27).1) k) ?_
          refine own_go (B := s₁.setTop (mkF m 33 #[.val (.int x1), .val (.int a1), .val (.int b1), .val (.int c1), .val (.int d1), .val (.int e1), .val (.int g1), .val (.int (0 : Int32)), .unset] [(.int x1)])) (fun t k => XS.iloadN X0.here hx rfl (Jvm.hb hby d5_32) rfl k) ?_
          refine own_go (B := s₁.setTop (mkF m 34 #[.val (.int x1), .val (.int a1), .val (.int b1), .val (.int c1), .val (.int d1), .val (.int e1), .val (.int g1), .val (.int (0 : Int32)), .unset] [(.int c1), (.int x1)])) (fun t k => XS.iloadN X0.here hx rfl (Jvm.hb hby d5_33) rfl k) ?_
          by_cases hc34_28 : x1 = c1
          · refine own_go (B := s₁.setTop (mkF m 37 #[.val (.int x1), .val (.int a1), .val (.int b1), .val (.int c1), .val (.int d1), .val (.int e1), .val (.int g1), .val (.int (0 : Int32)), .unset] [])) (fun t k => XS.icmpNo X0.here hx rfl (Jvm.hb hby d5_34) rfl (teq hc34_28).2 k) ?_
            refine own_go (B := s₁.setTop (mkF m 38 #[.val (.int x1), .val (.int a1), .val (.int b1), .val (.int c1), .val (.int d1), .val (.int e1), .val (.int g1), .val (.int (0 : Int32)), .unset] [(.int (1 : Int32))])) (fun t k => XS.iconst X0.here hx rfl (Jvm.hb hby d5_37) k) ?_
            refine own_go (B := s₁.setTop (mkF m 42 #[.val (.int x1), .val (.int a1), .val (.int b1), .val (.int c1), .val (.int d1), .val (.int e1), .val (.int g1), .val (.int (0 : Int32)), .unset] [(.int (1 : Int32))])) (fun t k => XS.goto X0.here hx rfl (pc0 := 38) (pc' := 42) rfl (Jvm.hb hby d5_38) (by decide) (by decide) k) ?_
            refine own_go (B := s₁.setTop (mkF m 44 #[.val (.int x1), .val (.int a1), .val (.int b1), .val (.int c1), .val (.int d1), .val (.int e1), .val (.int g1), .val (.int (0 : Int32)), .val (.int (1 : Int32))] [])) (fun t k => XS.istore X0.here hx rfl (Jvm.hb hby d5_42) rfl (l' := #[.val (.int x1), .val (.int a1), .val (.int b1), .val (.int c1), .val (.int d1), .val (.int e1), .val (.int g1), .val (.int (0 : Int32)), .val (.int (1 : Int32))]) rfl k) ?_
            refine own_go (B := s₁.setTop (mkF m 46 #[.val (.int x1), .val (.int a1), .val (.int b1), .val (.int c1), .val (.int d1), .val (.int e1), .val (.int g1), .val (.int (0 : Int32)), .val (.int (1 : Int32))] [(.int (0 : Int32))])) (fun t k => XS.iload X0.here hx rfl (Jvm.hb hby d5_44) rfl k) ?_
            refine own_go (B := s₁.setTop (mkF m 58 #[.val (.int x1), .val (.int a1), .val (.int b1), .val (.int c1), .val (.int d1), .val (.int e1), .val (.int g1), .val (.int (0 : Int32)), .val (.int (1 : Int32))] [])) (fun t k => XS.ifYes X0.here hx rfl (pc0 := 46) (pc' := 58) rfl (Jvm.hb hby d5_46) rfl ((if0 _ _).trans (teq (by decide : (0 : Int32) = (0 : Int32))).1) (by decide) (by decide) k) ?_
            refine own_go (B := s₁.setTop (mkF m 59 #[.val (.int x1), .val (.int a1), .val (.int b1), .val (.int c1), .val (.int d1), .val (.int e1), .val (.int g1), .val (.int (0 : Int32)), .val (.int (1 : Int32))] [(.int (0 : Int32))])) (fun t k => XS.iconst X0.here hx rfl (Jvm.hb hby d5_58) k) ?_
            refine own_out X0 (v := (some (.int (0 : Int32)))) (fun h => by rw [Bd.returns] at h; cases h) Bd.notSynchronized (fun fs hr => retOut X0 hx (t := .boolean) Bd.returns rfl (by first | exact Or.inl ⟨rfl, by simp, _, rfl⟩) (Jvm.hb hby d5_59) hr) ?_ (by decide) (by decide)
            show own_Q5 Z x1 a1 b1 c1 d1 e1 g1 h0 n0 (some (.int (0 : Int32))) s₁.heap _
            rw [e0]
            exact ⟨congrArg (fun z => some (Value.int z)) (by unfold own_f5; simp only [if_pos hc2_20, if_neg hc12_21, if_neg hc17_24, if_neg hc29_27, if_pos hc34_28]), N0, rfl⟩
          · refine own_go (B := s₁.setTop (mkF m 41 #[.val (.int x1), .val (.int a1), .val (.int b1), .val (.int c1), .val (.int d1), .val (.int e1), .val (.int g1), .val (.int (0 : Int32)), .unset] [])) (fun t k => XS.icmpYes X0.here hx rfl (pc0 := 34) (pc' := 41) rfl (Jvm.hb hby d5_34) rfl (feq hc34_28).2 (by decide) (by decide) k) ?_
            refine own_go (B := s₁.setTop (mkF m 42 #[.val (.int x1), .val (.int a1), .val (.int b1), .val (.int c1), .val (.int d1), .val (.int e1), .val (.int g1), .val (.int (0 : Int32)), .unset] [(.int (0 : Int32))])) (fun t k => XS.iconst X0.here hx rfl (Jvm.hb hby d5_41) k) ?_
            refine own_go (B := s₁.setTop (mkF m 44 #[.val (.int x1), .val (.int a1), .val (.int b1), .val (.int c1), .val (.int d1), .val (.int e1), .val (.int g1), .val (.int (0 : Int32)), .val (.int (0 : Int32))] [])) (fun t k => XS.istore X0.here hx rfl (Jvm.hb hby d5_42) rfl (l' := #[.val (.int x1), .val (.int a1), .val (.int b1), .val (.int c1), .val (.int d1), .val (.int e1), .val (.int g1), .val (.int (0 : Int32)), .val (.int (0 : Int32))]) rfl k) ?_
            refine own_go (B := s₁.setTop (mkF m 46 #[.val (.int x1), .val (.int a1), .val (.int b1), .val (.int c1), .val (.int d1), .val (.int e1), .val (.int g1), .val (.int (0 : Int32)), .val (.int (0 : Int32))] [(.int (0 : Int32))])) (fun t k => XS.iload X0.here hx rfl (Jvm.hb hby d5_44) rfl k) ?_
            refine own_go (B := s₁.setTop (mkF m 58 #[.val (.int x1), .val (.int a1), .val (.int b1), .val (.int c1), .val (.int d1), .val (.int e1), .val (.int g1), .val (.int (0 : Int32)), .val (.int (0 : Int32))] [])) (fun t k => XS.ifYes X0.here hx rfl (pc0 := 46) (pc' := 58) rfl (Jvm.hb hby d5_46) rfl ((if0 _ _).trans (teq (by decide : (0 : Int32) = (0 : Int32))).1) (by decide) (by decide) k) ?_
            refine own_go (B := s₁.setTop (mkF m 59 #[.val (.int x1), .val (.int a1), .val (.int b1), .val (.int c1), .val (.int d1), .val (.int e1), .val (.int g1), .val (.int (0 : Int32)), .val (.int (0 : Int32))] [(.int (0 : Int32))])) (fun t k => XS.iconst X0.here hx rfl (Jvm.hb hby d5_58) k) ?_
            refine own_out X0 (v := (some (.int (0 : Int32)))) (fun h => by rw [Bd.returns] at h; cases h) Bd.notSynchronized (fun fs hr => retOut X0 hx (t := .boolean) Bd.returns rfl (by first | exact Or.inl ⟨rfl, by simp, _, rfl⟩) (Jvm.hb hby d5_59) hr) ?_ (by decide) (by decide)
            show own_Q5 Z x1 a1 b1 c1 d1 e1 g1 h0 n0 (some (.int (0 : Int32))) s₁.heap _
            rw [e0]
            exact ⟨congrArg (fun z => some (Value.int z)) (by unfold own_f5; simp only [if_pos hc2_20, if_neg hc12_21, if_neg hc17_24, if_neg hc29_27, if_neg hc34_28]), N0, rfl⟩
  · refine own_go (B := s₁.setTop (mkF m 5 #[.val (.int x1), .val (.int a1), .val (.int b1), .val (.int c1), .val (.int d1), .val (.int e1), .val (.int g1), .unset, .unset] [])) (fun t k => XS.ifNo X0.here hx rfl (Jvm.hb hby d5_2) rfl ((if0 _ _).trans (feq hc2_20).1) k) ?_
    refine own_go (B := s₁.setTop (mkF m 6 #[.val (.int x1), .val (.int a1), .val (.int b1), .val (.int c1), .val (.int d1), .val (.int e1), .val (.int g1), .unset, .unset] [(.int x1)])) (fun t k => XS.iloadN X0.here hx rfl (Jvm.hb hby d5_5) rfl k) ?_
    refine own_go (B := s₁.setTop (mkF m 7 #[.val (.int x1), .val (.int a1), .val (.int b1), .val (.int c1), .val (.int d1), .val (.int e1), .val (.int g1), .unset, .unset] [(.int a1), (.int x1)])) (fun t k => XS.iloadN X0.here hx rfl (Jvm.hb hby d5_6) rfl k) ?_
    by_cases hc7_29 : x1 = a1
    · refine own_go (B := s₁.setTop (mkF m 20 #[.val (.int x1), .val (.int a1), .val (.int b1), .val (.int c1), .val (.int d1), .val (.int e1), .val (.int g1), .unset, .unset] [])) (fun t k => XS.icmpYes X0.here hx rfl (pc0 := 7) (pc' := 20) rfl (Jvm.hb hby d5_7) rfl (teq hc7_29).1 (by decide) (by decide) k) ?_
      refine own_go (B := s₁.setTop (mkF m 21 #[.val (.int x1), .val (.int a1), .val (.int b1), .val (.int c1), .val (.int d1), .val (.int e1), .val (.int g1), .unset, .unset] [(.int (1 : Int32))])) (fun t k => XS.iconst X0.here hx rfl (Jvm.hb hby d5_20) k) ?_
      refine own_go (B := s₁.setTop (mkF m 25 #[.val (.int x1), .val (.int a1), .val (.int b1), .val (.int c1), .val (.int d1), .val (.int e1), .val (.int g1), .unset, .unset] [(.int (1 : Int32))])) (fun t k => XS.goto X0.here hx rfl (pc0 := 21) (pc' := 25) rfl (Jvm.hb hby d5_21) (by decide) (by decide) k) ?_
      refine own_go (B := s₁.setTop (mkF m 27 #[.val (.int x1), .val (.int a1), .val (.int b1), .val (.int c1), .val (.int d1), .val (.int e1), .val (.int g1), .val (.int (1 : Int32)), .unset] [])) (fun t k => XS.istore X0.here hx rfl (Jvm.hb hby d5_25) rfl (l' := #[.val (.int x1), .val (.int a1), .val (.int b1), .val (.int c1), .val (.int d1), .val (.int e1), .val (.int g1), .val (.int (1 : Int32)), .unset]) rfl k) ?_
      refine own_go (B := s₁.setTop (mkF m 29 #[.val (.int x1), .val (.int a1), .val (.int b1), .val (.int c1), .val (.int d1), .val (.int e1), .val (.int g1), .val (.int (1 : Int32)), .unset] [(.int g1)])) (fun t k => XS.iload X0.here hx rfl (Jvm.hb hby d5_27) rfl k) ?_
      by_cases hc29_30 : g1 = (0 : Int32)
      · refine own_go (B := s₁.setTop (mkF m 41 #[.val (.int x1), .val (.int a1), .val (.int b1), .val (.int c1), .val (.int d1), .val (.int e1), .val (.int g1), .val (.int (1 : Int32)), .unset] [])) (fun t k => XS.ifYes X0.here hx rfl (pc0 := 29) (pc' := 41) rfl (Jvm.hb hby d5_29) rfl ((if0 _ _).trans (teq hc29_30).1) (by decide) (by decide) k) ?_
        refine own_go (B := s₁.setTop (mkF m 42 #[.val (.int x1), .val (.int a1), .val (.int b1), .val (.int c1), .val (.int d1), .val (.int e1), .val (.int g1), .val (.int (1 : Int32)), .unset] [(.int (0 : Int32))])) (fun t k => XS.iconst X0.here hx rfl (Jvm.hb hby d5_41) k) ?_
        refine own_go (B := s₁.setTop (mkF m 44 #[.val (.int x1), .val (.int a1), .val (.int b1), .val (.int c1), .val (.int d1), .val (.int e1), .val (.int g1), .val (.int (1 : Int32)), .val (.int (0 : Int32))] [])) (fun t k => XS.istore X0.here hx rfl (Jvm.hb hby d5_42) rfl (l' := #[.val (.int x1), .val (.int a1), .val (.int b1), .val (.int c1), .val (.int d1), .val (.int e1), .val (.int g1), .val (.int (1 : Int32)), .val (.int (0 : Int32))]) rfl k) ?_
        refine own_go (B := s₁.setTop (mkF m 46 #[.val (.int x1), .val (.int a1), .val (.int b1), .val (.int c1), .val (.int d1), .val (.int e1), .val (.int g1), .val (.int (1 : Int32)), .val (.int (0 : Int32))] [(.int (1 : Int32))])) (fun t k => XS.iload X0.here hx rfl (Jvm.hb hby d5_44) rfl k) ?_
        refine own_go (B := s₁.setTop (mkF m 49 #[.val (.int x1), .val (.int a1), .val (.int b1), .val (.int c1), .val (.int d1), .val (.int e1), .val (.int g1), .val (.int (1 : Int32)), .val (.int (0 : Int32))] [])) (fun t k => XS.ifNo X0.here hx rfl (Jvm.hb hby d5_46) rfl ((if0 _ _).trans (feq (by decide : ¬ ((1 : Int32) = (0 : Int32)))).1) k) ?_
        refine own_go (B := s₁.setTop (mkF m 51 #[.val (.int x1), .val (.int a1), .val (.int b1), .val (.int c1), .val (.int d1), .val (.int e1), .val (.int g1), .val (.int (1 : Int32)), .val (.int (0 : Int32))] [(.int (0 : Int32))])) (fun t k => XS.iload X0.here hx rfl (Jvm.hb hby d5_49) rfl k) ?_
        refine own_go (B := s₁.setTop (mkF m 54 #[.val (.int x1), .val (.int a1), .val (.int b1), .val (.int c1), .val (.int d1), .val (.int e1), .val (.int g1), .val (.int (1 : Int32)), .val (.int (0 : Int32))] [])) (fun t k => XS.ifNo X0.here hx rfl (Jvm.hb hby d5_51) rfl ((if0 _ _).trans (teq (by decide : (0 : Int32) = (0 : Int32))).2) k) ?_
        refine own_go (B := s₁.setTop (mkF m 55 #[.val (.int x1), .val (.int a1), .val (.int b1), .val (.int c1), .val (.int d1), .val (.int e1), .val (.int g1), .val (.int (1 : Int32)), .val (.int (0 : Int32))] [(.int (1 : Int32))])) (fun t k => XS.iconst X0.here hx rfl (Jvm.hb hby d5_54) k) ?_
        refine own_go (B := s₁.setTop (mkF m 59 #[.val (.int x1), .val (.int a1), .val (.int b1), .val (.int c1), .val (.int d1), .val (.int e1), .val (.int g1), .val (.int (1 : Int32)), .val (.int (0 : Int32))] [(.int (1 : Int32))])) (fun t k => XS.goto X0.here hx rfl (pc0 := 55) (pc' := 59) rfl (Jvm.hb hby d5_55) (by decide) (by decide) k) ?_
        refine own_out X0 (v := (some (.int (1 : Int32)))) (fun h => by rw [Bd.returns] at h; cases h) Bd.notSynchronized (fun fs hr => retOut X0 hx (t := .boolean) Bd.returns rfl (by first | exact Or.inl ⟨rfl, by simp, _, rfl⟩) (Jvm.hb hby d5_59) hr) ?_ (by decide) (by decide)
        show own_Q5 Z x1 a1 b1 c1 d1 e1 g1 h0 n0 (some (.int (1 : Int32))) s₁.heap _
        rw [e0]
        exact ⟨congrArg (fun z => some (Value.int z)) (by unfold own_f5; simp only [if_neg hc2_20, if_pos hc7_29, if_pos hc29_30]), N0, rfl⟩
      · refine own_go (B := s₁.setTop (mkF m 32 #[.val (.int x1), .val (.int a1), .val (.int b1), .val (.int c1), .val (.int d1), .val (.int e1), .val (.int g1), .val (.int (1 : Int32)), .unset] [])) (fun t k => XS.ifNo X0.here hx rfl (Jvm.hb hby d5_29) rfl ((if0 _ _).trans (feq hc29_30).1) k) ?_
        refine own_go (B := s₁.setTop (mkF m 33 #[.val (.int x1), .val (.int a1), .val (.int b1), .val (.int c1), .val (.int d1), .val (.int e1), .val (.int g1), .val (.int (1 : Int32)), .unset] [(.int x1)])) (fun t k => XS.iloadN X0.here hx rfl (Jvm.hb hby d5_32) rfl k) ?_
        refine own_go (B := s₁.setTop (mkF m 34 #[.val (.int x1), .val (.int a1), .val (.int b1), .val (.int c1), .val (.int d1), .val (.int e1), .val (.int g1), .val (.int (1 : Int32)), .unset] [(.int c1), (.int x1)])) (fun t k => XS.iloadN X0.here hx rfl (Jvm.hb hby d5_33) rfl k) ?_
        by_cases hc34_31 : x1 = c1
        · refine own_go (B := s₁.setTop (mkF m 37 #[.val (.int x1), .val (.int a1), .val (.int b1), .val (.int c1), .val (.int d1), .val (.int e1), .val (.int g1), .val (.int (1 : Int32)), .unset] [])) (fun t k => XS.icmpNo X0.here hx rfl (Jvm.hb hby d5_34) rfl (teq hc34_31).2 k) ?_
          refine own_go (B := s₁.setTop (mkF m 38 #[.val (.int x1), .val (.int a1), .val (.int b1), .val (.int c1), .val (.int d1), .val (.int e1), .val (.int g1), .val (.int (1 : Int32)), .unset] [(.int (1 : Int32))])) (fun t k => XS.iconst X0.here hx rfl (Jvm.hb hby d5_37) k) ?_
          refine own_go (B := s₁.setTop (mkF m 42 #[.val (.int x1), .val (.int a1), .val (.int b1), .val (.int c1), .val (.int d1), .val (.int e1), .val (.int g1), .val (.int (1 : Int32)), .unset] [(.int (1 : Int32))])) (fun t k => XS.goto X0.here hx rfl (pc0 := 38) (pc' := 42) rfl (Jvm.hb hby d5_38) (by decide) (by decide) k) ?_
          refine own_go (B := s₁.setTop (mkF m 44 #[.val (.int x1), .val (.int a1), .val (.int b1), .val (.int c1), .val (.int d1), .val (.int e1), .val (.int g1), .val (.int (1 : Int32)), .val (.int (1 : Int32))] [])) (fun t k => XS.istore X0.here hx rfl (Jvm.hb hby d5_42) rfl (l' := #[.val (.int x1), .val (.int a1), .val (.int b1), .val (.int c1), .val (.int d1), .val (.int e1), .val (.int g1), .val (.int (1 : Int32)), .val (.int (1 : Int32))]) rfl k) ?_
          refine own_go (B := s₁.setTop (mkF m 46 #[.val (.int x1), .val (.int a1), .val (.int b1), .val (.int c1), .val (.int d1), .val (.int e1), .val (.int g1), .val (.int (1 : Int32)), .val (.int (1 : Int32))] [(.int (1 : Int32))])) (fun t k => XS.iload X0.here hx rfl (Jvm.hb hby d5_44) rfl k) ?_
          refine own_go (B := s₁.setTop (mkF m 49 #[.val (.int x1), .val (.int a1), .val (.int b1), .val (.int c1), .val (.int d1), .val (.int e1), .val (.int g1), .val (.int (1 : Int32)), .val (.int (1 : Int32))] [])) (fun t k => XS.ifNo X0.here hx rfl (Jvm.hb hby d5_46) rfl ((if0 _ _).trans (feq (by decide : ¬ ((1 : Int32) = (0 : Int32)))).1) k) ?_
          refine own_go (B := s₁.setTop (mkF m 51 #[.val (.int x1), .val (.int a1), .val (.int b1), .val (.int c1), .val (.int d1), .val (.int e1), .val (.int g1), .val (.int (1 : Int32)), .val (.int (1 : Int32))] [(.int (1 : Int32))])) (fun t k => XS.iload X0.here hx rfl (Jvm.hb hby d5_49) rfl k) ?_
          refine own_go (B := s₁.setTop (mkF m 58 #[.val (.int x1), .val (.int a1), .val (.int b1), .val (.int c1), .val (.int d1), .val (.int e1), .val (.int g1), .val (.int (1 : Int32)), .val (.int (1 : Int32))] [])) (fun t k => XS.ifYes X0.here hx rfl (pc0 := 51) (pc' := 58) rfl (Jvm.hb hby d5_51) rfl ((if0 _ _).trans (feq (by decide : ¬ ((1 : Int32) = (0 : Int32)))).2) (by decide) (by decide) k) ?_
          refine own_go (B := s₁.setTop (mkF m 59 #[.val (.int x1), .val (.int a1), .val (.int b1), .val (.int c1), .val (.int d1), .val (.int e1), .val (.int g1), .val (.int (1 : Int32)), .val (.int (1 : Int32))] [(.int (0 : Int32))])) (fun t k => XS.iconst X0.here hx rfl (Jvm.hb hby d5_58) k) ?_
          refine own_out X0 (v := (some (.int (0 : Int32)))) (fun h => by rw [Bd.returns] at h; cases h) Bd.notSynchronized (fun fs hr => retOut X0 hx (t := .boolean) Bd.returns rfl (by first | exact Or.inl ⟨rfl, by simp, _, rfl⟩) (Jvm.hb hby d5_59) hr) ?_ (by decide) (by decide)
          show own_Q5 Z x1 a1 b1 c1 d1 e1 g1 h0 n0 (some (.int (0 : Int32))) s₁.heap _
          rw [e0]
          exact ⟨congrArg (fun z => some (Value.int z)) (by unfold own_f5; simp only [if_neg hc2_20, if_pos hc7_29, if_neg hc29_30, if_pos hc34_31]), N0, rfl⟩
        · refine own_go (B := s₁.setTop (mkF m 41 #[.val (.int x1), .val (.int a1), .val (.int b1), .val (.int c1), .val (.int d1), .val (.int e1), .val (.int g1), .val (.int (1 : Int32)), .unset] [])) (fun t k => XS.icmpYes X0.here hx rfl (pc0 := 34) (pc' := 41) rfl (Jvm.hb hby d5_34) rfl (feq hc34_31).2 (by decide) (by decide) k) ?_
          refine own_go (B := s₁.setTop (mkF m 42 #[.val (.int x1), .val (.int a1), .val (.int b1), .val (.int c1), .val (.int d1), .val (.int e1), .val (.int g1), .val (.int (1 : Int32)), .unset] [(.int (0 : Int32))])) (fun t k => XS.iconst X0.here hx rfl (Jvm.hb hby d5_41) k) ?_
          refine own_go (B := s₁.setTop (mkF m 44 #[.val (.int x1), .val (.int a1), .val (.int b1), .val (.int c1), .val (.int d1), .val (.int e1), .val (.int g1), .val (.int (1 : Int32)), .val (.int (0 : Int32))] [])) (fun t k => XS.istore X0.here hx rfl (Jvm.hb hby d5_42) rfl (l' := #[.val (.int x1), .val (.int a1), .val (.int b1), .val (.int c1), .val (.int d1), .val (.int e1), .val (.int g1), .val (.int (1 : Int32)), .val (.int (0 : Int32))]) rfl k) ?_
          refine own_go (B := s₁.setTop (mkF m 46 #[.val (.int x1), .val (.int a1), .val (.int b1), .val (.int c1), .val (.int d1), .val (.int e1), .val (.int g1), .val (.int (1 : Int32)), .val (.int (0 : Int32))] [(.int (1 : Int32))])) (fun t k => XS.iload X0.here hx rfl (Jvm.hb hby d5_44) rfl k) ?_
          refine own_go (B := s₁.setTop (mkF m 49 #[.val (.int x1), .val (.int a1), .val (.int b1), .val (.int c1), .val (.int d1), .val (.int e1), .val (.int g1), .val (.int (1 : Int32)), .val (.int (0 : Int32))] [])) (fun t k => XS.ifNo X0.here hx rfl (Jvm.hb hby d5_46) rfl ((if0 _ _).trans (feq (by decide : ¬ ((1 : Int32) = (0 : Int32)))).1) k) ?_
          refine own_go (B := s₁.setTop (mkF m 51 #[.val (.int x1), .val (.int a1), .val (.int b1), .val (.int c1), .val (.int d1), .val (.int e1), .val (.int g1), .val (.int (1 : Int32)), .val (.int (0 : Int32))] [(.int (0 : Int32))])) (fun t k => XS.iload X0.here hx rfl (Jvm.hb hby d5_49) rfl k) ?_
          refine own_go (B := s₁.setTop (mkF m 54 #[.val (.int x1), .val (.int a1), .val (.int b1), .val (.int c1), .val (.int d1), .val (.int e1), .val (.int g1), .val (.int (1 : Int32)), .val (.int (0 : Int32))] [])) (fun t k => XS.ifNo X0.here hx rfl (Jvm.hb hby d5_51) rfl ((if0 _ _).trans (teq (by decide : (0 : Int32) = (0 : Int32))).2) k) ?_
          refine own_go (B := s₁.setTop (mkF m 55 #[.val (.int x1), .val (.int a1), .val (.int b1), .val (.int c1), .val (.int d1), .val (.int e1), .val (.int g1), .val (.int (1 : Int32)), .val (.int (0 : Int32))] [(.int (1 : Int32))])) (fun t k => XS.iconst X0.here hx rfl (Jvm.hb hby d5_54) k) ?_
          refine own_go (B := s₁.setTop (mkF m 59 #[.val (.int x1), .val (.int a1), .val (.int b1), .val (.int c1), .val (.int d1), .val (.int e1), .val (.int g1), .val (.int (1 : Int32)), .val (.int (0 : Int32))] [(.int (1 : Int32))])) (fun t k => XS.goto X0.here hx rfl (pc0 := 55) (pc' := 59) rfl (Jvm.hb hby d5_55) (by decide) (by decide) k) ?_
          refine own_out X0 (v := (some (.int (1 : Int32)))) (fun h => by rw [Bd.returns] at h; cases h) Bd.notSynchronized (fun fs hr => retOut X0 hx (t := .boolean) Bd.returns rfl (by first | exact Or.inl ⟨rfl, by simp, _, rfl⟩) (Jvm.hb hby d5_59) hr) ?_ (by decide) (by decide)
          show own_Q5 Z x1 a1 b1 c1 d1 e1 g1 h0 n0 (some (.int (1 : Int32))) s₁.heap _
          rw [e0]
          exact ⟨congrArg (fun z => some (Value.int z)) (by unfold own_f5; simp only [if_neg hc2_20, if_pos hc7_29, if_neg hc29_30, if_neg hc34_31]), N0, rfl⟩
    · refine own_go (B := s₁.setTop (mkF m 10 #[.val (.int x1), .val (.int a1), .val (.int b1), .val (.int c1), .val (.int d1), .val (.int e1), .val (.int g1), .unset, .unset] [])) (fun t k => XS.icmpNo X0.here hx rfl (Jvm.hb hby d5_7) rfl (feq hc7_29).1 k) ?_
      refine own_go (B := s₁.setTop (mkF m 12 #[.val (.int x1), .val (.int a1), .val (.int b1), .val (.int c1), .val (.int d1), .val (.int e1), .val (.int g1), .unset, .unset] [(.int e1)])) (fun t k => XS.iload X0.here hx rfl (Jvm.hb hby d5_10) rfl k) ?_
      by_cases hc12_32 : e1 = (0 : Int32)
      · refine own_go (B := s₁.setTop (mkF m 24 #[.val (.int x1), .val (.int a1), .val (.int b1), .val (.int c1), .val (.int d1), .val (.int e1), .val (.int g1), .unset, .unset] [])) (fun t k => XS.ifYes X0.here hx rfl (pc0 := 12) (pc' := 24) rfl (Jvm.hb hby d5_12) rfl ((if0 _ _).trans (teq hc12_32).1) (by decide) (by decide) k) ?_
        refine own_go (B := s₁.setTop (mkF m 25 #[.val (.int x1), .val (.int a1), .val (.int b1), .val (.int c1), .val (.int d1), .val (.int e1), .val (.int g1), .unset, .unset] [(.int (0 : Int32))])) (fun t k => XS.iconst X0.here hx rfl (Jvm.hb hby d5_24) k) ?_
        refine own_go (B := s₁.setTop (mkF m 27 #[.val (.int x1), .val (.int a1), .val (.int b1), .val (.int c1), .val (.int d1), .val (.int e1), .val (.int g1), .val (.int (0 : Int32)), .unset] [])) (fun t k => XS.istore X0.here hx rfl (Jvm.hb hby d5_25) rfl (l' := #[.val (.int x1), .val (.int a1), .val (.int b1), .val (.int c1), .val (.int d1), .val (.int e1), .val (.int g1), .val (.int (0 : Int32)), .unset]) rfl k) ?_
        refine own_go (B := s₁.setTop (mkF m 29 #[.val (.int x1), .val (.int a1), .val (.int b1), .val (.int c1), .val (.int d1), .val (.int e1), .val (.int g1), .val (.int (0 : Int32)), .unset] [(.int g1)])) (fun t k => XS.iload X0.here hx rfl (Jvm.hb hby d5_27) rfl k) ?_
        by_cases hc29_33 : g1 = (0 : Int32)
        · refine own_go (B := s₁.setTop (mkF m 41 #[.val (.int x1), .val (.int a1), .val (.int b1), .val (.int c1), .val (.int d1), .val (.int e1), .val (.int g1), .val (.int (0 : Int32)), .unset] [])) (fun t k => XS.ifYes X0.here hx rfl (pc0 := 29) (pc' := 41) rfl (Jvm.hb hby d5_29) rfl ((if0 _ _).trans (teq hc29_33).1) (by decide) (by decide) k) ?_
          refine own_go (B := s₁.setTop (mkF m 42 #[.val (.int x1), .val (.int a1), .val (.int b1), .val (.int c1), .val (.int d1), .val (.int e1), .val (.int g1), .val (.int (0 : Int32)), .unset] [(.int (0 : Int32))])) (fun t k => XS.iconst X0.here hx rfl (Jvm.hb hby d5_41) k) ?_
          refine own_go (B := s₁.setTop (mkF m 44 #[.val (.int x1), .val (.int a1), .val (.int b1), .val (.int c1), .val (.int d1), .val (.int e1), .val (.int g1), .val (.int (0 : Int32)), .val (.int (0 : Int32))] [])) (fun t k => XS.istore X0.here hx rfl (Jvm.hb hby d5_42) rfl (l' := #[.val (.int x1), .val (.int a1), .val (.int b1), .val (.int c1), .val (.int d1), .val (.int e1), .val (.int g1), .val (.int (0 : Int32)), .val (.int (0 : Int32))]) rfl k) ?_
          refine own_go (B := s₁.setTop (mkF m 46 #[.val (.int x1), .val (.int a1), .val (.int b1), .val (.int c1), .val (.int d1), .val (.int e1), .val (.int g1), .val (.int (0 : Int32)), .val (.int (0 : Int32))] [(.int (0 : Int32))])) (fun t k => XS.iload X0.here hx rfl (Jvm.hb hby d5_44) rfl k) ?_
          refine own_go (B := s₁.setTop (mkF m 58 #[.val (.int x1), .val (.int a1), .val (.int b1), .val (.int c1), .val (.int d1), .val (.int e1), .val (.int g1), .val (.int (0 : Int32)), .val (.int (0 : Int32))] [])) (fun t k => XS.ifYes X0.here hx rfl (pc0 := 46) (pc' := 58) rfl (Jvm.hb hby d5_46) rfl ((if0 _ _).trans (teq (by decide : (0 : Int32) = (0 : Int32))).1) (by decide) (by decide) k) ?_
          refine own_go (B := s₁.setTop (mkF m 59 #[.val (.int x1), .val (.int a1), .val (.int b1), .val (.int c1), .val (.int d1), .val (.int e1), .val (.int g1), .val (.int (0 : Int32)), .val (.int (0 : Int32))] [(.int (0 : Int32))])) (fun t k => XS.iconst X0.here hx rfl (Jvm.hb hby d5_58) k) ?_
          refine own_out X0 (v := (some (.int (0 : Int32)))) (fun h => by rw [Bd.returns] at h; cases h) Bd.notSynchronized (fun fs hr => retOut X0 hx (t := .boolean) Bd.returns rfl (by first | exact Or.inl ⟨rfl, by simp, _, rfl⟩) (Jvm.hb hby d5_59) hr) ?_ (by decide) (by decide)
          show own_Q5 Z x1 a1 b1 c1 d1 e1 g1 h0 n0 (some (.int (0 : Int32))) s₁.heap _
          rw [e0]
          exact ⟨congrArg (fun z => some (Value.int z)) (by unfold own_f5; simp only [if_neg hc2_20, if_neg hc7_29, if_pos hc12_32, if_pos hc29_33]), N0, rfl⟩
        · refine own_go (B := s₁.setTop (mkF m 32 #[.val (.int x1), .val (.int a1), .val (.int b1), .val (.int c1), .val (.int d1), .val (.int e1), .val (.int g1), .val (.int (0 : Int32)), .unset] [])) (fun t k => XS.ifNo X0.here hx rfl (Jvm.hb hby d5_29) rfl ((if0 _ _).trans (feq hc29_33).1) k) ?_
          refine own_go (B := s₁.setTop (mkF m 33 #[.val (.int x1), .val (.int a1), .val (.int b1), .val (.int c1), .val (.int d1), .val (.int e1), .val (.int g1), .val (.int (0 : Int32)), .unset] [(.int x1)])) (fun t k => XS.iloadN X0.here hx rfl (Jvm.hb hby d5_32) rfl k) ?_
          refine own_go (B := s₁.setTop (mkF m 34 #[.val (.int x1), .val (.int a1), .val (.int b1), .val (.int c1), .val (.int d1), .val (.int e1), .val (.int g1), .val (.int (0 : Int32)), .unset] [(.int c1), (.int x1)])) (fun t k => XS.iloadN X0.here hx rfl (Jvm.hb hby d5_33) rfl k) ?_
          by_cases hc34_34 : x1 = c1
          · refine own_go (B := s₁.setTop (mkF m 37 #[.val (.int x1), .val (.int a1), .val (.int b1), .val (.int c1), .val (.int d1), .val (.int e1), .val (.int g1), .val (.int (0 : Int32)), .unset] [])) (fun t k => XS.icmpNo X0.here hx rfl (Jvm.hb hby d5_34) rfl (teq hc34_34).2 k) ?_
            refine own_go (B := s₁.setTop (mkF m 38 #[.val (.int x1), .val (.int a1), .val (.int b1), .val (.int c1), .val (.int d1), .val (.int e1), .val (.int g1), .val (.int (0 : Int32)), .unset] [(.int (1 : Int32))])) (fun t k => XS.iconst X0.here hx rfl (Jvm.hb hby d5_37) k) ?_
            refine own_go (B := s₁.setTop (mkF m 42 #[.val (.int x1), .val (.int a1), .val (.int b1), .val (.int c1), .val (.int d1), .val (.int e1), .val (.int g1), .val (.int (0 : Int32)), .unset] [(.int (1 : Int32))])) (fun t k => XS.goto X0.here hx rfl (pc0 := 38) (pc' := 42) rfl (Jvm.hb hby d5_38) (by decide) (by decide) k) ?_
            refine own_go (B := s₁.setTop (mkF m 44 #[.val (.int x1), .val (.int a1), .val (.int b1), .val (.int c1), .val (.int d1), .val (.int e1), .val (.int g1), .val (.int (0 : Int32)), .val (.int (1 : Int32))] [])) (fun t k => XS.istore X0.here hx rfl (Jvm.hb hby d5_42) rfl (l' := #[.val (.int x1), .val (.int a1), .val (.int b1), .val (.int c1), .val (.int d1), .val (.int e1), .val (.int g1), .val (.int (0 : Int32)), .val (.int (1 : Int32))]) rfl k) ?_
            refine own_go (B := s₁.setTop (mkF m 46 #[.val (.int x1), .val (.int a1), .val (.int b1), .val (.int c1), .val (.int d1), .val (.int e1), .val (.int g1), .val (.int (0 : Int32)), .val (.int (1 : Int32))] [(.int (0 : Int32))])) (fun t k => XS.iload X0.here hx rfl (Jvm.hb hby d5_44) rfl k) ?_
            refine own_go (B := s₁.setTop (mkF m 58 #[.val (.int x1), .val (.int a1), .val (.int b1), .val (.int c1), .val (.int d1), .val (.int e1), .val (.int g1), .val (.int (0 : Int32)), .val (.int (1 : Int32))] [])) (fun t k => XS.ifYes X0.here hx rfl (pc0 := 46) (pc' := 58) rfl (Jvm.hb hby d5_46) rfl ((if0 _ _).trans (teq (by decide : (0 : Int32) = (0 : Int32))).1) (by decide) (by decide) k) ?_
            refine own_go (B := s₁.setTop (mkF m 59 #[.val (.int x1), .val (.int a1), .val (.int b1), .val (.int c1), .val (.int d1), .val (.int e1), .val (.int g1), .val (.int (0 : Int32)), .val (.int (1 : Int32))] [(.int (0 : Int32))])) (fun t k => XS.iconst X0.here hx rfl (Jvm.hb hby d5_58) k) ?_
            refine own_out X0 (v := (some (.int (0 : Int32)))) (fun h => by rw [Bd.returns] at h; cases h) Bd.notSynchronized (fun fs hr => retOut X0 hx (t := .boolean) Bd.returns rfl (by first | exact Or.inl ⟨rfl, by simp, _, rfl⟩) (Jvm.hb hby d5_59) hr) ?_ (by decide) (by decide)
            show own_Q5 Z x1 a1 b1 c1 d1 e1 g1 h0 n0 (some (.int (0 : Int32))) s₁.heap _
            rw [e0]
            exact ⟨congrArg (fun z => some (Value.int z)) (by unfold own_f5; simp only [if_neg hc2_20, if_neg hc7_29, if_pos hc12_32, if_neg hc29_33, if_pos hc34_34]), N0, rfl⟩
          · refine own_go (B := s₁.setTop (mkF m 41 #[.val (.int x1), .val (.int a1), .val (.int b1), .val (.int c1), .val (.int d1), .val (.int e1), .val (.int g1), .val (.int (0 : Int32)), .unset] [])) (fun t k => XS.icmpYes X0.here hx rfl (pc0 := 34) (pc' := 41) rfl (Jvm.hb hby d5_34) rfl (feq hc34_34).2 (by decide) (by decide) k) ?_
            refine own_go (B := s₁.setTop (mkF m 42 #[.val (.int x1), .val (.int a1), .val (.int b1), .val (.int c1), .val (.int d1), .val (.int e1), .val (.int g1), .val (.int (0 : Int32)), .unset] [(.int (0 : Int32))])) (fun t k => XS.iconst X0.here hx rfl (Jvm.hb hby d5_41) k) ?_
            refine own_go (B := s₁.setTop (mkF m 44 #[.val (.int x1), .val (.int a1), .val (.int b1), .val (.int c1), .val (.int d1), .val (.int e1), .val (.int g1), .val (.int (0 : Int32)), .val (.int (0 : Int32))] [])) (fun t k => XS.istore X0.here hx rfl (Jvm.hb hby d5_42) rfl (l' := #[.val (.int x1), .val (.int a1), .val (.int b1), .val (.int c1), .val (.int d1), .val (.int e1), .val (.int g1), .val (.int (0 : Int32)), .val (.int (0 : Int32))]) rfl k) ?_
            refine own_go (B := s₁.setTop (mkF m 46 #[.val (.int x1), .val (.int a1), .val (.int b1), .val (.int c1), .val (.int d1), .val (.int e1), .val (.int g1), .val (.int (0 : Int32)), .val (.int (0 : Int32))] [(.int (0 : Int32))])) (fun t k => XS.iload X0.here hx rfl (Jvm.hb hby d5_44) rfl k) ?_
            refine own_go (B := s₁.setTop (mkF m 58 #[.val (.int x1), .val (.int a1), .val (.int b1), .val (.int c1), .val (.int d1), .val (.int e1), .val (.int g1), .val (.int (0 : Int32)), .val (.int (0 : Int32))] [])) (fun t k => XS.ifYes X0.here hx rfl (pc0 := 46) (pc' := 58) rfl (Jvm.hb hby d5_46) rfl ((if0 _ _).trans (teq (by decide : (0 : Int32) = (0 : Int32))).1) (by decide) (by decide) k) ?_
            refine own_go (B := s₁.setTop (mkF m 59 #[.val (.int x1), .val (.int a1), .val (.int b1), .val (.int c1), .val (.int d1), .val (.int e1), .val (.int g1), .val (.int (0 : Int32)), .val (.int (0 : Int32))] [(.int (0 : Int32))])) (fun t k => XS.iconst X0.here hx rfl (Jvm.hb hby d5_58) k) ?_
            refine own_out X0 (v := (some (.int (0 : Int32)))) (fun h => by rw [Bd.returns] at h; cases h) Bd.notSynchronized (fun fs hr => retOut X0 hx (t := .boolean) Bd.returns rfl (by first | exact Or.inl ⟨rfl, by simp, _, rfl⟩) (Jvm.hb hby d5_59) hr) ?_ (by decide) (by decide)
            show own_Q5 Z x1 a1 b1 c1 d1 e1 g1 h0 n0 (some (.int (0 : Int32))) s₁.heap _
            rw [e0]
            exact ⟨congrArg (fun z => some (Value.int z)) (by unfold own_f5; simp only [if_neg hc2_20, if_neg hc7_29, if_pos hc12_32, if_neg hc29_33, if_neg hc34_34]), N0, rfl⟩
      · refine own_go (B := s₁.setTop (mkF m 15 #[.val (.int x1), .val (.int a1), .val (.int b1), .val (.int c1), .val (.int d1), .val (.int e1), .val (.int g1), .unset, .unset] [])) (fun t k => XS.ifNo X0.here hx rfl (Jvm.hb hby d5_12) rfl ((if0 _ _).trans (feq hc12_32).1) k) ?_
        refine own_go (B := s₁.setTop (mkF m 16 #[.val (.int x1), .val (.int a1), .val (.int b1), .val (.int c1), .val (.int d1), .val (.int e1), .val (.int g1), .unset, .unset] [(.int x1)])) (fun t k => XS.iloadN X0.here hx rfl (Jvm.hb hby d5_15) rfl k) ?_
        refine own_go (B := s₁.setTop (mkF m 17 #[.val (.int x1), .val (.int a1), .val (.int b1), .val (.int c1), .val (.int d1), .val (.int e1), .val (.int g1), .unset, .unset] [(.int b1), (.int x1)])) (fun t k => XS.iloadN X0.here hx rfl (Jvm.hb hby d5_16) rfl k) ?_
        by_cases hc17_35 : x1 = b1
        · refine own_go (B := s₁.setTop (mkF m 20 #[.val (.int x1), .val (.int a1), .val (.int b1), .val (.int c1), .val (.int d1), .val (.int e1), .val (.int g1), .unset, .unset] [])) (fun t k => XS.icmpNo X0.here hx rfl (Jvm.hb hby d5_17) rfl (teq hc17_35).2 k) ?_
          refine own_go (B := s₁.setTop (mkF m 21 #[.val (.int x1), .val (.int a1), .val (.int b1), .val (.int c1), .val (.int d1), .val (.int e1), .val (.int g1), .unset, .unset] [(.int (1 : Int32))])) (fun t k => XS.iconst X0.here hx rfl (Jvm.hb hby d5_20) k) ?_
          refine own_go (B := s₁.setTop (mkF m 25 #[.val (.int x1), .val (.int a1), .val (.int b1), .val (.int c1), .val (.int d1), .val (.int e1), .val (.int g1), .unset, .unset] [(.int (1 : Int32))])) (fun t k => XS.goto X0.here hx rfl (pc0 := 21) (pc' := 25) rfl (Jvm.hb hby d5_21) (by decide) (by decide) k) ?_
          refine own_go (B := s₁.setTop (mkF m 27 #[.val (.int x1), .val (.int a1), .val (.int b1), .val (.int c1), .val (.int d1), .val (.int e1), .val (.int g1), .val (.int (1 : Int32)), .unset] [])) (fun t k => XS.istore X0.here hx rfl (Jvm.hb hby d5_25) rfl (l' := #[.val (.int x1), .val (.int a1), .val (.int b1), .val (.int c1), .val (.int d1), .val (.int e1), .val (.int g1), .val (.int (1 : Int32)), .unset]) rfl k) ?_
          refine own_go (B := s₁.setTop (mkF m 29 #[.val (.int x1), .val (.int a1), .val (.int b1), .val (.int c1), .val (.int d1), .val (.int e1), .val (.int g1), .val (.int (1 : Int32)), .unset] [(.int g1)])) (fun t k => XS.iload X0.here hx rfl (Jvm.hb hby d5_27) rfl k) ?_
          by_cases hc29_36 : g1 = (0 : Int32)
          · refine own_go (B := s₁.setTop (mkF m 41 #[.val (.int x1), .val (.int a1), .val (.int b1), .val (.int c1), .val (.int d1), .val (.int e1), .val (.int g1), .val (.int (1 : Int32)), .unset] [])) (fun t k => XS.ifYes X0.here hx rfl (pc0 := 29) (pc' := 41) rfl (Jvm.hb hby d5_29) rfl ((if0 _ _).trans (teq hc29_36).1) (by decide) (by decide) k) ?_
            refine own_go (B := s₁.setTop (mkF m 42 #[.val (.int x1), .val (.int a1), .val (.int b1), .val (.int c1), .val (.int d1), .val (.int e1), .val (.int g1), .val (.int (1 : Int32)), .unset] [(.int (0 : Int32))])) (fun t k => XS.iconst X0.here hx rfl (Jvm.hb hby d5_41) k) ?_
            refine own_go (B := s₁.setTop (mkF m 44 #[.val (.int x1), .val (.int a1), .val (.int b1), .val (.int c1), .val (.int d1), .val (.int e1), .val (.int g1), .val (.int (1 : Int32)), .val (.int (0 : Int32))] [])) (fun t k => XS.istore X0.here hx rfl (Jvm.hb hby d5_42) rfl (l' := #[.val (.int x1), .val (.int a1), .val (.int b1), .val (.int c1), .val (.int d1), .val (.int e1), .val (.int g1), .val (.int (1 : Int32)), .val (.int (0 : Int32))]) rfl k) ?_
            refine own_go (B := s₁.setTop (mkF m 46 #[.val (.int x1), .val (.int a1), .val (.int b1), .val (.int c1), .val (.int d1), .val (.int e1), .val (.int g1), .val (.int (1 : Int32)), .val (.int (0 : Int32))] [(.int (1 : Int32))])) (fun t k => XS.iload X0.here hx rfl (Jvm.hb hby d5_44) rfl k) ?_
            refine own_go (B := s₁.setTop (mkF m 49 #[.val (.int x1), .val (.int a1), .val (.int b1), .val (.int c1), .val (.int d1), .val (.int e1), .val (.int g1), .val (.int (1 : Int32)), .val (.int (0 : Int32))] [])) (fun t k => XS.ifNo X0.here hx rfl (Jvm.hb hby d5_46) rfl ((if0 _ _).trans (feq (by decide : ¬ ((1 : Int32) = (0 : Int32)))).1) k) ?_
            refine own_go (B := s₁.setTop (mkF m 51 #[.val (.int x1), .val (.int a1), .val (.int b1), .val (.int c1), .val (.int d1), .val (.int e1), .val (.int g1), .val (.int (1 : Int32)), .val (.int (0 : Int32))] [(.int (0 : Int32))])) (fun t k => XS.iload X0.here hx rfl (Jvm.hb hby d5_49) rfl k) ?_
            refine own_go (B := s₁.setTop (mkF m 54 #[.val (.int x1), .val (.int a1), .val (.int b1), .val (.int c1), .val (.int d1), .val (.int e1), .val (.int g1), .val (.int (1 : Int32)), .val (.int (0 : Int32))] [])) (fun t k => XS.ifNo X0.here hx rfl (Jvm.hb hby d5_51) rfl ((if0 _ _).trans (teq (by decide : (0 : Int32) = (0 : Int32))).2) k) ?_
            refine own_go (B := s₁.setTop (mkF m 55 #[.val (.int x1), .val (.int a1), .val (.int b1), .val (.int c1), .val (.int d1), .val (.int e1), .val (.int g1), .val (.int (1 : Int32)), .val (.int (0 : Int32))] [(.int (1 : Int32))])) (fun t k => XS.iconst X0.here hx rfl (Jvm.hb hby d5_54) k) ?_
            refine own_go (B := s₁.setTop (mkF m 59 #[.val (.int x1), .val (.int a1), .val (.int b1), .val (.int c1), .val (.int d1), .val (.int e1), .val (.int g1), .val (.int (1 : Int32)), .val (.int (0 : Int32))] [(.int (1 : Int32))])) (fun t k => XS.goto X0.here hx rfl (pc0 := 55) (pc' := 59) rfl (Jvm.hb hby d5_55) (by decide) (by decide) k) ?_
            refine own_out X0 (v := (some (.int (1 : Int32)))) (fun h => by rw [Bd.returns] at h; cases h) Bd.notSynchronized (fun fs hr => retOut X0 hx (t := .boolean) Bd.returns rfl (by first | exact Or.inl ⟨rfl, by simp, _, rfl⟩) (Jvm.hb hby d5_59) hr) ?_ (by decide) (by decide)
            show own_Q5 Z x1 a1 b1 c1 d1 e1 g1 h0 n0 (some (.int (1 : Int32))) s₁.heap _
            rw [e0]
            exact ⟨congrArg (fun z => some (Value.int z)) (by unfold own_f5; simp only [if_neg hc2_20, if_neg hc7_29, if_neg hc12_32, if_pos hc17_35, if_pos hc29_36]), N0, rfl⟩
          · refine own_go (B := s₁.setTop (mkF m 32 #[.val (.int x1), .val (.int a1), .val (.int b1), .val (.int c1), .val (.int d1), .val (.int e1), .val (.int g1), .val (.int (1 : Int32)), .unset] [])) (fun t k => XS.ifNo X0.here hx rfl (Jvm.hb hby d5_29) rfl ((if0 _ _).trans (feq hc29_36).1) k) ?_
            refine own_go (B := s₁.setTop (mkF m 33 #[.val (.int x1), .val (.int a1), .val (.int b1), .val (.int c1), .val (.int d1), .val (.int e1), .val (.int g1), .val (.int (1 : Int32)), .unset] [(.int x1)])) (fun t k => XS.iloadN X0.here hx rfl (Jvm.hb hby d5_32) rfl k) ?_
            refine own_go (B := s₁.setTop (mkF m 34 #[.val (.int x1), .val (.int a1), .val (.int b1), .val (.int c1), .val (.int d1), .val (.int e1), .val (.int g1), .val (.int (1 : Int32)), .unset] [(.int c1), (.int x1)])) (fun t k => XS.iloadN X0.here hx rfl (Jvm.hb hby d5_33) rfl k) ?_
            by_cases hc34_37 : x1 = c1
            · refine own_go (B := s₁.setTop (mkF m 37 #[.val (.int x1), .val (.int a1), .val (.int b1), .val (.int c1), .val (.int d1), .val (.int e1), .val (.int g1), .val (.int (1 : Int32)), .unset] [])) (fun t k => XS.icmpNo X0.here hx rfl (Jvm.hb hby d5_34) rfl (teq hc34_37).2 k) ?_
              refine own_go (B := s₁.setTop (mkF m 38 #[.val (.int x1), .val (.int a1), .val (.int b1), .val (.int c1), .val (.int d1), .val (.int e1), .val (.int g1), .val (.int (1 : Int32)), .unset] [(.int (1 : Int32))])) (fun t k => XS.iconst X0.here hx rfl (Jvm.hb hby d5_37) k) ?_
              refine own_go (B := s₁.setTop (mkF m 42 #[.val (.int x1), .val (.int a1), .val (.int b1), .val (.int c1), .val (.int d1), .val (.int e1), .val (.int g1), .val (.int (1 : Int32)), .unset] [(.int (1 : Int32))])) (fun t k => XS.goto X0.here hx rfl (pc0 := 38) (pc' := 42) rfl (Jvm.hb hby d5_38) (by decide) (by decide) k) ?_
              refine own_go (B := s₁.setTop (mkF m 44 #[.val (.int x1), .val (.int a1), .val (.int b1), .val (.int c1), .val (.int d1), .val (.int e1), .val (.int g1), .val (.int (1 : Int32)), .val (.int (1 : Int32))] [])) (fun t k => XS.istore X0.here hx rfl (Jvm.hb hby d5_42) rfl (l' := #[.val (.int x1), .val (.int a1), .val (.int b1), .val (.int c1), .val (.int d1), .val (.int e1), .val (.int g1), .val (.int (1 : Int32)), .val (.int (1 : Int32))]) rfl k) ?_
              refine own_go (B := s₁.setTop (mkF m 46 #[.val (.int x1), .val (.int a1), .val (.int b1), .val (.int c1), .val (.int d1), .val (.int e1), .val (.int g1), .val (.int (1 : Int32)), .val (.int (1 : Int32))] [(.int (1 : Int32))])) (fun t k => XS.iload X0.here hx rfl (Jvm.hb hby d5_44) rfl k) ?_
              refine own_go (B := s₁.setTop (mkF m 49 #[.val (.int x1), .val (.int a1), .val (.int b1), .val (.int c1), .val (.int d1), .val (.int e1), .val (.int g1), .val (.int (1 : Int32)), .val (.int (1 : Int32))] [])) (fun t k => XS.ifNo X0.here hx rfl (Jvm.hb hby d5_46) rfl ((if0 _ _).trans (feq (by decide : ¬ ((1 : Int32) = (0 : Int32)))).1) k) ?_
              refine own_go (B := s₁.setTop (mkF m 51 #[.val (.int x1), .val (.int a1), .val (.int b1), .val (.int c1), .val (.int d1), .val (.int e1), .val (.int g1), .val (.int (1 : Int32)), .val (.int (1 : Int32))] [(.int (1 : Int32))])) (fun t k => XS.iload X0.here hx rfl (Jvm.hb hby d5_49) rfl k) ?_
              refine own_go (B := s₁.setTop (mkF m 58 #[.val (.int x1), .val (.int a1), .val (.int b1), .val (.int c1), .val (.int d1), .val (.int e1), .val (.int g1), .val (.int (1 : Int32)), .val (.int (1 : Int32))] [])) (fun t k => XS.ifYes X0.here hx rfl (pc0 := 51) (pc' := 58) rfl (Jvm.hb hby d5_51) rfl ((if0 _ _).trans (feq (by decide : ¬ ((1 : Int32) = (0 : Int32)))).2) (by decide) (by decide) k) ?_
              refine own_go (B := s₁.setTop (mkF m 59 #[.val (.int x1), .val (.int a1), .val (.int b1), .val (.int c1), .val (.int d1), .val (.int e1), .val (.int g1), .val (.int (1 : Int32)), .val (.int (1 : Int32))] [(.int (0 : Int32))])) (fun t k => XS.iconst X0.here hx rfl (Jvm.hb hby d5_58) k) ?_
              refine own_out X0 (v := (some (.int (0 : Int32)))) (fun h => by rw [Bd.returns] at h; cases h) Bd.notSynchronized (fun fs hr => retOut X0 hx (t := .boolean) Bd.returns rfl (by first | exact Or.inl ⟨rfl, by simp, _, rfl⟩) (Jvm.hb hby d5_59) hr) ?_ (by decide) (by decide)
              show own_Q5 Z x1 a1 b1 c1 d1 e1 g1 h0 n0 (some (.int (0 : Int32))) s₁.heap _
              rw [e0]
              exact ⟨congrArg (fun z => some (Value.int z)) (by unfold own_f5; simp only [if_neg hc2_20, if_neg hc7_29, if_neg hc12_32, if_pos hc17_35, if_neg hc29_36, if_pos hc34_37]), N0, rfl⟩
            · refine own_go (B := s₁.setTop (mkF m 41 #[.val (.int x1), .val (.int a1), .val (.int b1), .val (.int c1), .val (.int d1), .val (.int e1), .val (.int g1), .val (.int (1 : Int32)), .unset] [])) (fun t k => XS.icmpYes X0.here hx rfl (pc0 := 34) (pc' := 41) rfl (Jvm.hb hby d5_34) rfl (feq hc34_37).2 (by decide) (by decide) k) ?_
              refine own_go (B := s₁.setTop (mkF m 42 #[.val (.int x1), .val (.int a1), .val (.int b1), .val (.int c1), .val (.int d1), .val (.int e1), .val (.int g1), .val (.int (1 : Int32)), .unset] [(.int (0 : Int32))])) (fun t k => XS.iconst X0.here hx rfl (Jvm.hb hby d5_41) k) ?_
              refine own_go (B := s₁.setTop (mkF m 44 #[.val (.int x1), .val (.int a1), .val (.int b1), .val (.int c1), .val (.int d1), .val (.int e1), .val (.int g1), .val (.int (1 : Int32)), .val (.int (0 : Int32))] [])) (fun t k => XS.istore X0.here hx rfl (Jvm.hb hby d5_42) rfl (l' := #[.val (.int x1), .val (.int a1), .val (.int b1), .val (.int c1), .val (.int d1), .val (.int e1), .val (.int g1), .val (.int (1 : Int32)), .val (.int (0 : Int32))]) rfl k) ?_
              refine own_go (B := s₁.setTop (mkF m 46 #[.val (.int x1), .val (.int a1), .val (.int b1), .val (.int c1), .val (.int d1), .val (.int e1), .val (.int g1), .val (.int (1 : Int32)), .val (.int (0 : Int32))] [(.int (1 : Int32))])) (fun t k => XS.iload X0.here hx rfl (Jvm.hb hby d5_44) rfl k) ?_
              refine own_go (B := s₁.setTop (mkF m 49 #[.val (.int x1), .val (.int a1), .val (.int b1), .val (.int c1), .val (.int d1), .val (.int e1), .val (.int g1), .val (.int (1 : Int32)), .val (.int (0 : Int32))] [])) (fun t k => XS.ifNo X0.here hx rfl (Jvm.hb hby d5_46) rfl ((if0 _ _).trans (feq (by decide : ¬ ((1 : Int32) = (0 : Int32)))).1) k) ?_
              refine own_go (B := s₁.setTop (mkF m 51 #[.val (.int x1), .val (.int a1), .val (.int b1), .val (.int c1), .val (.int d1), .val (.int e1), .val (.int g1), .val (.int (1 : Int32)), .val (.int (0 : Int32))] [(.int (0 : Int32))])) (fun t k => XS.iload X0.here hx rfl (Jvm.hb hby d5_49) rfl k) ?_
              refine own_go (B := s₁.setTop (mkF m 54 #[.val (.int x1), .val (.int a1), .val (.int b1), .val (.int c1), .val (.int d1), .val (.int e1), .val (.int g1), .val (.int (1 : Int32)), .val (.int (0 : Int32))] [])) (fun t k => XS.ifNo X0.here hx rfl (Jvm.hb hby d5_51) rfl ((if0 _ _).trans (teq (by decide : (0 : Int32) = (0 : Int32))).2) k) ?_
              refine own_go (B := s₁.setTop (mkF m 55 #[.val (.int x1), .val (.int a1), .val (.int b1), .val (.int c1), .val (.int d1), .val (.int e1), .val (.int g1), .val (.int (1 : Int32)), .val (.int (0 : Int32))] [(.int (1 : Int32))])) (fun t k => XS.iconst X0.here hx rfl (Jvm.hb hby d5_54) k) ?_
              refine own_go (B := s₁.setTop (mkF m 59 #[.val (.int x1), .val (.int a1), .val (.int b1), .val (.int c1), .val (.int d1), .val (.int e1), .val (.int g1), .val (.int (1 : Int32)), .val (.int (0 : Int32))] [(.int (1 : Int32))])) (fun t k => XS.goto X0.here hx rfl (pc0 := 55) (pc' := 59) rfl (Jvm.hb hby d5_55) (by decide) (by decide) k) ?_
              refine own_out X0 (v := (some (.int (1 : Int32)))) (fun h => by rw [Bd.returns] at h; cases h) Bd.notSynchronized (fun fs hr => retOut X0 hx (t := .boolean) Bd.returns rfl (by first | exact Or.inl ⟨rfl, by simp, _, rfl⟩) (Jvm.hb hby d5_59) hr) ?_ (by decide) (by decide)
              show own_Q5 Z x1 a1 b1 c1 d1 e1 g1 h0 n0 (some (.int (1 : Int32))) s₁.heap _
              rw [e0]
              exact ⟨congrArg (fun z => some (Value.int z)) (by unfold own_f5; simp only [if_neg hc2_20, if_neg hc7_29, if_neg hc12_32, if_pos hc17_35, if_neg hc29_36, if_neg hc34_37]), N0, rfl⟩
        · refine own_go (B := s₁.setTop (mkF m 24 #[.val (.int x1), .val (.int a1), .val (.int b1), .val (.int c1), .val (.int d1), .val (.int e1), .val (.int g1), .unset, .unset] [])) (fun t k => XS.icmpYes X0.here hx rfl (pc0 := 17) (pc' := 24) rfl (Jvm.hb hby d5_17) rfl (feq hc17_35).2 (by decide) (by decide) k) ?_
          refine own_go (B := s₁.setTop (mkF m 25 #[.val (.int x1), .val (.int a1), .val (.int b1), .val (.int c1), .val (.int d1), .val (.int e1), .val (.int g1), .unset, .unset] [(.int (0 : Int32))])) (fun t k => XS.iconst X0.here hx rfl (Jvm.hb hby d5_24) k) ?_
          refine own_go (B := s₁.setTop (mkF m 27 #[.val (.int x1), .val (.int a1), .val (.int b1), .val (.int c1), .val (.int d1), .val (.int e1), .val (.int g1), .val (.int (0 : Int32)), .unset] [])) (fun t k => XS.istore X0.here hx rfl (Jvm.hb hby d5_25) rfl (l' := #[.val (.int x1), .val (.int a1), .val (.int b1), .val (.int c1), .val (.int d1), .val (.int e1), .val (.int g1), .val (.int (0 : Int32)), .unset]) rfl k) ?_
          refine own_go (B := s₁.setTop (mkF m 29 #[.val (.int x1), .val (.int a1), .val (.int b1), .val (.int c1), .val (.int d1), .val (.int e1), .val (.int g1), .val (.int (0 : Int32)), .unset] [(.int g1)])) (fun t k => XS.iload X0.here hx rfl (Jvm.hb hby d5_27) rfl k) ?_
          by_cases hc29_38 : g1 = (0 : Int32)
          · refine own_go (B := s₁.setTop (mkF m 41 #[.val (.int x1), .val (.int a1), .val (.int b1), .val (.int c1), .val (.int d1), .val (.int e1), .val (.int g1), .val (.int (0 : Int32)), .unset] [])) (fun t k => XS.ifYes X0.here hx rfl (pc0 := 29) (pc' := 41) rfl (Jvm.hb hby d5_29) rfl ((if0 _ _).trans (teq hc29_38).1) (by decide) (by decide) k) ?_
            refine own_go (B := s₁.setTop (mkF m 42 #[.val (.int x1), .val (.int a1), .val (.int b1), .val (.int c1), .val (.int d1), .val (.int e1), .val (.int g1), .val (.int (0 : Int32)), .unset] [(.int (0 : Int32))])) (fun t k => XS.iconst X0.here hx rfl (Jvm.hb hby d5_41) k) ?_
            refine own_go (B := s₁.setTop (mkF m 44 #[.val (.int x1), .val (.int a1), .val (.int b1), .val (.int c1), .val (.int d1), .val (.int e1), .val (.int g1), .val (.int (0 : Int32)), .val (.int (0 : Int32))] [])) (fun t k => XS.istore X0.here hx rfl (Jvm.hb hby d5_42) rfl (l' := #[.val (.int x1), .val (.int a1), .val (.int b1), .val (.int c1), .val (.int d1), .val (.int e1), .val (.int g1), .val (.int (0 : Int32)), .val (.int (0 : Int32))]) rfl k) ?_
            refine own_go (B := s₁.setTop (mkF m 46 #[.val (.int x1), .val (.int a1), .val (.int b1), .val (.int c1), .val (.int d1), .val (.int e1), .val (.int g1), .val (.int (0 : Int32)), .val (.int (0 : Int32))] [(.int (0 : Int32))])) (fun t k => XS.iload X0.here hx rfl (Jvm.hb hby d5_44) rfl k) ?_
            refine own_go (B := s₁.setTop (mkF m 58 #[.val (.int x1), .val (.int a1), .val (.int b1), .val (.int c1), .val (.int d1), .val (.int e1), .val (.int g1), .val (.int (0 : Int32)), .val (.int (0 : Int32))] [])) (fun t k => XS.ifYes X0.here hx rfl (pc0 := 46) (pc' := 58) rfl (Jvm.hb hby d5_46) rfl ((if0 _ _).trans (teq (by decide : (0 : Int32) = (0 : Int32))).1) (by decide) (by decide) k) ?_
            refine own_go (B := s₁.setTop (mkF m 59 #[.val (.int x1), .val (.int a1), .val (.int b1), .val (.int c1), .val (.int d1), .val (.int e1), .val (.int g1), .val (.int (0 : Int32)), .val (.int (0 : Int32))] [(.int (0 : Int32))])) (fun t k => XS.iconst X0.here hx rfl (Jvm.hb hby d5_58) k) ?_
            refine own_out X0 (v := (some (.int (0 : Int32)))) (fun h => by rw [Bd.returns] at h; cases h) Bd.notSynchronized (fun fs hr => retOut X0 hx (t := .boolean) Bd.returns rfl (by first | exact Or.inl ⟨rfl, by simp, _, rfl⟩) (Jvm.hb hby d5_59) hr) ?_ (by decide) (by decide)
            show own_Q5 Z x1 a1 b1 c1 d1 e1 g1 h0 n0 (some (.int (0 : Int32))) s₁.heap _
            rw [e0]
            exact ⟨congrArg (fun z => some (Value.int z)) (by unfold own_f5; simp only [if_neg hc2_20, if_neg hc7_29, if_neg hc12_32, if_neg hc17_35, if_pos hc29_38]), N0, rfl⟩
          · refine own_go (B := s₁.setTop (mkF m 32 #[.val (.int x1), .val (.int a1), .val (.int b1), .val (.int c1), .val (.int d1), .val (.int e1), .val (.int g1), .val (.int (0 : Int32)), .unset] [])) (fun t k => XS.ifNo X0.here hx rfl (Jvm.hb hby d5_29) rfl ((if0 _ _).trans (feq hc29_38).1) k) ?_
            refine own_go (B := s₁.setTop (mkF m 33 #[.val (.int x1), .val (.int a1), .val (.int b1), .val (.int c1), .val (.int d1), .val (.int e1), .val (.int g1), .val (.int (0 : Int32)), .unset] [(.int x1)])) (fun t k => XS.iloadN X0.here hx rfl (Jvm.hb hby d5_32) rfl k) ?_
            refine own_go (B := s₁.setTop (mkF m 34 #[.val (.int x1), .val (.int a1), .val (.int b1), .val (.int c1), .val (.int d1), .val (.int e1), .val (.int g1), .val (.int (0 : Int32)), .unset] [(.int c1), (.int x1)])) (fun t k => XS.iloadN X0.here hx rfl (Jvm.hb hby d5_33) rfl k) ?_
            by_cases hc34_39 : x1 = c1
            · refine own_go (B := s₁.setTop (mkF m 37 #[.val (.int x1), .val (.int a1), .val (.int b1), .val (.int c1), .val (.int d1), .val (.int e1), .val (.int g1), .val (.int (0 : Int32)), .unset] [])) (fun t k => XS.icmpNo X0.here hx rfl (Jvm.hb hby d5_34) rfl (teq hc34_39).2 k) ?_
              refine own_go (B := s₁.setTop (mkF m 38 #[.val (.int x1), .val (.int a1), .val (.int b1), .val (.int c1), .val (.int d1), .val (.int e1), .val (.int g1), .val (.int (0 : Int32)), .unset] [(.int (1 : Int32))])) (fun t k => XS.iconst X0.here hx rfl (Jvm.hb hby d5_37) k) ?_
              refine own_go (B := s₁.setTop (mkF m 42 #[.val (.int x1), .val (.int a1), .val (.int b1), .val (.int c1), .val (.int d1), .val (.int e1), .val (.int g1), .val (.int (0 : Int32)), .unset] [(.int (1 : Int32))])) (fun t k => XS.goto X0.here hx rfl (pc0 := 38) (pc' := 42) rfl (Jvm.hb hby d5_38) (by decide) (by decide) k) ?_
              refine own_go (B := s₁.setTop (mkF m 44 #[.val (.int x1), .val (.int a1), .val (.int b1), .val (.int c1), .val (.int d1), .val (.int e1), .val (.int g1), .val (.int (0 : Int32)), .val (.int (1 : Int32))] [])) (fun t k => XS.istore X0.here hx rfl (Jvm.hb hby d5_42) rfl (l' := #[.val (.int x1), .val (.int a1), .val (.int b1), .val (.int c1), .val (.int d1), .val (.int e1), .val (.int g1), .val (.int (0 : Int32)), .val (.int (1 : Int32))]) rfl k) ?_
              refine own_go (B := s₁.setTop (mkF m 46 #[.val (.int x1), .val (.int a1), .val (.int b1), .val (.int c1), .val (.int d1), .val (.int e1), .val (.int g1), .val (.int (0 : Int32)), .val (.int (1 : Int32))] [(.int (0 : Int32))])) (fun t k => XS.iload X0.here hx rfl (Jvm.hb hby d5_44) rfl k) ?_
              refine own_go (B := s₁.setTop (mkF m 58 #[.val (.int x1), .val (.int a1), .val (.int b1), .val (.int c1), .val (.int d1), .val (.int e1), .val (.int g1), .val (.int (0 : Int32)), .val (.int (1 : Int32))] [])) (fun t k => XS.ifYes X0.here hx rfl (pc0 := 46) (pc' := 58) rfl (Jvm.hb hby d5_46) rfl ((if0 _ _).trans (teq (by decide : (0 : Int32) = (0 : Int32))).1) (by decide) (by decide) k) ?_
              refine own_go (B := s₁.setTop (mkF m 59 #[.val (.int x1), .val (.int a1), .val (.int b1), .val (.int c1), .val (.int d1), .val (.int e1), .val (.int g1), .val (.int (0 : Int32)), .val (.int (1 : Int32))] [(.int (0 : Int32))])) (fun t k => XS.iconst X0.here hx rfl (Jvm.hb hby d5_58) k) ?_
              refine own_out X0 (v := (some (.int (0 : Int32)))) (fun h => by rw [Bd.returns] at h; cases h) Bd.notSynchronized (fun fs hr => retOut X0 hx (t := .boolean) Bd.returns rfl (by first | exact Or.inl ⟨rfl, by simp, _, rfl⟩) (Jvm.hb hby d5_59) hr) ?_ (by decide) (by decide)
              show own_Q5 Z x1 a1 b1 c1 d1 e1 g1 h0 n0 (some (.int (0 : Int32))) s₁.heap _
              rw [e0]
              exact ⟨congrArg (fun z => some (Value.int z)) (by unfold own_f5; simp only [if_neg hc2_20, if_neg hc7_29, if_neg hc12_32, if_neg hc17_35, if_neg hc29_38, if_pos hc34_39]), N0, rfl⟩
            · refine own_go (B := s₁.setTop (mkF m 41 #[.val (.int x1), .val (.int a1), .val (.int b1), .val (.int c1), .val (.int d1), .val (.int e1), .val (.int g1), .val (.int (0 : Int32)), .unset] [])) (fun t k => XS.icmpYes X0.here hx rfl (pc0 := 34) (pc' := 41) rfl (Jvm.hb hby d5_34) rfl (feq hc34_39).2 (by decide) (by decide) k) ?_
              refine own_go (B := s₁.setTop (mkF m 42 #[.val (.int x1), .val (.int a1), .val (.int b1), .val (.int c1), .val (.int d1), .val (.int e1), .val (.int g1), .val (.int (0 : Int32)), .unset] [(.int (0 : Int32))])) (fun t k => XS.iconst X0.here hx rfl (Jvm.hb hby d5_41) k) ?_
              refine own_go (B := s₁.setTop (mkF m 44 #[.val (.int x1), .val (.int a1), .val (.int b1), .val (.int c1), .val (.int d1), .val (.int e1), .val (.int g1), .val (.int (0 : Int32)), .val (.int (0 : Int32))] [])) (fun t k => XS.istore X0.here hx rfl (Jvm.hb hby d5_42) rfl (l' := #[.val (.int x1), .val (.int a1), .val (.int b1), .val (.int c1), .val (.int d1), .val (.int e1), .val (.int g1), .val (.int (0 : Int32)), .val (.int (0 : Int32))]) rfl k) ?_
              refine own_go (B := s₁.setTop (mkF m 46 #[.val (.int x1), .val (.int a1), .val (.int b1), .val (.int c1), .val (.int d1), .val (.int e1), .val (.int g1), .val (.int (0 : Int32)), .val (.int (0 : Int32))] [(.int (0 : Int32))])) (fun t k => XS.iload X0.here hx rfl (Jvm.hb hby d5_44) rfl k) ?_
              refine own_go (B := s₁.setTop (mkF m 58 #[.val (.int x1), .val (.int a1), .val (.int b1), .val (.int c1), .val (.int d1), .val (.int e1), .val (.int g1), .val (.int (0 : Int32)), .val (.int (0 : Int32))] [])) (fun t k => XS.ifYes X0.here hx rfl (pc0 := 46) (pc' := 58) rfl (Jvm.hb hby d5_46) rfl ((if0 _ _).trans (teq (by decide : (0 : Int32) = (0 : Int32))).1) (by decide) (by decide) k) ?_
              refine own_go (B := s₁.setTop (mkF m 59 #[.val (.int x1), .val (.int a1), .val (.int b1), .val (.int c1), .val (.int d1), .val (.int e1), .val (.int g1), .val (.int (0 : Int32)), .val (.int (0 : Int32))] [(.int (0 : Int32))])) (fun t k => XS.iconst X0.here hx rfl (Jvm.hb hby d5_58) k) ?_
              refine own_out X0 (v := (some (.int (0 : Int32)))) (fun h => by rw [Bd.returns] at h; cases h) Bd.notSynchronized (fun fs hr => retOut X0 hx (t := .boolean) Bd.returns rfl (by first | exact Or.inl ⟨rfl, by simp, _, rfl⟩) (Jvm.hb hby d5_59) hr) ?_ (by decide) (by decide)
              show own_Q5 Z x1 a1 b1 c1 d1 e1 g1 h0 n0 (some (.int (0 : Int32))) s₁.heap _
              rw [e0]
              exact ⟨congrArg (fun z => some (Value.int z)) (by unfold own_f5; simp only [if_neg hc2_20, if_neg hc7_29, if_neg hc12_32, if_neg hc17_35, if_neg hc29_38, if_neg hc34_39]), N0, rfl⟩
theorem own_ex (x a b c A B D : Int32) : own_f5 x a b c A B D = if ((¬ A = 0 ∧ x = a) ∨ (¬ B = 0 ∧ x = b)) ∧ ¬ (¬ D = 0 ∧ x = c) then (1 : Int32) else (0 : Int32) := by
  unfold own_f5
  (repeat' split) <;> simp_all
theorem own_rem (p n r : Int32) (h : r = (p &&& (2147483647 : Int32)) % n) (hn : 1 ≤ n.toInt) : 0 ≤ r.toInt ∧ r.toInt < n.toInt := by
  have h1 := c_and p 2147483647 (by decide)
  have h2 := (c_iremV (p &&& (2147483647 : Int32)) n).1 h1.1 (by omega)
  rw [h]; omega
theorem own_n (p n : Int32) (h : n = (1 : Int32) + (p &&& (1023 : Int32))) : 1 ≤ n.toInt ∧ n.toInt ≤ 1024 := by
  have h1 := c_and p 1023 (by decide)
  have h2 := c_iadd 1 (p &&& 1023)
  have e : (1023 : Int32).toInt = 1023 := rfl
  have e1 : (1 : Int32).toInt = 1 := rfl
  rw [← h, e1] at h2; rw [e] at h1
  have r := rng32 n
  omega
theorem pd_1 : parseMethodDescriptor "(I)V" = some ⟨[.int], none⟩ := by decide +kernel
theorem pd_2 : parseMethodDescriptor "(I)Z" = some ⟨[.int], some .boolean⟩ := by decide +kernel
theorem pd_3 : parseMethodDescriptor "(IIIIZZZ)Z" = some ⟨[.int, .int, .int, .int, .boolean, .boolean, .boolean], some .boolean⟩ := by decide +kernel
theorem ef_0 (m : MethodId) (x0 : Int32) (x1 : Int32) (x2 : Int32) (x3 : Int32) (x4 : Int32) (x5 : Int32) : entryFrame m #[(.int x0), (.int x1), (.int x2), (.int x3), (.int x4), (.int x5)] maxLocals = mkF m 0 #[.val (.int x0), .val (.int x1), .val (.int x2), .val (.int x3), .val (.int x4), .val (.int x5), .unset, .unset, .unset, .unset, .unset, .unset, .unset, .unset, .unset, .unset, .unset] [] := by first | (simp [entryFrame, mkF, argsToLocals, Value.category, maxLocals]; done) | rfl
def own_Q0 (Z : State) (p1 : Int32) (p2 : Int32) (p3 : Int32) (p4 : Int32) (p5 : Int32) (p6 : Int32) (h0 : Heap) (n0 : Nat) (v : Option Value) (h : Heap) (L : List Loc) : Prop := v = some (.int 1) ∧ Fr n0 L
set_option maxRecDepth 65536 in
set_option maxHeartbeats 40000000 in
theorem rm0 (l : Launch) (Z : State) (a0 : Array Value) (hw : ∀ d ∈ tables_1, d.before a0 Z = true) (ws : List Jvm.Cond) (p1 : Int32) (p2 : Int32) (p3 : Int32) (p4 : Int32) (p5 : Int32) (p6 : Int32) (h0 : Heap) (n0 : Nat) (Z0 : n0 ≤ h0.size)  :
    MetFree l x (head1 (Jvm.Cond.code x code maxLocals ret :: ws) room_1) (fun a U => a = #[(.int p1), (.int p2), (.int p3), (.int p4), (.int p5), (.int p6)] ∧ Z.Warmed39 U.vm ∧ U.heap = h0) (fun _ _ _ _ _ => True) (fun _ U o U' => ∃ v L, o = .returned v ∧ own_Q0 Z p1 p2 p3 p4 p5 p6 h0 n0 v U'.heap L ∧ FrameEnd U o U' L room_1.cells room_1.slots) := by
  refine MetFree.of_bodySF (plainFor_of_name pn_com_example_netloom_netloom_embed_NodeSetContainsPinLaw) hisR ?_
  intro p e s m args below meth c s₁ Bd hml0 hP hK
  obtain ⟨rfl, hZ, hh⟩ := hP
  have hx := Bd.exec
  have hby := Bd.bytes
  have hml : c.maxLocals = 17 := hml0
  have hown : s.vm.findClass "com/example/netloom/netloom/embed/NodeSetContainsPinLaw" = some m.cls := findClass_of_methodNamed Bd.named
  have hnm := (name_of_methodNamed Bd.named Bd.method).1
  have X0 : Stand p l e room_1 s m #[(.int p1), (.int p2), (.int p3), (.int p4), (.int p5), (.int p6)] below meth c s₁ [] 0 0 := Stand.of_body Bd
  have e0 : s₁.heap = h0 := by rw [← hh, Bd.state]; rfl
  have N0 := Fr.nil n0
  have Zs := Z0
  show own_Goes p e below s (own_Q0 Z p1 p2 p3 p4 p5 p6 h0 n0) room_1.cells room_1.slots _
  refine own_go (B := s₁.setTop (mkF m 0 #[.val (.int p1), .val (.int p2), .val (.int p3), .val (.int p4), .val (.int p5), .val (.int p6), .unset, .unset, .unset, .unset, .unset, .unset, .unset, .unset, .unset, .unset, .unset] [])) (fun t k => castTop (ef_0 m p1 p2 p3 p4 p5 p6) k) ?_
  refine own_go (B := s₁.setTop (mkF m 1 #[.val (.int p1), .val (.int p2), .val (.int p3), .val (.int p4), .val (.int p5), .val (.int p6), .unset, .unset, .unset, .unset, .unset, .unset, .unset, .unset, .unset, .unset, .unset] [(.int (1 : Int32))])) (fun t k => XS.iconst X0.here hx rfl (Jvm.hb hby at_0) k) ?_
  refine own_go (B := s₁.setTop (mkF m 2 #[.val (.int p1), .val (.int p2), .val (.int p3), .val (.int p4), .val (.int p5), .val (.int p6), .unset, .unset, .unset, .unset, .unset, .unset, .unset, .unset, .unset, .unset, .unset] [(.int p1), (.int (1 : Int32))])) (fun t k => XS.iloadN X0.here hx rfl (Jvm.hb hby at_1) rfl k) ?_
  refine own_go (B := s₁.setTop (mkF m 5 #[.val (.int p1), .val (.int p2), .val (.int p3), .val (.int p4), .val (.int p5), .val (.int p6), .unset, .unset, .unset, .unset, .unset, .unset, .unset, .unset, .unset, .unset, .unset] [(.int (1023 : Int32)), (.int p1), (.int (1 : Int32))])) (fun t k => XS.sipush X0.here hx rfl (Jvm.hb hby at_2) k) ?_
  refine own_go (B := s₁.setTop (mkF m 6 #[.val (.int p1), .val (.int p2), .val (.int p3), .val (.int p4), .val (.int p5), .val (.int p6), .unset, .unset, .unset, .unset, .unset, .unset, .unset, .unset, .unset, .unset, .unset] [(.int (p1 &&& (1023 : Int32))), (.int (1 : Int32))])) (fun t k => XS.iand X0.here hx rfl (Jvm.hb hby at_5) rfl k) ?_
  refine own_go (B := s₁.setTop (mkF m 7 #[.val (.int p1), .val (.int p2), .val (.int p3), .val (.int p4), .val (.int p5), .val (.int p6), .unset, .unset, .unset, .unset, .unset, .unset, .unset, .unset, .unset, .unset, .unset] [(.int ((1 : Int32) + (p1 &&& (1023 : Int32))))])) (fun t k => XS.iadd X0.here hx rfl (Jvm.hb hby at_6) rfl k) ?_
  obtain ⟨vn, hvn⟩ : ∃ z : Int32, z = ((1 : Int32) + (p1 &&& (1023 : Int32))) := ⟨_, rfl⟩
  rw [← hvn]
  have hvnr := own_n _ vn hvn
  have hvn0 : vn ≠ 0 := by intro z; rw [z] at hvnr; exact absurd hvnr.1 (by decide)
  refine own_go (B := s₁.setTop (mkF m 9 #[.val (.int p1), .val (.int p2), .val (.int p3), .val (.int p4), .val (.int p5), .val (.int p6), .val (.int vn), .unset, .unset, .unset, .unset, .unset, .unset, .unset, .unset, .unset, .unset] [])) (fun t k => XS.istore X0.here hx rfl (Jvm.hb hby at_7) rfl (l' := #[.val (.int p1), .val (.int p2), .val (.int p3), .val (.int p4), .val (.int p5), .val (.int p6), .val (.int vn), .unset, .unset, .unset, .unset, .unset, .unset, .unset, .unset, .unset, .unset]) rfl k) ?_
  refine own_go (B := s₁.setTop (mkF m 10 #[.val (.int p1), .val (.int p2), .val (.int p3), .val (.int p4), .val (.int p5), .val (.int p6), .val (.int vn), .unset, .unset, .unset, .unset, .unset, .unset, .unset, .unset, .unset, .unset] [(.int p2)])) (fun t k => XS.iloadN X0.here hx rfl (Jvm.hb hby at_9) rfl k) ?_
  refine own_go (B := s₁.setTop (mkF m 12 #[.val (.int p1), .val (.int p2), .val (.int p3), .val (.int p4), .val (.int p5), .val (.int p6), .val (.int vn), .unset, .unset, .unset, .unset, .unset, .unset, .unset, .unset, .unset, .unset] [(.int (2147483647 : Int32)), (.int p2)])) (fun t k => X0.ldcInt hx hown (mvT hZ (own_w hw 0 rfl)) (g := (mkF m 10 #[.val (.int p1), .val (.int p2), .val (.int p3), .val (.int p4), .val (.int p5), .val (.int p6), .val (.int vn), .unset, .unset, .unset, .unset, .unset, .unset, .unset, .unset, .unset, .unset] [(.int p2)])) rfl (Jvm.hb hby at_10) _ k) ?_
  refine own_go (B := s₁.setTop (mkF m 13 #[.val (.int p1), .val (.int p2), .val (.int p3), .val (.int p4), .val (.int p5), .val (.int p6), .val (.int vn), .unset, .unset, .unset, .unset, .unset, .unset, .unset, .unset, .unset, .unset] [(.int (p2 &&& (2147483647 : Int32)))])) (fun t k => XS.iand X0.here hx rfl (Jvm.hb hby at_12) rfl k) ?_
  refine own_go (B := s₁.setTop (mkF m 15 #[.val (.int p1), .val (.int p2), .val (.int p3), .val (.int p4), .val (.int p5), .val (.int p6), .val (.int vn), .unset, .unset, .unset, .unset, .unset, .unset, .unset, .unset, .unset, .unset] [(.int vn), (.int (p2 &&& (2147483647 : Int32)))])) (fun t k => XS.iload X0.here hx rfl (Jvm.hb hby at_13) rfl k) ?_
  refine own_go (B := s₁.setTop (mkF m 16 #[.val (.int p1), .val (.int p2), .val (.int p3), .val (.int p4), .val (.int p5), .val (.int p6), .val (.int vn), .unset, .unset, .unset, .unset, .unset, .unset, .unset, .unset, .unset, .unset] [(.int ((p2 &&& (2147483647 : Int32)) % vn))])) (fun t k => own_irem X0.here hx rfl (Jvm.hb hby at_15) rfl hvn0 k) ?_
  obtain ⟨va, hva⟩ : ∃ z : Int32, z = ((p2 &&& (2147483647 : Int32)) % vn) := ⟨_, rfl⟩
  rw [← hva]
  have hvar := own_rem _ vn va hva hvnr.1
  refine own_go (B := s₁.setTop (mkF m 18 #[.val (.int p1), .val (.int p2), .val (.int p3), .val (.int p4), .val (.int p5), .val (.int p6), .val (.int vn), .val (.int va), .unset, .unset, .unset, .unset, .unset, .unset, .unset, .unset, .unset] [])) (fun t k => XS.istore X0.here hx rfl (Jvm.hb hby at_16) rfl (l' := #[.val (.int p1), .val (.int p2), .val (.int p3), .val (.int p4), .val (.int p5), .val (.int p6), .val (.int vn), .val (.int va), .unset, .unset, .unset, .unset, .unset, .unset, .unset, .unset, .unset]) rfl k) ?_
  refine own_go (B := s₁.setTop (mkF m 19 #[.val (.int p1), .val (.int p2), .val (.int p3), .val (.int p4), .val (.int p5), .val (.int p6), .val (.int vn), .val (.int va), .unset, .unset, .unset, .unset, .unset, .unset, .unset, .unset, .unset] [(.int p3)])) (fun t k => XS.iloadN X0.here hx rfl (Jvm.hb hby at_18) rfl k) ?_
  refine own_go (B := s₁.setTop (mkF m 21 #[.val (.int p1), .val (.int p2), .val (.int p3), .val (.int p4), .val (.int p5), .val (.int p6), .val (.int vn), .val (.int va), .unset, .unset, .unset, .unset, .unset, .unset, .unset, .unset, .unset] [(.int (2147483647 : Int32)), (.int p3)])) (fun t k => X0.ldcInt hx hown (mvT hZ (own_w hw 0 rfl)) (g := (mkF m 19 #[.val (.int p1), .val (.int p2), .val (.int p3), .val (.int p4), .val (.int p5), .val (.int p6), .val (.int vn), .val (.int va), .unset, .unset, .unset, .unset, .unset, .unset, .unset, .unset, .unset] [(.int p3)])) rfl (Jvm.hb hby at_19) _ k) ?_
  refine own_go (B := s₁.setTop (mkF m 22 #[.val (.int p1), .val (.int p2), .val (.int p3), .val (.int p4), .val (.int p5), .val (.int p6), .val (.int vn), .val (.int va), .unset, .unset, .unset, .unset, .unset, .unset, .unset, .unset, .unset] [(.int (p3 &&& (2147483647 : Int32)))])) (fun t k => XS.iand X0.here hx rfl (Jvm.hb hby at_21) rfl k) ?_
  refine own_go (B := s₁.setTop (mkF m 24 #[.val (.int p1), .val (.int p2), .val (.int p3), .val (.int p4), .val (.int p5), .val (.int p6), .val (.int vn), .val (.int va), .unset, .unset, .unset, .unset, .unset, .unset, .unset, .unset, .unset] [(.int vn), (.int (p3 &&& (2147483647 : Int32)))])) (fun t k => XS.iload X0.here hx rfl (Jvm.hb hby at_22) rfl k) ?_
  refine own_go (B := s₁.setTop (mkF m 25 #[.val (.int p1), .val (.int p2), .val (.int p3), .val (.int p4), .val (.int p5), .val (.int p6), .val (.int vn), .val (.int va), .unset, .unset, .unset, .unset, .unset, .unset, .unset, .unset, .unset] [(.int ((p3 &&& (2147483647 : Int32)) % vn))])) (fun t k => own_irem X0.here hx rfl (Jvm.hb hby at_24) rfl hvn0 k) ?_
  obtain ⟨vb, hvb⟩ : ∃ z : Int32, z = ((p3 &&& (2147483647 : Int32)) % vn) := ⟨_, rfl⟩
  rw [← hvb]
  have hvbr := own_rem _ vn vb hvb hvnr.1
  refine own_go (B := s₁.setTop (mkF m 27 #[.val (.int p1), .val (.int p2), .val (.int p3), .val (.int p4), .val (.int p5), .val (.int p6), .val (.int vn), .val (.int va), .val (.int vb), .unset, .unset, .unset, .unset, .unset, .unset, .unset, .unset] [])) (fun t k => XS.istore X0.here hx rfl (Jvm.hb hby at_25) rfl (l' := #[.val (.int p1), .val (.int p2), .val (.int p3), .val (.int p4), .val (.int p5), .val (.int p6), .val (.int vn), .val (.int va), .val (.int vb), .unset, .unset, .unset, .unset, .unset, .unset, .unset, .unset]) rfl k) ?_
  refine own_go (B := s₁.setTop (mkF m 28 #[.val (.int p1), .val (.int p2), .val (.int p3), .val (.int p4), .val (.int p5), .val (.int p6), .val (.int vn), .val (.int va), .val (.int vb), .unset, .unset, .unset, .unset, .unset, .unset, .unset, .unset] [(.int p4)])) (fun t k => XS.iloadN X0.here hx rfl (Jvm.hb hby at_27) rfl k) ?_
  refine own_go (B := s₁.setTop (mkF m 30 #[.val (.int p1), .val (.int p2), .val (.int p3), .val (.int p4), .val (.int p5), .val (.int p6), .val (.int vn), .val (.int va), .val (.int vb), .unset, .unset, .unset, .unset, .unset, .unset, .unset, .unset] [(.int (2147483647 : Int32)), (.int p4)])) (fun t k => X0.ldcInt hx hown (mvT hZ (own_w hw 0 rfl)) (g := (mkF m 28 #[.val (.int p1), .val (.int p2), .val (.int p3), .val (.int p4), .val (.int p5), .val (.int p6), .val (.int vn), .val (.int va), .val (.int vb), .unset, .unset, .unset, .unset, .unset, .unset, .unset, .unset] [(.int p4)])) rfl (Jvm.hb hby at_28) _ k) ?_
  refine own_go (B := s₁.setTop (mkF m 31 #[.val (.int p1), .val (.int p2), .val (.int p3), .val (.int p4), .val (.int p5), .val (.int p6), .val (.int vn), .val (.int va), .val (.int vb), .unset, .unset, .unset, .unset, .unset, .unset, .unset, .unset] [(.int (p4 &&& (2147483647 : Int32)))])) (fun t k => XS.iand X0.here hx rfl (Jvm.hb hby at_30) rfl k) ?_
  refine own_go (B := s₁.setTop (mkF m 33 #[.val (.int p1), .val (.int p2), .val (.int p3), .val (.int p4), .val (.int p5), .val (.int p6), .val (.int vn), .val (.int va), .val (.int vb), .unset, .unset, .unset, .unset, .unset, .unset, .unset, .unset] [(.int vn), (.int (p4 &&& (2147483647 : Int32)))])) (fun t k => XS.iload X0.here hx rfl (Jvm.hb hby at_31) rfl k) ?_
  refine own_go (B := s₁.setTop (mkF m 34 #[.val (.int p1), .val (.int p2), .val (.int p3), .val (.int p4), .val (.int p5), .val (.int p6), .val (.int vn), .val (.int va), .val (.int vb), .unset, .unset, .unset, .unset, .unset, .unset, .unset, .unset] [(.int ((p4 &&& (2147483647 : Int32)) % vn))])) (fun t k => own_irem X0.here hx rfl (Jvm.hb hby at_33) rfl hvn0 k) ?_
  obtain ⟨vc, hvc⟩ : ∃ z : Int32, z = ((p4 &&& (2147483647 : Int32)) % vn) := ⟨_, rfl⟩
  rw [← hvc]
  have hvcr := own_rem _ vn vc hvc hvnr.1
  refine own_go (B := s₁.setTop (mkF m 36 #[.val (.int p1), .val (.int p2), .val (.int p3), .val (.int p4), .val (.int p5), .val (.int p6), .val (.int vn), .val (.int va), .val (.int vb), .val (.int vc), .unset, .unset, .unset, .unset, .unset, .unset, .unset] [])) (fun t k => XS.istore X0.here hx rfl (Jvm.hb hby at_34) rfl (l' := #[.val (.int p1), .val (.int p2), .val (.int p3), .val (.int p4), .val (.int p5), .val (.int p6), .val (.int vn), .val (.int va), .val (.int vb), .val (.int vc), .unset, .unset, .unset, .unset, .unset, .unset, .unset]) rfl k) ?_
  refine own_go (B := s₁.setTop (mkF m 38 #[.val (.int p1), .val (.int p2), .val (.int p3), .val (.int p4), .val (.int p5), .val (.int p6), .val (.int vn), .val (.int va), .val (.int vb), .val (.int vc), .unset, .unset, .unset, .unset, .unset, .unset, .unset] [(.int p5)])) (fun t k => XS.iload X0.here hx rfl (Jvm.hb hby at_36) rfl k) ?_
  refine own_go (B := s₁.setTop (mkF m 40 #[.val (.int p1), .val (.int p2), .val (.int p3), .val (.int p4), .val (.int p5), .val (.int p6), .val (.int vn), .val (.int va), .val (.int vb), .val (.int vc), .unset, .unset, .unset, .unset, .unset, .unset, .unset] [(.int (2147483647 : Int32)), (.int p5)])) (fun t k => X0.ldcInt hx hown (mvT hZ (own_w hw 0 rfl)) (g := (mkF m 38 #[.val (.int p1), .val (.int p2), .val (.int p3), .val (.int p4), .val (.int p5), .val (.int p6), .val (.int vn), .val (.int va), .val (.int vb), .val (.int vc), .unset, .unset, .unset, .unset, .unset, .unset, .unset] [(.int p5)])) rfl (Jvm.hb hby at_38) _ k) ?_
  refine own_go (B := s₁.setTop (mkF m 41 #[.val (.int p1), .val (.int p2), .val (.int p3), .val (.int p4), .val (.int p5), .val (.int p6), .val (.int vn), .val (.int va), .val (.int vb), .val (.int vc), .unset, .unset, .unset, .unset, .unset, .unset, .unset] [(.int (p5 &&& (2147483647 : Int32)))])) (fun t k => XS.iand X0.here hx rfl (Jvm.hb hby at_40) rfl k) ?_
  refine own_go (B := s₁.setTop (mkF m 43 #[.val (.int p1), .val (.int p2), .val (.int p3), .val (.int p4), .val (.int p5), .val (.int p6), .val (.int vn), .val (.int va), .val (.int vb), .val (.int vc), .unset, .unset, .unset, .unset, .unset, .unset, .unset] [(.int vn), (.int (p5 &&& (2147483647 : Int32)))])) (fun t k => XS.iload X0.here hx rfl (Jvm.hb hby at_41) rfl k) ?_
  refine own_go (B := s₁.setTop (mkF m 44 #[.val (.int p1), .val (.int p2), .val (.int p3), .val (.int p4), .val (.int p5), .val (.int p6), .val (.int vn), .val (.int va), .val (.int vb), .val (.int vc), .unset, .unset, .unset, .unset, .unset, .unset, .unset] [(.int ((p5 &&& (2147483647 : Int32)) % vn))])) (fun t k => own_irem X0.here hx rfl (Jvm.hb hby at_43) rfl hvn0 k) ?_
  obtain ⟨vx, hvx⟩ : ∃ z : Int32, z = ((p5 &&& (2147483647 : Int32)) % vn) := ⟨_, rfl⟩
  rw [← hvx]
  have hvxr := own_rem _ vn vx hvx hvnr.1
  refine own_go (B := s₁.setTop (mkF m 46 #[.val (.int p1), .val (.int p2), .val (.int p3), .val (.int p4), .val (.int p5), .val (.int p6), .val (.int vn), .val (.int va), .val (.int vb), .val (.int vc), .val (.int vx), .unset, .unset, .unset, .unset, .unset, .unset] [])) (fun t k => XS.istore X0.here hx rfl (Jvm.hb hby at_44) rfl (l' := #[.val (.int p1), .val (.int p2), .val (.int p3), .val (.int p4), .val (.int p5), .val (.int p6), .val (.int vn), .val (.int va), .val (.int vb), .val (.int vc), .val (.int vx), .unset, .unset, .unset, .unset, .unset, .unset]) rfl k) ?_
  have J60 : ∀ (Tj60 : State) (Lj60 : List Loc) (Xj60 : Stand p l e room_1 s m #[(.int p1), (.int p2), (.int p3), (.int p4), (.int p5), (.int p6)] below meth c Tj60 Lj60 0 0) (ej60 : Tj60.heap = h0) (Nj60 : Fr n0 Lj60) (fa : Int32), own_Goes p e below s (own_Q0 Z p1 p2 p3 p4 p5 p6 h0 n0) room_1.cells room_1.slots (Tj60.setTop (mkF m 60 #[.val (.int p1), .val (.int p2), .val (.int p3), .val (.int p4), .val (.int p5), .val (.int p6), .val (.int vn), .val (.int va), .val (.int vb), .val (.int vc), .val (.int vx), .val (.int fa), .unset, .unset, .unset, .unset, .unset] [])) := by
    intro Tj60 Lj60 Xj60 ej60 Nj60 fa
    have J74 : ∀ (Tj74 : State) (Lj74 : List Loc) (Xj74 : Stand p l e room_1 s m #[(.int p1), (.int p2), (.int p3), (.int p4), (.int p5), (.int p6)] below meth c Tj74 Lj74 0 0) (ej74 : Tj74.heap = h0) (Nj74 : Fr n0 Lj74) (fb : Int32), own_Goes p e below s (own_Q0 Z p1 p2 p3 p4 p5 p6 h0 n0) room_1.cells room_1.slots (Tj74.setTop (mkF m 74 #[.val (.int p1), .val (.int p2), .val (.int p3), .val (.int p4), .val (.int p5), .val (.int p6), .val (.int vn), .val (.int va), .val (.int vb), .val (.int vc), .val (.int vx), .val (.int fa), .val (.int fb), .unset, .unset, .unset, .unset] [])) := by
      intro Tj74 Lj74 Xj74 ej74 Nj74 fb
      have J88 : ∀ (Tj88 : State) (Lj88 : List Loc) (Xj88 : Stand p l e room_1 s m #[(.int p1), (.int p2), (.int p3), (.int p4), (.int p5), (.int p6)] below meth c Tj88 Lj88 0 0) (ej88 : Tj88.heap = h0) (Nj88 : Fr n0 Lj88) (fc : Int32), own_Goes p e below s (own_Q0 Z p1 p2 p3 p4 p5 p6 h0 n0) room_1.cells room_1.slots (Tj88.setTop (mkF m 88 #[.val (.int p1), .val (.int p2), .val (.int p3), .val (.int p4), .val (.int p5), .val (.int p6), .val (.int vn), .val (.int va), .val (.int vb), .val (.int vc), .val (.int vx), .val (.int fa), .val (.int fb), .val (.int fc), .unset, .unset, .unset] [])) := by
        intro Tj88 Lj88 Xj88 ej88 Nj88 fc
        obtain ⟨T40, h40, X40, e40, E40, A40, D40, -, st40⟩ := newO Xj88 hx hZ hown (own_w hw 1 rfl) (own_w hw 2 rfl) (own_w hw 3 rfl) ej88 (g := (mkF m 88 #[.val (.int p1), .val (.int p2), .val (.int p3), .val (.int p4), .val (.int p5), .val (.int p6), .val (.int vn), .val (.int va), .val (.int vb), .val (.int vc), .val (.int vx), .val (.int fa), .val (.int fb), .val (.int fc), .unset, .unset, .unset] [])) rfl (Jvm.hb hby at_88) (by decide) (by decide)
        obtain ⟨b40, g40⟩ : ∃ z, z = h0.size := ⟨_, rfl⟩
        rw [← g40] at A40 D40 st40
        have g_b40 : n0 ≤ b40 := Nat.le_trans Zs (Nat.le_of_eq g40.symm)
        have Zs := Nat.le_trans Zs E40.1
        have E_b40 := A40
        have F_b40_words : Fld Z h40 b40 "com/example/netloom/netloom/embed/NodeSet" "words" "[J" .null := D40 (Or.inr (own_w hw 12 rfl)) (ty := (.array .long)) (by decide)
        have F_b40_occupied : Fld Z h40 b40 "com/example/netloom/netloom/embed/NodeSet" "occupied" "[J" .null := D40 (Or.inr (own_w hw 14 rfl)) (ty := (.array .long)) (by decide)
        refine own_go (B := T40.setTop (mkF m 91 #[.val (.int p1), .val (.int p2), .val (.int p3), .val (.int p4), .val (.int p5), .val (.int p6), .val (.int vn), .val (.int va), .val (.int vb), .val (.int vc), .val (.int vx), .val (.int fa), .val (.int fb), .val (.int fc), .unset, .unset, .unset] [(.ref b40)])) (fun t k => st40 _ k) ?_
        refine own_go (B := T40.setTop (mkF m 92 #[.val (.int p1), .val (.int p2), .val (.int p3), .val (.int p4), .val (.int p5), .val (.int p6), .val (.int vn), .val (.int va), .val (.int vb), .val (.int vc), .val (.int vx), .val (.int fa), .val (.int fb), .val (.int fc), .unset, .unset, .unset] [(.ref b40), (.ref b40)])) (fun t k => XS.dup X40.here hx rfl (Jvm.hb hby at_91) rfl rfl k) ?_
        refine own_go (B := T40.setTop (mkF m 94 #[.val (.int p1), .val (.int p2), .val (.int p3), .val (.int p4), .val (.int p5), .val (.int p6), .val (.int vn), .val (.int va), .val (.int vb), .val (.int vc), .val (.int vx), .val (.int fa), .val (.int fb), .val (.int fc), .unset, .unset, .unset] [(.int vn), (.ref b40), (.ref b40)])) (fun t k => XS.iload X40.here hx rfl (Jvm.hb hby at_92) rfl k) ?_
        obtain ⟨_, _, ⟨T41, La41, ka41, na41⟩, -, X41, ⟨Lc41, hQ41, l41, y41, z41⟩, st41⟩ := X40.specialBack hx (y := (⟨"com/example/netloom/netloom/embed/NodeSet", "<init>", "(I)V"⟩ : MethodName)) rfl hown (mvT hZ (own_w hw 4 rfl)) (mvT hZ (own_w hw 5 rfl)) (mvT hZ (own_w hw 6 rfl)) (by decide) (backOf (W := 1) (rm1 l Z a0 hw [] b40 vn h40 n0 Zs E_b40 F_b40_words F_b40_occupied g_b40 hvnr) hZ (own_w hw 6 rfl) (own_w hw 3 rfl) (by decide) (by decide)) (g := (mkF m 94 #[.val (.int p1), .val (.int p2), .val (.int p3), .val (.int p4), .val (.int p5), .val (.int p6), .val (.int vn), .val (.int va), .val (.int vb), .val (.int vc), .val (.int vx), .val (.int fa), .val (.int fb), .val (.int fc), .unset, .unset, .unset] [(.int vn), (.ref b40), (.ref b40)])) rfl (by rw [hml]; rfl) (Steps.refl _) (a := b40) (argsL := [(.int vn)]) (rest := [(.ref b40)]) (lenOf pd_1 rfl) rfl (by show 2 * 0 + _ ≤ _; exact Nat.le_of_eq rfl) (Jvm.hb hby at_94) (fun _ _ => ⟨rfl, e40, (by decide : 1 + 2 ≤ _), (by decide : 2 + 17 ≤ _)⟩)
        dsimp only [Pt.U, Pt.locs, Pt.cells, Pt.slots] at X41 l41 y41 z41 st41 hQ41
        subst l41 y41 z41
        obtain ⟨rfl, N41q, b42, sq_b42, b43, sq_b43, ne_b42_b43, Kc41, E_b40_q, F_b40_words_q, F_b40_occupied_q, V_b42_q, V_b43_q⟩ := hQ41
        have g_b42 : n0 ≤ b42 := Nat.le_trans Zs sq_b42
        have ne_b40_b42 : b40 ≠ b42 := Nat.ne_of_lt (Nat.lt_of_lt_of_le E_b40.lt sq_b42)
        have g_b43 : n0 ≤ b43 := Nat.le_trans Zs sq_b43
        have ne_b40_b43 : b40 ≠ b43 := Nat.ne_of_lt (Nat.lt_of_lt_of_le E_b40.lt sq_b43)
        have N41 := Fr.app Nj88 N41q
        have Zs := Nat.le_trans Zs Kc41.1
        have E_b40 := E_b40_q
        have F_b40_words := F_b40_words_q
        have F_b40_occupied := F_b40_occupied_q
        have V_b42 := V_b42_q
        have V_b43 := V_b43_q
        refine own_go (B := T41.setTop (mkF m 97 #[.val (.int p1), .val (.int p2), .val (.int p3), .val (.int p4), .val (.int p5), .val (.int p6), .val (.int vn), .val (.int va), .val (.int vb), .val (.int vc), .val (.int vx), .val (.int fa), .val (.int fb), .val (.int fc), .unset, .unset, .unset] [(.ref b40)])) (fun t k => own_st st41 k) ?_
        refine own_go (B := T41.setTop (mkF m 99 #[.val (.int p1), .val (.int p2), .val (.int p3), .val (.int p4), .val (.int p5), .val (.int p6), .val (.int vn), .val (.int va), .val (.int vb), .val (.int vc), .val (.int vx), .val (.int fa), .val (.int fb), .val (.int fc), .val (.ref b40), .unset, .unset] [])) (fun t k => XS.astore X41.here hx rfl (Jvm.hb hby at_97) rfl rfl (l' := #[.val (.int p1), .val (.int p2), .val (.int p3), .val (.int p4), .val (.int p5), .val (.int p6), .val (.int vn), .val (.int va), .val (.int vb), .val (.int vc), .val (.int vx), .val (.int fa), .val (.int fb), .val (.int fc), .val (.ref b40), .unset, .unset]) rfl k) ?_
        have J111 : ∀ (hj111 : Heap) (Tj111 : State) (Lj111 : List Loc) (Xj111 : Stand p l e room_1 s m #[(.int p1), (.int p2), (.int p3), (.int p4), (.int p5), (.int p6)] below meth c Tj111 Lj111 3 19) (ej111 : Tj111.heap = hj111) (Nj111 : Fr n0 Lj111) (Zs : n0 ≤ hj111.size) (zf : Nat → Int64) (zg : Nat → Int64) (E_b40 : Exa Z hj111 b40 "com/example/netloom/netloom/embed/NodeSet") (F_b40_words : Fld Z hj111 b40 "com/example/netloom/netloom/embed/NodeSet" "words" "[J" (.ref b42)) (F_b40_occupied : Fld Z hj111 b40 "com/example/netloom/netloom/embed/NodeSet" "occupied" "[J" (.ref b43)) (V_b42 : own_LA Z hj111 b42 (own_lw vn).toNatClampNeg zf) (V_b43 : own_LA Z hj111 b43 (own_lw (own_lw vn)).toNatClampNeg zg) (hzf : ∀ x : Int32, 0 ≤ x.toInt → (own_has zf x ↔ (¬ fa = 0 ∧ x = va))), own_Goes p e below s (own_Q0 Z p1 p2 p3 p4 p5 p6 h0 n0) room_1.cells room_1.slots (Tj111.setTop (mkF m 111 #[.val (.int p1), .val (.int p2), .val (.int p3), .val (.int p4), .val (.int p5), .val (.int p6), .val (.int vn), .val (.int va), .val (.int vb), .val (.int vc), .val (.int vx), .val (.int fa), .val (.int fb), .val (.int fc), .val (.ref b40), .unset, .unset] [])) := by
          intro hj111 Tj111 Lj111 Xj111 ej111 Nj111 Zs zf zg E_b40 F_b40_words F_b40_occupied V_b42 V_b43 hzf
          have J123 : ∀ (hj123 : Heap) (Tj123 : State) (Lj123 : List Loc) (Xj123 : Stand p l e room_1 s m #[(.int p1), (.int p2), (.int p3), (.int p4), (.int p5), (.int p6)] below meth c Tj123 Lj123 3 19) (ej123 : Tj123.heap = hj123) (Nj123 : Fr n0 Lj123) (Zs : n0 ≤ hj123.size) (zf : Nat → Int64) (zg : Nat → Int64) (E_b40 : Exa Z hj123 b40 "com/example/netloom/netloom/embed/NodeSet") (F_b40_words : Fld Z hj123 b40 "com/example/netloom/netloom/embed/NodeSet" "words" "[J" (.ref b42)) (F_b40_occupied : Fld Z hj123 b40 "com/example/netloom/netloom/embed/NodeSet" "occupied" "[J" (.ref b43)) (V_b42 : own_LA Z hj123 b42 (own_lw vn).toNatClampNeg zf) (V_b43 : own_LA Z hj123 b43 (own_lw (own_lw vn)).toNatClampNeg zg) (hzf : ∀ x : Int32, 0 ≤ x.toInt → (own_has zf x ↔ ((¬ fa = 0 ∧ x = va) ∨ (¬ fb = 0 ∧ x = vb)))), own_Goes p e below s (own_Q0 Z p1 p2 p3 p4 p5 p6 h0 n0) room_1.cells room_1.slots (Tj123.setTop (mkF m 123 #[.val (.int p1), .val (.int p2), .val (.int p3), .val (.int p4), .val (.int p5), .val (.int p6), .val (.int vn), .val (.int va), .val (.int vb), .val (.int vc), .val (.int vx), .val (.int fa), .val (.int fb), .val (.int fc), .val (.ref b40), .unset, .unset] [])) := by
            intro hj123 Tj123 Lj123 Xj123 ej123 Nj123 Zs zf zg E_b40 F_b40_words F_b40_occupied V_b42 V_b43 hzf
            have J135 : ∀ (hj135 : Heap) (Tj135 : State) (Lj135 : List Loc) (Xj135 : Stand p l e room_1 s m #[(.int p1), (.int p2), (.int p3), (.int p4), (.int p5), (.int p6)] below meth c Tj135 Lj135 3 19) (ej135 : Tj135.heap = hj135) (Nj135 : Fr n0 Lj135) (Zs : n0 ≤ hj135.size) (zf : Nat → Int64) (zg : Nat → Int64) (E_b40 : Exa Z hj135 b40 "com/example/netloom/netloom/embed/NodeSet") (F_b40_words : Fld Z hj135 b40 "com/example/netloom/netloom/embed/NodeSet" "words" "[J" (.ref b42)) (F_b40_occupied : Fld Z hj135 b40 "com/example/netloom/netloom/embed/NodeSet" "occupied" "[J" (.ref b43)) (V_b42 : own_LA Z hj135 b42 (own_lw vn).toNatClampNeg zf) (V_b43 : own_LA Z hj135 b43 (own_lw (own_lw vn)).toNatClampNeg zg) (hzf : ∀ x : Int32, 0 ≤ x.toInt → (own_has zf x ↔ (((¬ fa = 0 ∧ x = va) ∨ (¬ fb = 0 ∧ x = vb)) ∧ ¬ (¬ fc = 0 ∧ x = vc)))), own_Goes p e below s (own_Q0 Z p1 p2 p3 p4 p5 p6 h0 n0) room_1.cells room_1.slots (Tj135.setTop (mkF m 135 #[.val (.int p1), .val (.int p2), .val (.int p3), .val (.int p4), .val (.int p5), .val (.int p6), .val (.int vn), .val (.int va), .val (.int vb), .val (.int vc), .val (.int vx), .val (.int fa), .val (.int fb), .val (.int fc), .val (.ref b40), .unset, .unset] [])) := by
              intro hj135 Tj135 Lj135 Xj135 ej135 Nj135 Zs zf zg E_b40 F_b40_words F_b40_occupied V_b42 V_b43 hzf
              refine own_go (B := Tj135.setTop (mkF m 137 #[.val (.int p1), .val (.int p2), .val (.int p3), .val (.int p4), .val (.int p5), .val (.int p6), .val (.int vn), .val (.int va), .val (.int vb), .val (.int vc), .val (.int vx), .val (.int fa), .val (.int fb), .val (.int fc), .val (.ref b40), .unset, .unset] [(.ref b40)])) (fun t k => XS.aload Xj135.here hx rfl (Jvm.hb hby at_135) rfl rfl k) ?_
              refine own_go (B := Tj135.setTop (mkF m 139 #[.val (.int p1), .val (.int p2), .val (.int p3), .val (.int p4), .val (.int p5), .val (.int p6), .val (.int vn), .val (.int va), .val (.int vb), .val (.int vc), .val (.int vx), .val (.int fa), .val (.int fb), .val (.int fc), .val (.ref b40), .unset, .unset] [(.int vx), (.ref b40)])) (fun t k => XS.iload Xj135.here hx rfl (Jvm.hb hby at_137) rfl k) ?_
              obtain ⟨cq44, kq44, q44a, q44b, q44c⟩ := isOf hZ ej135 E_b40
              obtain ⟨_, _, ⟨T44, La44, ka44, na44⟩, -, X44, ⟨Lc44, hQ44, l44, y44, z44⟩, st44⟩ := Xj135.virtualBack hx (y := (⟨"com/example/netloom/netloom/embed/NodeSet", "contains", "(I)Z"⟩ : MethodName)) (z := (⟨"com/example/netloom/netloom/embed/NodeSet", "contains", "(I)Z"⟩ : MethodName)) hown (mvT hZ (own_w hw 20 rfl)) (mvT hZ (own_w hw 21 rfl)) (notFace_of_selects (args := #[]) (mvT hZ (own_w hw 23 rfl))) (mvT hZ (own_w hw 23 rfl)) (mvT hZ (own_w hw 22 rfl)) (by decide) (backOf (W := 0) (rm4 l Z a0 hw [] b40 vx b42 (own_lw vn).toNatClampNeg zf hj135 n0 Zs F_b40_words V_b42 (own_in1 _ _ hvxr (by omega)).1 (own_in1 _ _ hvxr (by omega)).2.1) hZ (own_w hw 24 rfl) (own_w hw 3 rfl) (by decide) (by decide)) q44a q44c (g := (mkF m 139 #[.val (.int p1), .val (.int p2), .val (.int p3), .val (.int p4), .val (.int p5), .val (.int p6), .val (.int vn), .val (.int va), .val (.int vb), .val (.int vc), .val (.int vx), .val (.int fa), .val (.int fb), .val (.int fc), .val (.ref b40), .unset, .unset] [(.int vx), (.ref b40)])) rfl (by rw [hml]; rfl) (Steps.refl _) (argsL := [(.int vx)]) (rest := []) (lenOf pd_2 rfl) rfl (by show 2 * 0 + _ ≤ _; exact Nat.le_of_eq rfl) (Jvm.hb hby at_139) (fun _ _ => ⟨rfl, ej135, (by decide : 3 + 0 ≤ _), (by decide : 19 + 0 ≤ _)⟩)
              dsimp only [Pt.U, Pt.locs, Pt.cells, Pt.slots] at X44 l44 y44 z44 st44 hQ44
              subst l44 y44 z44
              obtain ⟨rfl, N44q, e44⟩ := hQ44
              have N44 := Fr.app Nj135 N44q
              refine own_go (B := T44.setTop (mkF m 142 #[.val (.int p1), .val (.int p2), .val (.int p3), .val (.int p4), .val (.int p5), .val (.int p6), .val (.int vn), .val (.int va), .val (.int vb), .val (.int vc), .val (.int vx), .val (.int fa), .val (.int fb), .val (.int fc), .val (.ref b40), .unset, .unset] [(.int (own_con zf vx))])) (fun t k => own_st st44 k) ?_
              refine own_go (B := T44.setTop (mkF m 144 #[.val (.int p1), .val (.int p2), .val (.int p3), .val (.int p4), .val (.int p5), .val (.int p6), .val (.int vn), .val (.int va), .val (.int vb), .val (.int vc), .val (.int vx), .val (.int fa), .val (.int fb), .val (.int fc), .val (.ref b40), .val (.int (own_con zf vx)), .unset] [])) (fun t k => XS.istore X44.here hx rfl (Jvm.hb hby at_142) rfl (l' := #[.val (.int p1), .val (.int p2), .val (.int p3), .val (.int p4), .val (.int p5), .val (.int p6), .val (.int vn), .val (.int va), .val (.int vb), .val (.int vc), .val (.int vx), .val (.int fa), .val (.int fb), .val (.int fc), .val (.ref b40), .val (.int (own_con zf vx)), .unset]) rfl k) ?_
              refine own_go (B := T44.setTop (mkF m 146 #[.val (.int p1), .val (.int p2), .val (.int p3), .val (.int p4), .val (.int p5), .val (.int p6), .val (.int vn), .val (.int va), .val (.int vb), .val (.int vc), .val (.int vx), .val (.int fa), .val (.int fb), .val (.int fc), .val (.ref b40), .val (.int (own_con zf vx)), .unset] [(.ref b40)])) (fun t k => XS.aload X44.here hx rfl (Jvm.hb hby at_144) rfl rfl k) ?_
              refine own_go (B := T44.setTop (mkF m 148 #[.val (.int p1), .val (.int p2), .val (.int p3), .val (.int p4), .val (.int p5), .val (.int p6), .val (.int vn), .val (.int va), .val (.int vb), .val (.int vc), .val (.int vx), .val (.int fa), .val (.int fb), .val (.int fc), .val (.ref b40), .val (.int (own_con zf vx)), .unset] [(.int va), (.ref b40)])) (fun t k => XS.iload X44.here hx rfl (Jvm.hb hby at_146) rfl k) ?_
              obtain ⟨cq45, kq45, q45a, q45b, q45c⟩ := isOf hZ e44 E_b40
              obtain ⟨_, _, ⟨T45, La45, ka45, na45⟩, -, X45, ⟨Lc45, hQ45, l45, y45, z45⟩, st45⟩ := X44.virtualBack hx (y := (⟨"com/example/netloom/netloom/embed/NodeSet", "contains", "(I)Z"⟩ : MethodName)) (z := (⟨"com/example/netloom/netloom/embed/NodeSet", "contains", "(I)Z"⟩ : MethodName)) hown (mvT hZ (own_w hw 20 rfl)) (mvT hZ (own_w hw 21 rfl)) (notFace_of_selects (args := #[]) (mvT hZ (own_w hw 23 rfl))) (mvT hZ (own_w hw 23 rfl)) (mvT hZ (own_w hw 22 rfl)) (by decide) (backOf (W := 0) (rm4 l Z a0 hw [] b40 va b42 (own_lw vn).toNatClampNeg zf hj135 n0 Zs F_b40_words V_b42 (own_in1 _ _ hvar (by omega)).1 (own_in1 _ _ hvar (by omega)).2.1) hZ (own_w hw 24 rfl) (own_w hw 3 rfl) (by decide) (by decide)) q45a q45c (g := (mkF m 148 #[.val (.int p1), .val (.int p2), .val (.int p3), .val (.int p4), .val (.int p5), .val (.int p6), .val (.int vn), .val (.int va), .val (.int vb), .val (.int vc), .val (.int vx), .val (.int fa), .val (.int fb), .val (.int fc), .val (.ref b40), .val (.int (own_con zf vx)), .unset] [(.int va), (.ref b40)])) rfl (by rw [hml]; rfl) (Steps.refl _) (argsL := [(.int va)]) (rest := []) (lenOf pd_2 rfl) rfl (by show 2 * 0 + _ ≤ _; exact Nat.le_of_eq rfl) (Jvm.hb hby at_148) (fun _ _ => ⟨rfl, e44, (by decide : 3 + 0 ≤ _), (by decide : 19 + 0 ≤ _)⟩)
              dsimp only [Pt.U, Pt.locs, Pt.cells, Pt.slots] at X45 l45 y45 z45 st45 hQ45
              subst l45 y45 z45
              obtain ⟨rfl, N45q, e45⟩ := hQ45
              have N45 := Fr.app N44 N45q
              refine own_go (B := T45.setTop (mkF m 151 #[.val (.int p1), .val (.int p2), .val (.int p3), .val (.int p4), .val (.int p5), .val (.int p6), .val (.int vn), .val (.int va), .val (.int vb), .val (.int vc), .val (.int vx), .val (.int fa), .val (.int fb), .val (.int fc), .val (.ref b40), .val (.int (own_con zf vx)), .unset] [(.int (own_con zf va))])) (fun t k => own_st st45 k) ?_
              refine own_go (B := T45.setTop (mkF m 153 #[.val (.int p1), .val (.int p2), .val (.int p3), .val (.int p4), .val (.int p5), .val (.int p6), .val (.int vn), .val (.int va), .val (.int vb), .val (.int vc), .val (.int vx), .val (.int fa), .val (.int fb), .val (.int fc), .val (.ref b40), .val (.int (own_con zf vx)), .val (.int (own_con zf va))] [])) (fun t k => XS.istore X45.here hx rfl (Jvm.hb hby at_151) rfl (l' := #[.val (.int p1), .val (.int p2), .val (.int p3), .val (.int p4), .val (.int p5), .val (.int p6), .val (.int vn), .val (.int va), .val (.int vb), .val (.int vc), .val (.int vx), .val (.int fa), .val (.int fb), .val (.int fc), .val (.ref b40), .val (.int (own_con zf vx)), .val (.int (own_con zf va))]) rfl k) ?_
              refine own_go (B := T45.setTop (mkF m 155 #[.val (.int p1), .val (.int p2), .val (.int p3), .val (.int p4), .val (.int p5), .val (.int p6), .val (.int vn), .val (.int va), .val (.int vb), .val (.int vc), .val (.int vx), .val (.int fa), .val (.int fb), .val (.int fc), .val (.ref b40), .val (.int (own_con zf vx)), .val (.int (own_con zf va))] [(.int (own_con zf vx))])) (fun t k => XS.iload X45.here hx rfl (Jvm.hb hby at_153) rfl k) ?_
              refine own_go (B := T45.setTop (mkF m 157 #[.val (.int p1), .val (.int p2), .val (.int p3), .val (.int p4), .val (.int p5), .val (.int p6), .val (.int vn), .val (.int va), .val (.int vb), .val (.int vc), .val (.int vx), .val (.int fa), .val (.int fb), .val (.int fc), .val (.ref b40), .val (.int (own_con zf vx)), .val (.int (own_con zf va))] [(.int vx), (.int (own_con zf vx))])) (fun t k => XS.iload X45.here hx rfl (Jvm.hb hby at_155) rfl k) ?_
              refine own_go (B := T45.setTop (mkF m 159 #[.val (.int p1), .val (.int p2), .val (.int p3), .val (.int p4), .val (.int p5), .val (.int p6), .val (.int vn), .val (.int va), .val (.int vb), .val (.int vc), .val (.int vx), .val (.int fa), .val (.int fb), .val (.int fc), .val (.ref b40), .val (.int (own_con zf vx)), .val (.int (own_con zf va))] [(.int va), (.int vx), (.int (own_con zf vx))])) (fun t k => XS.iload X45.here hx rfl (Jvm.hb hby at_157) rfl k) ?_
              refine own_go (B := T45.setTop (mkF m 161 #[.val (.int p1), .val (.int p2), .val (.int p3), .val (.int p4), .val (.int p5), .val (.int p6), .val (.int vn), .val (.int va), .val (.int vb), .val (.int vc), .val (.int vx), .val (.int fa), .val (.int fb), .val (.int fc), .val (.ref b40), .val (.int (own_con zf vx)), .val (.int (own_con zf va))] [(.int vb), (.int va), (.int vx), (.int (own_con zf vx))])) (fun t k => XS.iload X45.here hx rfl (Jvm.hb hby at_159) rfl k) ?_
              refine own_go (B := T45.setTop (mkF m 163 #[.val (.int p1), .val (.int p2), .val (.int p3), .val (.int p4), .val (.int p5), .val (.int p6), .val (.int vn), .val (.int va), .val (.int vb), .val (.int vc), .val (.int vx), .val (.int fa), .val (.int fb), .val (.int fc), .val (.ref b40), .val (.int (own_con zf vx)), .val (.int (own_con zf va))] [(.int vc), (.int vb), (.int va), (.int vx), (.int (own_con zf vx))])) (fun t k => XS.iload X45.here hx rfl (Jvm.hb hby at_161) rfl k) ?_
              refine own_go (B := T45.setTop (mkF m 165 #[.val (.int p1), .val (.int p2), .val (.int p3), .val (.int p4), .val (.int p5), .val (.int p6), .val (.int vn), .val (.int va), .val (.int vb), .val (.int vc), .val (.int vx), .val (.int fa), .val (.int fb), .val (.int fc), .val (.ref b40), .val (.int (own_con zf vx)), .val (.int (own_con zf va))] [(.int fa), (.int vc), (.int vb), (.int va), (.int vx), (.int (own_con zf vx))])) (fun t k => XS.iload X45.here hx rfl (Jvm.hb hby at_163) rfl k) ?_
              refine own_go (B := T45.setTop (mkF m 167 #[.val (.int p1), .val (.int p2), .val (.int p3), .val (.int p4), .val (.int p5), .val (.int p6), .val (.int vn), .val (.int va), .val (.int vb), .val (.int vc), .val (.int vx), .val (.int fa), .val (.int fb), .val (.int fc), .val (.ref b40), .val (.int (own_con zf vx)), .val (.int (own_con zf va))] [(.int fb), (.int fa), (.int vc), (.int vb), (.int va), (.int vx), (.int (own_con zf vx))])) (fun t k => XS.iload X45.here hx rfl (Jvm.hb hby at_165) rfl k) ?_
              refine own_go (B := T45.setTop (mkF m 169 #[.val (.int p1), .val (.int p2), .val (.int p3), .val (.int p4), .val (.int p5), .val (.int p6), .val (.int vn), .val (.int va), .val (.int vb), .val (.int vc), .val (.int vx), .val (.int fa), .val (.int fb), .val (.int fc), .val (.ref b40), .val (.int (own_con zf vx)), .val (.int (own_con zf va))] [(.int fc), (.int fb), (.int fa), (.int vc), (.int vb), (.int va), (.int vx), (.int (own_con zf vx))])) (fun t k => XS.iload X45.here hx rfl (Jvm.hb hby at_167) rfl k) ?_
              obtain ⟨_, _, ⟨T46, La46, ka46, na46⟩, -, X46, ⟨Lc46, hQ46, l46, y46, z46⟩, st46⟩ := Jvm.LawKit.callS X45 hx (y := (⟨"com/example/netloom/netloom/embed/NodeSetContainsPinLaw", "expected", "(IIIIZZZ)Z"⟩ : MethodName)) hown (mvT hZ (own_w hw 25 rfl)) (mvT hZ (own_w hw 26 rfl)) (mvT hZ (own_w hw 27 rfl)) (mvT hZ (own_w hw 28 rfl)) (by decide) (backOf (W := 1) (rm5 l Z a0 hw [] vx va vb vc fa fb fc hj135 n0 Zs) hZ (own_w hw 28 rfl) (own_w hw 27 rfl) (by decide) (by decide)) (g := (mkF m 169 #[.val (.int p1), .val (.int p2), .val (.int p3), .val (.int p4), .val (.int p5), .val (.int p6), .val (.int vn), .val (.int va), .val (.int vb), .val (.int vc), .val (.int vx), .val (.int fa), .val (.int fb), .val (.int fc), .val (.ref b40), .val (.int (own_con zf vx)), .val (.int (own_con zf va))] [(.int fc), (.int fb), (.int fa), (.int vc), (.int vb), (.int va), (.int vx), (.int (own_con zf vx))])) rfl (by rw [hml]; rfl) (argsL := [(.int vx), (.int va), (.int vb), (.int vc), (.int fa), (.int fb), (.int fc)]) (rest := [(.int (own_con zf vx))]) (lenOf pd_3 rfl) rfl (by show 2 * 0 + _ ≤ _; exact Nat.le_of_eq rfl) (Jvm.hb hby at_169) (fun _ _ => ⟨rfl, e45, (by decide : 3 + 0 ≤ _), (by decide : 19 + 0 ≤ _)⟩)
              dsimp only [Pt.U, Pt.locs, Pt.cells, Pt.slots] at X46 l46 y46 z46 st46 hQ46
              subst l46 y46 z46
              obtain ⟨rfl, N46q, e46⟩ := hQ46
              have N46 := Fr.app N45 N46q
              refine own_go (B := T46.setTop (mkF m 172 #[.val (.int p1), .val (.int p2), .val (.int p3), .val (.int p4), .val (.int p5), .val (.int p6), .val (.int vn), .val (.int va), .val (.int vb), .val (.int vc), .val (.int vx), .val (.int fa), .val (.int fb), .val (.int fc), .val (.ref b40), .val (.int (own_con zf vx)), .val (.int (own_con zf va))] [(.int (own_f5 vx va vb vc fa fb fc)), (.int (own_con zf vx))])) (fun t k => st46 _ k) ?_
              refine own_go (B := T46.setTop (mkF m 175 #[.val (.int p1), .val (.int p2), .val (.int p3), .val (.int p4), .val (.int p5), .val (.int p6), .val (.int vn), .val (.int va), .val (.int vb), .val (.int vc), .val (.int vx), .val (.int fa), .val (.int fb), .val (.int fc), .val (.ref b40), .val (.int (own_con zf vx)), .val (.int (own_con zf va))] [])) (fun t k => XS.icmpNo X46.here hx rfl (Jvm.hb hby at_172) rfl (teq (by rw [own_ex]; unfold own_con; have := hzf vx hvxr.1; unfold own_has at this; split <;> split <;> simp_all)).2 k) ?_
              refine own_go (B := T46.setTop (mkF m 177 #[.val (.int p1), .val (.int p2), .val (.int p3), .val (.int p4), .val (.int p5), .val (.int p6), .val (.int vn), .val (.int va), .val (.int vb), .val (.int vc), .val (.int vx), .val (.int fa), .val (.int fb), .val (.int fc), .val (.ref b40), .val (.int (own_con zf vx)), .val (.int (own_con zf va))] [(.int (own_con zf va))])) (fun t k => XS.iload X46.here hx rfl (Jvm.hb hby at_175) rfl k) ?_
              refine own_go (B := T46.setTop (mkF m 179 #[.val (.int p1), .val (.int p2), .val (.int p3), .val (.int p4), .val (.int p5), .val (.int p6), .val (.int vn), .val (.int va), .val (.int vb), .val (.int vc), .val (.int vx), .val (.int fa), .val (.int fb), .val (.int fc), .val (.ref b40), .val (.int (own_con zf vx)), .val (.int (own_con zf va))] [(.int va), (.int (own_con zf va))])) (fun t k => XS.iload X46.here hx rfl (Jvm.hb hby at_177) rfl k) ?_
              refine own_go (B := T46.setTop (mkF m 181 #[.val (.int p1), .val (.int p2), .val (.int p3), .val (.int p4), .val (.int p5), .val (.int p6), .val (.int vn), .val (.int va), .val (.int vb), .val (.int vc), .val (.int vx), .val (.int fa), .val (.int fb), .val (.int fc), .val (.ref b40), .val (.int (own_con zf vx)), .val (.int (own_con zf va))] [(.int va), (.int va), (.int (own_con zf va))])) (fun t k => XS.iload X46.here hx rfl (Jvm.hb hby at_179) rfl k) ?_
              refine own_go (B := T46.setTop (mkF m 183 #[.val (.int p1), .val (.int p2), .val (.int p3), .val (.int p4), .val (.int p5), .val (.int p6), .val (.int vn), .val (.int va), .val (.int vb), .val (.int vc), .val (.int vx), .val (.int fa), .val (.int fb), .val (.int fc), .val (.ref b40), .val (.int (own_con zf vx)), .val (.int (own_con zf va))] [(.int vb), (.int va), (.int va), (.int (own_con zf va))])) (fun t k => XS.iload X46.here hx rfl (Jvm.hb hby at_181) rfl k) ?_
              refine own_go (B := T46.setTop (mkF m 185 #[.val (.int p1), .val (.int p2), .val (.int p3), .val (.int p4), .val (.int p5), .val (.int p6), .val (.int vn), .val (.int va), .val (.int vb), .val (.int vc), .val (.int vx), .val (.int fa), .val (.int fb), .val (.int fc), .val (.ref b40), .val (.int (own_con zf vx)), .val (.int (own_con zf va))] [(.int vc), (.int vb), (.int va), (.int va), (.int (own_con zf va))])) (fun t k => XS.iload X46.here hx rfl (Jvm.hb hby at_183) rfl k) ?_
              refine own_go (B := T46.setTop (mkF m 187 #[.val (.int p1), .val (.int p2), .val (.int p3), .val (.int p4), .val (.int p5), .val (.int p6), .val (.int vn), .val (.int va), .val (.int vb), .val (.int vc), .val (.int vx), .val (.int fa), .val (.int fb), .val (.int fc), .val (.ref b40), .val (.int (own_con zf vx)), .val (.int (own_con zf va))] [(.int fa), (.int vc), (.int vb), (.int va), (.int va), (.int (own_con zf va))])) (fun t k => XS.iload X46.here hx rfl (Jvm.hb hby at_185) rfl k) ?_
              refine own_go (B := T46.setTop (mkF m 189 #[.val (.int p1), .val (.int p2), .val (.int p3), .val (.int p4), .val (.int p5), .val (.int p6), .val (.int vn), .val (.int va), .val (.int vb), .val (.int vc), .val (.int vx), .val (.int fa), .val (.int fb), .val (.int fc), .val (.ref b40), .val (.int (own_con zf vx)), .val (.int (own_con zf va))] [(.int fb), (.int fa), (.int vc), (.int vb), (.int va), (.int va), (.int (own_con zf va))])) (fun t k => XS.iload X46.here hx rfl (Jvm.hb hby at_187) rfl k) ?_
              refine own_go (B := T46.setTop (mkF m 191 #[.val (.int p1), .val (.int p2), .val (.int p3), .val (.int p4), .val (.int p5), .val (.int p6), .val (.int vn), .val (.int va), .val (.int vb), .val (.int vc), .val (.int vx), .val (.int fa), .val (.int fb), .val (.int fc), .val (.ref b40), .val (.int (own_con zf vx)), .val (.int (own_con zf va))] [(.int fc), (.int fb), (.int fa), (.int vc), (.int vb), (.int va), (.int va), (.int (own_con zf va))])) (fun t k => XS.iload X46.here hx rfl (Jvm.hb hby at_189) rfl k) ?_
              obtain ⟨_, _, ⟨T47, La47, ka47, na47⟩, -, X47, ⟨Lc47, hQ47, l47, y47, z47⟩, st47⟩ := Jvm.LawKit.callS X46 hx (y := (⟨"com/example/netloom/netloom/embed/NodeSetContainsPinLaw", "expected", "(IIIIZZZ)Z"⟩ : MethodName)) hown (mvT hZ (own_w hw 25 rfl)) (mvT hZ (own_w hw 26 rfl)) (mvT hZ (own_w hw 27 rfl)) (mvT hZ (own_w hw 28 rfl)) (by decide) (backOf (W := 1) (rm5 l Z a0 hw [] va va vb vc fa fb fc hj135 n0 Zs) hZ (own_w hw 28 rfl) (own_w hw 27 rfl) (by decide) (by decide)) (g := (mkF m 191 #[.val (.int p1), .val (.int p2), .val (.int p3), .val (.int p4), .val (.int p5), .val (.int p6), .val (.int vn), .val (.int va), .val (.int vb), .val (.int vc), .val (.int vx), .val (.int fa), .val (.int fb), .val (.int fc), .val (.ref b40), .val (.int (own_con zf vx)), .val (.int (own_con zf va))] [(.int fc), (.int fb), (.int fa), (.int vc), (.int vb), (.int va), (.int va), (.int (own_con zf va))])) rfl (by rw [hml]; rfl) (argsL := [(.int va), (.int va), (.int vb), (.int vc), (.int fa), (.int fb), (.int fc)]) (rest := [(.int (own_con zf va))]) (lenOf pd_3 rfl) rfl (by show 2 * 0 + _ ≤ _; exact Nat.le_of_eq rfl) (Jvm.hb hby at_191) (fun _ _ => ⟨rfl, e46, (by decide : 3 + 0 ≤ _), (by decide : 19 + 0 ≤ _)⟩)
              dsimp only [Pt.U, Pt.locs, Pt.cells, Pt.slots] at X47 l47 y47 z47 st47 hQ47
              subst l47 y47 z47
              obtain ⟨rfl, N47q, e47⟩ := hQ47
              have N47 := Fr.app N46 N47q
              refine own_go (B := T47.setTop (mkF m 194 #[.val (.int p1), .val (.int p2), .val (.int p3), .val (.int p4), .val (.int p5), .val (.int p6), .val (.int vn), .val (.int va), .val (.int vb), .val (.int vc), .val (.int vx), .val (.int fa), .val (.int fb), .val (.int fc), .val (.ref b40), .val (.int (own_con zf vx)), .val (.int (own_con zf va))] [(.int (own_f5 va va vb vc fa fb fc)), (.int (own_con zf va))])) (fun t k => st47 _ k) ?_
              refine own_go (B := T47.setTop (mkF m 197 #[.val (.int p1), .val (.int p2), .val (.int p3), .val (.int p4), .val (.int p5), .val (.int p6), .val (.int vn), .val (.int va), .val (.int vb), .val (.int vc), .val (.int vx), .val (.int fa), .val (.int fb), .val (.int fc), .val (.ref b40), .val (.int (own_con zf vx)), .val (.int (own_con zf va))] [])) (fun t k => XS.icmpNo X47.here hx rfl (Jvm.hb hby at_194) rfl (teq (by rw [own_ex]; unfold own_con; have := hzf va hvar.1; unfold own_has at this; split <;> split <;> simp_all)).2 k) ?_
              refine own_go (B := T47.setTop (mkF m 198 #[.val (.int p1), .val (.int p2), .val (.int p3), .val (.int p4), .val (.int p5), .val (.int p6), .val (.int vn), .val (.int va), .val (.int vb), .val (.int vc), .val (.int vx), .val (.int fa), .val (.int fb), .val (.int fc), .val (.ref b40), .val (.int (own_con zf vx)), .val (.int (own_con zf va))] [(.int (1 : Int32))])) (fun t k => XS.iconst X47.here hx rfl (Jvm.hb hby at_197) k) ?_
              refine own_go (B := T47.setTop (mkF m 202 #[.val (.int p1), .val (.int p2), .val (.int p3), .val (.int p4), .val (.int p5), .val (.int p6), .val (.int vn), .val (.int va), .val (.int vb), .val (.int vc), .val (.int vx), .val (.int fa), .val (.int fb), .val (.int fc), .val (.ref b40), .val (.int (own_con zf vx)), .val (.int (own_con zf va))] [(.int (1 : Int32))])) (fun t k => XS.goto X47.here hx rfl (pc0 := 198) (pc' := 202) rfl (Jvm.hb hby at_198) (by decide) (by decide) k) ?_
              refine own_out X47 (v := (some (.int (1 : Int32)))) (fun h => by rw [Bd.returns] at h; cases h) Bd.notSynchronized (fun fs hr => retOut X47 hx (t := .boolean) Bd.returns rfl (by first | exact Or.inl ⟨rfl, by simp, _, rfl⟩) (Jvm.hb hby at_202) hr) ?_ (by decide) (by decide)
              show own_Q0 Z p1 p2 p3 p4 p5 p6 h0 n0 (some (.int (1 : Int32))) T47.heap _
              rw [e47]
              exact ⟨rfl, N47⟩
            refine own_go (B := Tj123.setTop (mkF m 125 #[.val (.int p1), .val (.int p2), .val (.int p3), .val (.int p4), .val (.int p5), .val (.int p6), .val (.int vn), .val (.int va), .val (.int vb), .val (.int vc), .val (.int vx), .val (.int fa), .val (.int fb), .val (.int fc), .val (.ref b40), .unset, .unset] [(.int fc)])) (fun t k => XS.iload Xj123.here hx rfl (Jvm.hb hby at_123) rfl k) ?_
            by_cases hc125_48 : fc = (0 : Int32)
            · refine own_go (B := Tj123.setTop (mkF m 135 #[.val (.int p1), .val (.int p2), .val (.int p3), .val (.int p4), .val (.int p5), .val (.int p6), .val (.int vn), .val (.int va), .val (.int vb), .val (.int vc), .val (.int vx), .val (.int fa), .val (.int fb), .val (.int fc), .val (.ref b40), .unset, .unset] [])) (fun t k => XS.ifYes Xj123.here hx rfl (pc0 := 125) (pc' := 135) rfl (Jvm.hb hby at_125) rfl ((if0 _ _).trans (teq hc125_48).1) (by decide) (by decide) k) ?_
              exact J135 hj123 Tj123 _ Xj123 ej123 Nj123 Zs  zf zg E_b40 F_b40_words F_b40_occupied V_b42 V_b43 (fun x hx => by have := hzf x hx; simp [hc125_48, this])
            · refine own_go (B := Tj123.setTop (mkF m 128 #[.val (.int p1), .val (.int p2), .val (.int p3), .val (.int p4), .val (.int p5), .val (.int p6), .val (.int vn), .val (.int va), .val (.int vb), .val (.int vc), .val (.int vx), .val (.int fa), .val (.int fb), .val (.int fc), .val (.ref b40), .unset, .unset] [])) (fun t k => XS.ifNo Xj123.here hx rfl (Jvm.hb hby at_125) rfl ((if0 _ _).trans (feq hc125_48).1) k) ?_
              refine own_go (B := Tj123.setTop (mkF m 130 #[.val (.int p1), .val (.int p2), .val (.int p3), .val (.int p4), .val (.int p5), .val (.int p6), .val (.int vn), .val (.int va), .val (.int vb), .val (.int vc), .val (.int vx), .val (.int fa), .val (.int fb), .val (.int fc), .val (.ref b40), .unset, .unset] [(.ref b40)])) (fun t k => XS.aload Xj123.here hx rfl (Jvm.hb hby at_128) rfl rfl k) ?_
              refine own_go (B := Tj123.setTop (mkF m 132 #[.val (.int p1), .val (.int p2), .val (.int p3), .val (.int p4), .val (.int p5), .val (.int p6), .val (.int vn), .val (.int va), .val (.int vb), .val (.int vc), .val (.int vx), .val (.int fa), .val (.int fb), .val (.int fc), .val (.ref b40), .unset, .unset] [(.int vc), (.ref b40)])) (fun t k => XS.iload Xj123.here hx rfl (Jvm.hb hby at_130) rfl k) ?_
              obtain ⟨cq49, kq49, q49a, q49b, q49c⟩ := isOf hZ ej123 E_b40
              obtain ⟨_, _, ⟨T49, La49, ka49, na49⟩, -, X49, ⟨Lc49, hQ49, l49, y49, z49⟩, st49⟩ := Xj123.virtualBack hx (y := (⟨"com/example/netloom/netloom/embed/NodeSet", "remove", "(I)V"⟩ : MethodName)) (z := (⟨"com/example/netloom/netloom/embed/NodeSet", "remove", "(I)V"⟩ : MethodName)) hown (mvT hZ (own_w hw 29 rfl)) (mvT hZ (own_w hw 30 rfl)) (notFace_of_selects (args := #[]) (mvT hZ (own_w hw 32 rfl))) (mvT hZ (own_w hw 32 rfl)) (mvT hZ (own_w hw 31 rfl)) (by decide) (backOf (W := 0) (rm6 l Z a0 hw [] b40 vc b42 b43 (own_lw vn).toNatClampNeg (own_lw (own_lw vn)).toNatClampNeg zf zg hj123 n0 Zs E_b40 F_b40_words F_b40_occupied V_b42 V_b43 g_b42 g_b43 ne_b40_b42 ne_b40_b43 ne_b42_b43 (own_in1 _ _ hvcr (by omega)).1 (own_in1 _ _ hvcr (by omega)).2.1 (own_in1 _ _ hvcr (by omega)).2.2) hZ (own_w hw 33 rfl) (own_w hw 3 rfl) (by decide) (by decide)) q49a q49c (g := (mkF m 132 #[.val (.int p1), .val (.int p2), .val (.int p3), .val (.int p4), .val (.int p5), .val (.int p6), .val (.int vn), .val (.int va), .val (.int vb), .val (.int vc), .val (.int vx), .val (.int fa), .val (.int fb), .val (.int fc), .val (.ref b40), .unset, .unset] [(.int vc), (.ref b40)])) rfl (by rw [hml]; rfl) (Steps.refl _) (argsL := [(.int vc)]) (rest := []) (lenOf pd_1 rfl) rfl (by show 2 * 0 + _ ≤ _; exact Nat.le_of_eq rfl) (Jvm.hb hby at_132) (fun _ _ => ⟨rfl, ej123, (by decide : 3 + 0 ≤ _), (by decide : 19 + 0 ≤ _)⟩)
              dsimp only [Pt.U, Pt.locs, Pt.cells, Pt.slots] at X49 l49 y49 z49 st49 hQ49
              subst l49 y49 z49
              obtain ⟨rfl, N49q, Kc49, V_b42_q, V_b43_q⟩ := hQ49
              have N49 := Fr.app Nj123 N49q
              have E_b40 := E_b40.keep Kc49
              have F_b40_words := F_b40_words.keep Kc49 (ninS ne_b40_b42 (ninS ne_b40_b43 nin0))
              have F_b40_occupied := F_b40_occupied.keep Kc49 (ninS ne_b40_b42 (ninS ne_b40_b43 nin0))
              have Zs := Nat.le_trans Zs Kc49.1
              have V_b42 := V_b42_q
              have V_b43 := V_b43_q
              refine own_go (B := T49.setTop (mkF m 135 #[.val (.int p1), .val (.int p2), .val (.int p3), .val (.int p4), .val (.int p5), .val (.int p6), .val (.int vn), .val (.int va), .val (.int vb), .val (.int vc), .val (.int vx), .val (.int fa), .val (.int fb), .val (.int fc), .val (.ref b40), .unset, .unset] [])) (fun t k => own_st st49 k) ?_
              exact J135 T49.heap T49 _ X49 rfl N49 Zs  (own_upd zf (own_ix vc) (zf (own_ix vc) &&& (own_bt vc ^^^ (-1 : Int64)))) (if (own_upd zf (own_ix vc) (zf (own_ix vc) &&& (own_bt vc ^^^ (-1 : Int64)))) (own_ix vc) = (0 : Int64) then own_upd zg (own_ix (vc / (64 : Int32))) (zg (own_ix (vc / (64 : Int32))) &&& (own_bt (vc / (64 : Int32)) ^^^ (-1 : Int64))) else zg) E_b40 F_b40_words F_b40_occupied V_b42 V_b43 (fun x hx => by rw [own_del _ vc x hvcr.1 hx]; have := hzf x hx; simp [hc125_48, this])
          refine own_go (B := Tj111.setTop (mkF m 113 #[.val (.int p1), .val (.int p2), .val (.int p3), .val (.int p4), .val (.int p5), .val (.int p6), .val (.int vn), .val (.int va), .val (.int vb), .val (.int vc), .val (.int vx), .val (.int fa), .val (.int fb), .val (.int fc), .val (.ref b40), .unset, .unset] [(.int fb)])) (fun t k => XS.iload Xj111.here hx rfl (Jvm.hb hby at_111) rfl k) ?_
          by_cases hc113_50 : fb = (0 : Int32)
          · refine own_go (B := Tj111.setTop (mkF m 123 #[.val (.int p1), .val (.int p2), .val (.int p3), .val (.int p4), .val (.int p5), .val (.int p6), .val (.int vn), .val (.int va), .val (.int vb), .val (.int vc), .val (.int vx), .val (.int fa), .val (.int fb), .val (.int fc), .val (.ref b40), .unset, .unset] [])) (fun t k => XS.ifYes Xj111.here hx rfl (pc0 := 113) (pc' := 123) rfl (Jvm.hb hby at_113) rfl ((if0 _ _).trans (teq hc113_50).1) (by decide) (by decide) k) ?_
            exact J123 hj111 Tj111 _ Xj111 ej111 Nj111 Zs  zf zg E_b40 F_b40_words F_b40_occupied V_b42 V_b43 (fun x hx => by have := hzf x hx; simp [hc113_50, this])
          · refine own_go (B := Tj111.setTop (mkF m 116 #[.val (.int p1), .val (.int p2), .val (.int p3), .val (.int p4), .val (.int p5), .val (.int p6), .val (.int vn), .val (.int va), .val (.int vb), .val (.int vc), .val (.int vx), .val (.int fa), .val (.int fb), .val (.int fc), .val (.ref b40), .unset, .unset] [])) (fun t k => XS.ifNo Xj111.here hx rfl (Jvm.hb hby at_113) rfl ((if0 _ _).trans (feq hc113_50).1) k) ?_
            refine own_go (B := Tj111.setTop (mkF m 118 #[.val (.int p1), .val (.int p2), .val (.int p3), .val (.int p4), .val (.int p5), .val (.int p6), .val (.int vn), .val (.int va), .val (.int vb), .val (.int vc), .val (.int vx), .val (.int fa), .val (.int fb), .val (.int fc), .val (.ref b40), .unset, .unset] [(.ref b40)])) (fun t k => XS.aload Xj111.here hx rfl (Jvm.hb hby at_116) rfl rfl k) ?_
            refine own_go (B := Tj111.setTop (mkF m 120 #[.val (.int p1), .val (.int p2), .val (.int p3), .val (.int p4), .val (.int p5), .val (.int p6), .val (.int vn), .val (.int va), .val (.int vb), .val (.int vc), .val (.int vx), .val (.int fa), .val (.int fb), .val (.int fc), .val (.ref b40), .unset, .unset] [(.int vb), (.ref b40)])) (fun t k => XS.iload Xj111.here hx rfl (Jvm.hb hby at_118) rfl k) ?_
            obtain ⟨cq51, kq51, q51a, q51b, q51c⟩ := isOf hZ ej111 E_b40
            obtain ⟨_, _, ⟨T51, La51, ka51, na51⟩, -, X51, ⟨Lc51, hQ51, l51, y51, z51⟩, st51⟩ := Xj111.virtualBack hx (y := (⟨"com/example/netloom/netloom/embed/NodeSet", "add", "(I)V"⟩ : MethodName)) (z := (⟨"com/example/netloom/netloom/embed/NodeSet", "add", "(I)V"⟩ : MethodName)) hown (mvT hZ (own_w hw 15 rfl)) (mvT hZ (own_w hw 16 rfl)) (notFace_of_selects (args := #[]) (mvT hZ (own_w hw 18 rfl))) (mvT hZ (own_w hw 18 rfl)) (mvT hZ (own_w hw 17 rfl)) (by decide) (backOf (W := 0) (rm3 l Z a0 hw [] b40 vb b42 b43 (own_lw vn).toNatClampNeg (own_lw (own_lw vn)).toNatClampNeg zf zg hj111 n0 Zs E_b40 F_b40_words F_b40_occupied V_b42 V_b43 g_b42 g_b43 ne_b40_b42 ne_b40_b43 ne_b42_b43 (own_in1 _ _ hvbr (by omega)).1 (own_in1 _ _ hvbr (by omega)).2.1 (own_in1 _ _ hvbr (by omega)).2.2) hZ (own_w hw 19 rfl) (own_w hw 3 rfl) (by decide) (by decide)) q51a q51c (g := (mkF m 120 #[.val (.int p1), .val (.int p2), .val (.int p3), .val (.int p4), .val (.int p5), .val (.int p6), .val (.int vn), .val (.int va), .val (.int vb), .val (.int vc), .val (.int vx), .val (.int fa), .val (.int fb), .val (.int fc), .val (.ref b40), .unset, .unset] [(.int vb), (.ref b40)])) rfl (by rw [hml]; rfl) (Steps.refl _) (argsL := [(.int vb)]) (rest := []) (lenOf pd_1 rfl) rfl (by show 2 * 0 + _ ≤ _; exact Nat.le_of_eq rfl) (Jvm.hb hby at_120) (fun _ _ => ⟨rfl, ej111, (by decide : 3 + 0 ≤ _), (by decide : 19 + 0 ≤ _)⟩)
            dsimp only [Pt.U, Pt.locs, Pt.cells, Pt.slots] at X51 l51 y51 z51 st51 hQ51
            subst l51 y51 z51
            obtain ⟨rfl, N51q, Kc51, V_b42_q, V_b43_q⟩ := hQ51
            have N51 := Fr.app Nj111 N51q
            have E_b40 := E_b40.keep Kc51
            have F_b40_words := F_b40_words.keep Kc51 (ninS ne_b40_b42 (ninS ne_b40_b43 nin0))
            have F_b40_occupied := F_b40_occupied.keep Kc51 (ninS ne_b40_b42 (ninS ne_b40_b43 nin0))
            have Zs := Nat.le_trans Zs Kc51.1
            have V_b42 := V_b42_q
            have V_b43 := V_b43_q
            refine own_go (B := T51.setTop (mkF m 123 #[.val (.int p1), .val (.int p2), .val (.int p3), .val (.int p4), .val (.int p5), .val (.int p6), .val (.int vn), .val (.int va), .val (.int vb), .val (.int vc), .val (.int vx), .val (.int fa), .val (.int fb), .val (.int fc), .val (.ref b40), .unset, .unset] [])) (fun t k => own_st st51 k) ?_
            exact J123 T51.heap T51 _ X51 rfl N51 Zs  (own_upd zf (own_ix vb) (zf (own_ix vb) ||| own_bt vb)) (own_upd zg (own_ix (vb / (64 : Int32))) (zg (own_ix (vb / (64 : Int32))) ||| own_bt (vb / (64 : Int32)))) E_b40 F_b40_words F_b40_occupied V_b42 V_b43 (fun x hx => by rw [own_add _ vb x hvbr.1 hx]; have := hzf x hx; simp [hc113_50, this]; exact or_comm)
        refine own_go (B := T41.setTop (mkF m 101 #[.val (.int p1), .val (.int p2), .val (.int p3), .val (.int p4), .val (.int p5), .val (.int p6), .val (.int vn), .val (.int va), .val (.int vb), .val (.int vc), .val (.int vx), .val (.int fa), .val (.int fb), .val (.int fc), .val (.ref b40), .unset, .unset] [(.int fa)])) (fun t k => XS.iload X41.here hx rfl (Jvm.hb hby at_99) rfl k) ?_
        by_cases hc101_52 : fa = (0 : Int32)
        · refine own_go (B := T41.setTop (mkF m 111 #[.val (.int p1), .val (.int p2), .val (.int p3), .val (.int p4), .val (.int p5), .val (.int p6), .val (.int vn), .val (.int va), .val (.int vb), .val (.int vc), .val (.int vx), .val (.int fa), .val (.int fb), .val (.int fc), .val (.ref b40), .unset, .unset] [])) (fun t k => XS.ifYes X41.here hx rfl (pc0 := 101) (pc' := 111) rfl (Jvm.hb hby at_101) rfl ((if0 _ _).trans (teq hc101_52).1) (by decide) (by decide) k) ?_
          exact J111 T41.heap T41 _ X41 rfl N41 Zs  (fun _ => 0) (fun _ => 0) E_b40 F_b40_words F_b40_occupied V_b42 V_b43 (fun x hx => by have := own_none x; simp [hc101_52, this])
        · refine own_go (B := T41.setTop (mkF m 104 #[.val (.int p1), .val (.int p2), .val (.int p3), .val (.int p4), .val (.int p5), .val (.int p6), .val (.int vn), .val (.int va), .val (.int vb), .val (.int vc), .val (.int vx), .val (.int fa), .val (.int fb), .val (.int fc), .val (.ref b40), .unset, .unset] [])) (fun t k => XS.ifNo X41.here hx rfl (Jvm.hb hby at_101) rfl ((if0 _ _).trans (feq hc101_52).1) k) ?_
          refine own_go (B := T41.setTop (mkF m 106 #[.val (.int p1), .val (.int p2), .val (.int p3), .val (.int p4), .val (.int p5), .val (.int p6), .val (.int vn), .val (.int va), .val (.int vb), .val (.int vc), .val (.int vx), .val (.int fa), .val (.int fb), .val (.int fc), .val (.ref b40), .unset, .unset] [(.ref b40)])) (fun t k => XS.aload X41.here hx rfl (Jvm.hb hby at_104) rfl rfl k) ?_
          refine own_go (B := T41.setTop (mkF m 108 #[.val (.int p1), .val (.int p2), .val (.int p3), .val (.int p4), .val (.int p5), .val (.int p6), .val (.int vn), .val (.int va), .val (.int vb), .val (.int vc), .val (.int vx), .val (.int fa), .val (.int fb), .val (.int fc), .val (.ref b40), .unset, .unset] [(.int va), (.ref b40)])) (fun t k => XS.iload X41.here hx rfl (Jvm.hb hby at_106) rfl k) ?_
          obtain ⟨cq53, kq53, q53a, q53b, q53c⟩ := isOf hZ rfl E_b40
          obtain ⟨_, _, ⟨T53, La53, ka53, na53⟩, -, X53, ⟨Lc53, hQ53, l53, y53, z53⟩, st53⟩ := X41.virtualBack hx (y := (⟨"com/example/netloom/netloom/embed/NodeSet", "add", "(I)V"⟩ : MethodName)) (z := (⟨"com/example/netloom/netloom/embed/NodeSet", "add", "(I)V"⟩ : MethodName)) hown (mvT hZ (own_w hw 15 rfl)) (mvT hZ (own_w hw 16 rfl)) (notFace_of_selects (args := #[]) (mvT hZ (own_w hw 18 rfl))) (mvT hZ (own_w hw 18 rfl)) (mvT hZ (own_w hw 17 rfl)) (by decide) (backOf (W := 0) (rm3 l Z a0 hw [] b40 va b42 b43 (own_lw vn).toNatClampNeg (own_lw (own_lw vn)).toNatClampNeg (fun _ => 0) (fun _ => 0) T41.heap n0 Zs E_b40 F_b40_words F_b40_occupied V_b42 V_b43 g_b42 g_b43 ne_b40_b42 ne_b40_b43 ne_b42_b43 (own_in1 _ _ hvar (by omega)).1 (own_in1 _ _ hvar (by omega)).2.1 (own_in1 _ _ hvar (by omega)).2.2) hZ (own_w hw 19 rfl) (own_w hw 3 rfl) (by decide) (by decide)) q53a q53c (g := (mkF m 108 #[.val (.int p1), .val (.int p2), .val (.int p3), .val (.int p4), .val (.int p5), .val (.int p6), .val (.int vn), .val (.int va), .val (.int vb), .val (.int vc), .val (.int vx), .val (.int fa), .val (.int fb), .val (.int fc), .val (.ref b40), .unset, .unset] [(.int va), (.ref b40)])) rfl (by rw [hml]; rfl) (Steps.refl _) (argsL := [(.int va)]) (rest := []) (lenOf pd_1 rfl) rfl (by show 2 * 0 + _ ≤ _; exact Nat.le_of_eq rfl) (Jvm.hb hby at_108) (fun _ _ => ⟨rfl, rfl, (by decide : 3 + 0 ≤ _), (by decide : 19 + 0 ≤ _)⟩)
          dsimp only [Pt.U, Pt.locs, Pt.cells, Pt.slots] at X53 l53 y53 z53 st53 hQ53
          subst l53 y53 z53
          obtain ⟨rfl, N53q, Kc53, V_b42_q, V_b43_q⟩ := hQ53
          have N53 := Fr.app N41 N53q
          have E_b40 := E_b40.keep Kc53
          have F_b40_words := F_b40_words.keep Kc53 (ninS ne_b40_b42 (ninS ne_b40_b43 nin0))
          have F_b40_occupied := F_b40_occupied.keep Kc53 (ninS ne_b40_b42 (ninS ne_b40_b43 nin0))
          have Zs := Nat.le_trans Zs Kc53.1
          have V_b42 := V_b42_q
          have V_b43 := V_b43_q
          refine own_go (B := T53.setTop (mkF m 111 #[.val (.int p1), .val (.int p2), .val (.int p3), .val (.int p4), .val (.int p5), .val (.int p6), .val (.int vn), .val (.int va), .val (.int vb), .val (.int vc), .val (.int vx), .val (.int fa), .val (.int fb), .val (.int fc), .val (.ref b40), .unset, .unset] [])) (fun t k => own_st st53 k) ?_
          exact J111 T53.heap T53 _ X53 rfl N53 Zs  (own_upd (fun _ => 0) (own_ix va) ((fun _ => 0) (own_ix va) ||| own_bt va)) (own_upd (fun _ => 0) (own_ix (va / (64 : Int32))) ((fun _ => 0) (own_ix (va / (64 : Int32))) ||| own_bt (va / (64 : Int32)))) E_b40 F_b40_words F_b40_occupied V_b42 V_b43 (fun x hx => by rw [own_add _ va x hvar.1 hx]; have := own_none x; simp [hc101_52, this])
      refine own_go (B := Tj74.setTop (mkF m 76 #[.val (.int p1), .val (.int p2), .val (.int p3), .val (.int p4), .val (.int p5), .val (.int p6), .val (.int vn), .val (.int va), .val (.int vb), .val (.int vc), .val (.int vx), .val (.int fa), .val (.int fb), .unset, .unset, .unset, .unset] [(.int p6)])) (fun t k => XS.iload Xj74.here hx rfl (Jvm.hb hby at_74) rfl k) ?_
      refine own_go (B := Tj74.setTop (mkF m 77 #[.val (.int p1), .val (.int p2), .val (.int p3), .val (.int p4), .val (.int p5), .val (.int p6), .val (.int vn), .val (.int va), .val (.int vb), .val (.int vc), .val (.int vx), .val (.int fa), .val (.int fb), .unset, .unset, .unset, .unset] [(.int (4 : Int32)), (.int p6)])) (fun t k => XS.iconst Xj74.here hx rfl (Jvm.hb hby at_76) k) ?_
      refine own_go (B := Tj74.setTop (mkF m 78 #[.val (.int p1), .val (.int p2), .val (.int p3), .val (.int p4), .val (.int p5), .val (.int p6), .val (.int vn), .val (.int va), .val (.int vb), .val (.int vc), .val (.int vx), .val (.int fa), .val (.int fb), .unset, .unset, .unset, .unset] [(.int (p6 &&& (4 : Int32)))])) (fun t k => XS.iand Xj74.here hx rfl (Jvm.hb hby at_77) rfl k) ?_
      by_cases hc78_54 : (p6 &&& (4 : Int32)) = (0 : Int32)
      · refine own_go (B := Tj74.setTop (mkF m 85 #[.val (.int p1), .val (.int p2), .val (.int p3), .val (.int p4), .val (.int p5), .val (.int p6), .val (.int vn), .val (.int va), .val (.int vb), .val (.int vc), .val (.int vx), .val (.int fa), .val (.int fb), .unset, .unset, .unset, .unset] [])) (fun t k => XS.ifYes Xj74.here hx rfl (pc0 := 78) (pc' := 85) rfl (Jvm.hb hby at_78) rfl ((if0 _ _).trans (teq hc78_54).1) (by decide) (by decide) k) ?_
        refine own_go (B := Tj74.setTop (mkF m 86 #[.val (.int p1), .val (.int p2), .val (.int p3), .val (.int p4), .val (.int p5), .val (.int p6), .val (.int vn), .val (.int va), .val (.int vb), .val (.int vc), .val (.int vx), .val (.int fa), .val (.int fb), .unset, .unset, .unset, .unset] [(.int (0 : Int32))])) (fun t k => XS.iconst Xj74.here hx rfl (Jvm.hb hby at_85) k) ?_
        refine own_go (B := Tj74.setTop (mkF m 88 #[.val (.int p1), .val (.int p2), .val (.int p3), .val (.int p4), .val (.int p5), .val (.int p6), .val (.int vn), .val (.int va), .val (.int vb), .val (.int vc), .val (.int vx), .val (.int fa), .val (.int fb), .val (.int (0 : Int32)), .unset, .unset, .unset] [])) (fun t k => XS.istore Xj74.here hx rfl (Jvm.hb hby at_86) rfl (l' := #[.val (.int p1), .val (.int p2), .val (.int p3), .val (.int p4), .val (.int p5), .val (.int p6), .val (.int vn), .val (.int va), .val (.int vb), .val (.int vc), .val (.int vx), .val (.int fa), .val (.int fb), .val (.int (0 : Int32)), .unset, .unset, .unset]) rfl k) ?_
        exact J88 Tj74 _ Xj74 ej74 Nj74 (0 : Int32)
      · refine own_go (B := Tj74.setTop (mkF m 81 #[.val (.int p1), .val (.int p2), .val (.int p3), .val (.int p4), .val (.int p5), .val (.int p6), .val (.int vn), .val (.int va), .val (.int vb), .val (.int vc), .val (.int vx), .val (.int fa), .val (.int fb), .unset, .unset, .unset, .unset] [])) (fun t k => XS.ifNo Xj74.here hx rfl (Jvm.hb hby at_78) rfl ((if0 _ _).trans (feq hc78_54).1) k) ?_
        refine own_go (B := Tj74.setTop (mkF m 82 #[.val (.int p1), .val (.int p2), .val (.int p3), .val (.int p4), .val (.int p5), .val (.int p6), .val (.int vn), .val (.int va), .val (.int vb), .val (.int vc), .val (.int vx), .val (.int fa), .val (.int fb), .unset, .unset, .unset, .unset] [(.int (1 : Int32))])) (fun t k => XS.iconst Xj74.here hx rfl (Jvm.hb hby at_81) k) ?_
        refine own_go (B := Tj74.setTop (mkF m 86 #[.val (.int p1), .val (.int p2), .val (.int p3), .val (.int p4), .val (.int p5), .val (.int p6), .val (.int vn), .val (.int va), .val (.int vb), .val (.int vc), .val (.int vx), .val (.int fa), .val (.int fb), .unset, .unset, .unset, .unset] [(.int (1 : Int32))])) (fun t k => XS.goto Xj74.here hx rfl (pc0 := 82) (pc' := 86) rfl (Jvm.hb hby at_82) (by decide) (by decide) k) ?_
        refine own_go (B := Tj74.setTop (mkF m 88 #[.val (.int p1), .val (.int p2), .val (.int p3), .val (.int p4), .val (.int p5), .val (.int p6), .val (.int vn), .val (.int va), .val (.int vb), .val (.int vc), .val (.int vx), .val (.int fa), .val (.int fb), .val (.int (1 : Int32)), .unset, .unset, .unset] [])) (fun t k => XS.istore Xj74.here hx rfl (Jvm.hb hby at_86) rfl (l' := #[.val (.int p1), .val (.int p2), .val (.int p3), .val (.int p4), .val (.int p5), .val (.int p6), .val (.int vn), .val (.int va), .val (.int vb), .val (.int vc), .val (.int vx), .val (.int fa), .val (.int fb), .val (.int (1 : Int32)), .unset, .unset, .unset]) rfl k) ?_
        exact J88 Tj74 _ Xj74 ej74 Nj74 (1 : Int32)
    refine own_go (B := Tj60.setTop (mkF m 62 #[.val (.int p1), .val (.int p2), .val (.int p3), .val (.int p4), .val (.int p5), .val (.int p6), .val (.int vn), .val (.int va), .val (.int vb), .val (.int vc), .val (.int vx), .val (.int fa), .unset, .unset, .unset, .unset, .unset] [(.int p6)])) (fun t k => XS.iload Xj60.here hx rfl (Jvm.hb hby at_60) rfl k) ?_
    refine own_go (B := Tj60.setTop (mkF m 63 #[.val (.int p1), .val (.int p2), .val (.int p3), .val (.int p4), .val (.int p5), .val (.int p6), .val (.int vn), .val (.int va), .val (.int vb), .val (.int vc), .val (.int vx), .val (.int fa), .unset, .unset, .unset, .unset, .unset] [(.int (2 : Int32)), (.int p6)])) (fun t k => XS.iconst Xj60.here hx rfl (Jvm.hb hby at_62) k) ?_
    refine own_go (B := Tj60.setTop (mkF m 64 #[.val (.int p1), .val (.int p2), .val (.int p3), .val (.int p4), .val (.int p5), .val (.int p6), .val (.int vn), .val (.int va), .val (.int vb), .val (.int vc), .val (.int vx), .val (.int fa), .unset, .unset, .unset, .unset, .unset] [(.int (p6 &&& (2 : Int32)))])) (fun t k => XS.iand Xj60.here hx rfl (Jvm.hb hby at_63) rfl k) ?_
    by_cases hc64_55 : (p6 &&& (2 : Int32)) = (0 : Int32)
    · refine own_go (B := Tj60.setTop (mkF m 71 #[.val (.int p1), .val (.int p2), .val (.int p3), .val (.int p4), .val (.int p5), .val (.int p6), .val (.int vn), .val (.int va), .val (.int vb), .val (.int vc), .val (.int vx), .val (.int fa), .unset, .unset, .unset, .unset, .unset] [])) (fun t k => XS.ifYes Xj60.here hx rfl (pc0 := 64) (pc' := 71) rfl (Jvm.hb hby at_64) rfl ((if0 _ _).trans (teq hc64_55).1) (by decide) (by decide) k) ?_
      refine own_go (B := Tj60.setTop (mkF m 72 #[.val (.int p1), .val (.int p2), .val (.int p3), .val (.int p4), .val (.int p5), .val (.int p6), .val (.int vn), .val (.int va), .val (.int vb), .val (.int vc), .val (.int vx), .val (.int fa), .unset, .unset, .unset, .unset, .unset] [(.int (0 : Int32))])) (fun t k => XS.iconst Xj60.here hx rfl (Jvm.hb hby at_71) k) ?_
      refine own_go (B := Tj60.setTop (mkF m 74 #[.val (.int p1), .val (.int p2), .val (.int p3), .val (.int p4), .val (.int p5), .val (.int p6), .val (.int vn), .val (.int va), .val (.int vb), .val (.int vc), .val (.int vx), .val (.int fa), .val (.int (0 : Int32)), .unset, .unset, .unset, .unset] [])) (fun t k => XS.istore Xj60.here hx rfl (Jvm.hb hby at_72) rfl (l' := #[.val (.int p1), .val (.int p2), .val (.int p3), .val (.int p4), .val (.int p5), .val (.int p6), .val (.int vn), .val (.int va), .val (.int vb), .val (.int vc), .val (.int vx), .val (.int fa), .val (.int (0 : Int32)), .unset, .unset, .unset, .unset]) rfl k) ?_
      exact J74 Tj60 _ Xj60 ej60 Nj60 (0 : Int32)
    · refine own_go (B := Tj60.setTop (mkF m 67 #[.val (.int p1), .val (.int p2), .val (.int p3), .val (.int p4), .val (.int p5), .val (.int p6), .val (.int vn), .val (.int va), .val (.int vb), .val (.int vc), .val (.int vx), .val (.int fa), .unset, .unset, .unset, .unset, .unset] [])) (fun t k => XS.ifNo Xj60.here hx rfl (Jvm.hb hby at_64) rfl ((if0 _ _).trans (feq hc64_55).1) k) ?_
      refine own_go (B := Tj60.setTop (mkF m 68 #[.val (.int p1), .val (.int p2), .val (.int p3), .val (.int p4), .val (.int p5), .val (.int p6), .val (.int vn), .val (.int va), .val (.int vb), .val (.int vc), .val (.int vx), .val (.int fa), .unset, .unset, .unset, .unset, .unset] [(.int (1 : Int32))])) (fun t k => XS.iconst Xj60.here hx rfl (Jvm.hb hby at_67) k) ?_
      refine own_go (B := Tj60.setTop (mkF m 72 #[.val (.int p1), .val (.int p2), .val (.int p3), .val (.int p4), .val (.int p5), .val (.int p6), .val (.int vn), .val (.int va), .val (.int vb), .val (.int vc), .val (.int vx), .val (.int fa), .unset, .unset, .unset, .unset, .unset] [(.int (1 : Int32))])) (fun t k => XS.goto Xj60.here hx rfl (pc0 := 68) (pc' := 72) rfl (Jvm.hb hby at_68) (by decide) (by decide) k) ?_
      refine own_go (B := Tj60.setTop (mkF m 74 #[.val (.int p1), .val (.int p2), .val (.int p3), .val (.int p4), .val (.int p5), .val (.int p6), .val (.int vn), .val (.int va), .val (.int vb), .val (.int vc), .val (.int vx), .val (.int fa), .val (.int (1 : Int32)), .unset, .unset, .unset, .unset] [])) (fun t k => XS.istore Xj60.here hx rfl (Jvm.hb hby at_72) rfl (l' := #[.val (.int p1), .val (.int p2), .val (.int p3), .val (.int p4), .val (.int p5), .val (.int p6), .val (.int vn), .val (.int va), .val (.int vb), .val (.int vc), .val (.int vx), .val (.int fa), .val (.int (1 : Int32)), .unset, .unset, .unset, .unset]) rfl k) ?_
      exact J74 Tj60 _ Xj60 ej60 Nj60 (1 : Int32)
  refine own_go (B := s₁.setTop (mkF m 48 #[.val (.int p1), .val (.int p2), .val (.int p3), .val (.int p4), .val (.int p5), .val (.int p6), .val (.int vn), .val (.int va), .val (.int vb), .val (.int vc), .val (.int vx), .unset, .unset, .unset, .unset, .unset, .unset] [(.int p6)])) (fun t k => XS.iload X0.here hx rfl (Jvm.hb hby at_46) rfl k) ?_
  refine own_go (B := s₁.setTop (mkF m 49 #[.val (.int p1), .val (.int p2), .val (.int p3), .val (.int p4), .val (.int p5), .val (.int p6), .val (.int vn), .val (.int va), .val (.int vb), .val (.int vc), .val (.int vx), .unset, .unset, .unset, .unset, .unset, .unset] [(.int (1 : Int32)), (.int p6)])) (fun t k => XS.iconst X0.here hx rfl (Jvm.hb hby at_48) k) ?_
  refine own_go (B := s₁.setTop (mkF m 50 #[.val (.int p1), .val (.int p2), .val (.int p3), .val (.int p4), .val (.int p5), .val (.int p6), .val (.int vn), .val (.int va), .val (.int vb), .val (.int vc), .val (.int vx), .unset, .unset, .unset, .unset, .unset, .unset] [(.int (p6 &&& (1 : Int32)))])) (fun t k => XS.iand X0.here hx rfl (Jvm.hb hby at_49) rfl k) ?_
  by_cases hc50_56 : (p6 &&& (1 : Int32)) = (0 : Int32)
  · refine own_go (B := s₁.setTop (mkF m 57 #[.val (.int p1), .val (.int p2), .val (.int p3), .val (.int p4), .val (.int p5), .val (.int p6), .val (.int vn), .val (.int va), .val (.int vb), .val (.int vc), .val (.int vx), .unset, .unset, .unset, .unset, .unset, .unset] [])) (fun t k => XS.ifYes X0.here hx rfl (pc0 := 50) (pc' := 57) rfl (Jvm.hb hby at_50) rfl ((if0 _ _).trans (teq hc50_56).1) (by decide) (by decide) k) ?_
    refine own_go (B := s₁.setTop (mkF m 58 #[.val (.int p1), .val (.int p2), .val (.int p3), .val (.int p4), .val (.int p5), .val (.int p6), .val (.int vn), .val (.int va), .val (.int vb), .val (.int vc), .val (.int vx), .unset, .unset, .unset, .unset, .unset, .unset] [(.int (0 : Int32))])) (fun t k => XS.iconst X0.here hx rfl (Jvm.hb hby at_57) k) ?_
    refine own_go (B := s₁.setTop (mkF m 60 #[.val (.int p1), .val (.int p2), .val (.int p3), .val (.int p4), .val (.int p5), .val (.int p6), .val (.int vn), .val (.int va), .val (.int vb), .val (.int vc), .val (.int vx), .val (.int (0 : Int32)), .unset, .unset, .unset, .unset, .unset] [])) (fun t k => XS.istore X0.here hx rfl (Jvm.hb hby at_58) rfl (l' := #[.val (.int p1), .val (.int p2), .val (.int p3), .val (.int p4), .val (.int p5), .val (.int p6), .val (.int vn), .val (.int va), .val (.int vb), .val (.int vc), .val (.int vx), .val (.int (0 : Int32)), .unset, .unset, .unset, .unset, .unset]) rfl k) ?_
    exact J60 s₁ _ X0 e0 N0 (0 : Int32)
  · refine own_go (B := s₁.setTop (mkF m 53 #[.val (.int p1), .val (.int p2), .val (.int p3), .val (.int p4), .val (.int p5), .val (.int p6), .val (.int vn), .val (.int va), .val (.int vb), .val (.int vc), .val (.int vx), .unset, .unset, .unset, .unset, .unset, .unset] [])) (fun t k => XS.ifNo X0.here hx rfl (Jvm.hb hby at_50) rfl ((if0 _ _).trans (feq hc50_56).1) k) ?_
    refine own_go (B := s₁.setTop (mkF m 54 #[.val (.int p1), .val (.int p2), .val (.int p3), .val (.int p4), .val (.int p5), .val (.int p6), .val (.int vn), .val (.int va), .val (.int vb), .val (.int vc), .val (.int vx), .unset, .unset, .unset, .unset, .unset, .unset] [(.int (1 : Int32))])) (fun t k => XS.iconst X0.here hx rfl (Jvm.hb hby at_53) k) ?_
    refine own_go (B := s₁.setTop (mkF m 58 #[.val (.int p1), .val (.int p2), .val (.int p3), .val (.int p4), .val (.int p5), .val (.int p6), .val (.int vn), .val (.int va), .val (.int vb), .val (.int vc), .val (.int vx), .unset, .unset, .unset, .unset, .unset, .unset] [(.int (1 : Int32))])) (fun t k => XS.goto X0.here hx rfl (pc0 := 54) (pc' := 58) rfl (Jvm.hb hby at_54) (by decide) (by decide) k) ?_
    refine own_go (B := s₁.setTop (mkF m 60 #[.val (.int p1), .val (.int p2), .val (.int p3), .val (.int p4), .val (.int p5), .val (.int p6), .val (.int vn), .val (.int va), .val (.int vb), .val (.int vc), .val (.int vx), .val (.int (1 : Int32)), .unset, .unset, .unset, .unset, .unset] [])) (fun t k => XS.istore X0.here hx rfl (Jvm.hb hby at_58) rfl (l' := #[.val (.int p1), .val (.int p2), .val (.int p3), .val (.int p4), .val (.int p5), .val (.int p6), .val (.int vn), .val (.int va), .val (.int vb), .val (.int vc), .val (.int vx), .val (.int (1 : Int32)), .unset, .unset, .unset, .unset, .unset]) rfl k) ?_
    exact J60 s₁ _ X0 e0 N0 (1 : Int32)
set_option maxRecDepth 65536 in
set_option maxHeartbeats 40000000 in
theorem comes_1 {Post : Tables → Env → Array Value → State → Outcome → State → Prop} (hpost : ∀ tb e args s v u, (limb_1_1.after args s (.returned v) u = true ∧ limb_1_2.after args s (.returned v) u = true ∧ True) → FrameEnd s (.returned v) u (Jvm.fieldLocs frame_1_writes args s ++ Jvm.arrayLocs frame_1_arrays args s ++ Jvm.staticLocs frame_1_statics s) 16 128 → Post tb e args s (.returned v) u) :
    ArmFor flags0 classFile x code maxLocals ret World_1 tables_1 room_1 Calls_1 rest_1 Pre_1 Post := by
  intro l hfl _ _ p e ha hc hk s m args below hf hA hF happ hP
  obtain ⟨hcalls, hrest, hpre⟩ := hP
  obtain ⟨-, -, -, hnamed, -, -, -, hat⟩ := (Spec.applies_iff hf).mp happ
  obtain ⟨hg, hn⟩ := and_e (Cond.before_iff.mp (show (Jvm.Cond.and given_1 narrow_1).before args s = true from hpre))
  obtain ⟨g1a, g1b⟩ := and_e hg
  obtain ⟨g2a, g2b⟩ := and_e g1b
  obtain ⟨g3a, g3b⟩ := and_e g2b
  obtain ⟨g4a, g4b⟩ := and_e g3b
  obtain ⟨g5a, g5b⟩ := and_e g4b
  obtain ⟨g6a, g6b⟩ := and_e g5b
  obtain ⟨w0, w1, w2, w3, w4, w5, rfl⟩ : ∃ w0 w1 w2 w3 w4 w5 : Value, args = #[w0, w1, w2, w3, w4, w5] := by
    have hs : args.size = 6 := by simpa [Cond.value, given_1] using g1a
    obtain ⟨L⟩ := args
    match L, hs with
    | [w0, w1, w2, w3, w4, w5], _ => exact ⟨w0, w1, w2, w3, w4, w5, rfl⟩
  have hw := fun d (hd : d ∈ tables_1) => atoms_spec (ws := Jvm.Cond.code x code maxLocals ret :: tables_1) hat d (List.mem_cons_of_mem _ hd)
  obtain ⟨i0, ei0⟩ := is_v g2a
  obtain rfl : w0 = (.int i0) := Option.some.inj ei0
  obtain ⟨i1, ei1⟩ := is_v g3a
  obtain rfl : w1 = (.int i1) := Option.some.inj ei1
  obtain ⟨i2, ei2⟩ := is_v g4a
  obtain rfl : w2 = (.int i2) := Option.some.inj ei2
  obtain ⟨i3, ei3⟩ := is_v g5a
  obtain rfl : w3 = (.int i3) := Option.some.inj ei3
  obtain ⟨i4, ei4⟩ := is_v g6a
  obtain rfl : w4 = (.int i4) := Option.some.inj ei4
  obtain ⟨i5, ei5⟩ := is_v g6b
  obtain rfl : w5 = (.int i5) := Option.some.inj ei5
  obtain ⟨n, o, h1, h2, h3, _, L, rfl, ⟨rfl, N⟩, hq⟩ := rm0 l s _ hw tables_1 i0 i1 i2 i3 i4 i5 s.heap s.heap.size (Nat.le_refl _) p e ha hc hk s m _ below hf ((Spec.applies_iff_loose hf).mp happ).1 ⟨rfl, State.Warmed39.refl s, rfl⟩ trivial
  refine ⟨n, _, h1, h2, h3, hpost _ _ _ _ _ _ ⟨Cond.after_iff.mpr rfl, Cond.after_iff.mpr (eq_i res_at (Term.int_eval (1)) rfl), trivial⟩ ⟨hq.1, hq.2.1, (hq.2.2.sift fun y hy => Or.inr (N y hy)).mono (by decide) (by decide)⟩⟩
theorem main_1_1 : Claimed_1_1 := comes_1 fun _ _ _ _ _ _ h hF => ⟨h.1, hF⟩
theorem main_1_2 : Claimed_1_2 := comes_1 fun _ _ _ _ _ _ h hF => ⟨h.2.1, hF⟩
end Jvm.Pilot.@@N@@
namespace Jvm.Pilot.@@N@@
open Jvm Jvm.ClassFile Sem Op Lib Jvm.Free Jvm.Stand Jvm.Pilot.@@N@@.Jvm.D
/-! MADE BY PROGRAM (witnessworld.py) out of the Statement's table words and the real class files: 11 classes; the members and pool entries that the words name. The judged class is class 1, her method 2. -/
namespace start1
open Jvm.ClassFile
def u (s : String) : CpInfo := .utf8 (stringToUtf16 s)
/-- a pool by its gaps: so many unusable entries, then the entry; so many at the end -/
def gap : Nat → List CpInfo → List CpInfo
  | 0, r => r
  | n + 1, r => .unusable :: gap n r
def poolList (es : List (Nat × CpInfo)) (last : Nat) : List CpInfo := es.foldr (fun e r => gap e.1 (e.2 :: r)) (gap last [])
def pool (es : List (Nat × CpInfo)) (last : Nat) : Array CpInfo := ⟨poolList es last⟩
def fileOf (pool : Array CpInfo) (this : Nat) (attrs : Array Attribute := #[]) (ms : Array MethodInfo := #[]) (fl : Nat := 33) (sup : Nat := 0) (ifs : Array Nat := #[]) (fds : Array FieldInfo := #[]) : ClassFile where
  minorVersion := 0
  majorVersion := 65
  constantPool := pool
  accessFlags := fl
  thisClass := this
  superClass := sup
  interfaces := ifs
  fields := fds
  methods := ms
  attributes := attrs
def plain (name : String) (sup : Option ClassId) : Class where
  name := name
  kind := .ordinary
  loader := none
  accessFlags := 33
  super := sup
  interfaces := #[]
  cf := none
  fields := #[]
  methods := #[]
  instanceTypes := #[]
  staticTypes := #[]
  resolved := #[]
  callSites := []
  init := .initialized
  statics := none
  mirror := none

def pool0 : Array CpInfo := pool [(5, u "<init>"), (0, u "()V"), (1, .class_ 10), (1, u "java/lang/Object")] 113

def k0c0 : Code := { maxStack := 0, maxLocals := 1, code := object_method_1_code, exceptionTable := #[], attributes := #[] }
def k0m0 : Method := { name := "<init>", desc := "()V", sig := { parameters := [], returnType := none }, accessFlags := 1, code := some k0c0 }
/-- java/lang/Object -/
def k0 : Class := { plain "java/lang/Object" none with
  accessFlags := 33
  interfaces := #[]
  cf := some (fileOf pool0 8 #[] #[{ accessFlags := 1, nameIndex := 5, descriptorIndex := 6, attributes := #[] }] 33 0 #[] #[])
  fields := #[]
  methods := #[k0m0]
  instanceTypes := #[]
  staticTypes := #[]
  resolved := Array.replicate 124 none
  statics := none }

def pool1 : Array CpInfo := pool [(2, .class_ 4), (1, u "java/lang/Object"), (0, u "<init>"), (0, u "()V"), (0, .integer 2147483647), (0, .class_ 9), (0, u "com/example/netloom/netloom/embed/NodeSet"), (0, .methodref 8 11), (0, .nameAndType 5 12), (0, u "(I)V"), (0, .methodref 8 14), (0, .nameAndType 15 12), (0, u "add"), (0, .methodref 8 17), (0, .nameAndType 18 12), (0, u "remove"), (0, .methodref 8 20), (0, .nameAndType 21 22), (0, u "contains"), (0, u "(I)Z"), (0, .methodref 24 25), (0, .class_ 26), (0, .nameAndType 27 28), (0, u "com/example/netloom/netloom/embed/NodeSetContainsPinLaw"), (0, u "expected"), (0, u "(IIIIZZZ)Z"), (3, u "law"), (0, u "(IIIIII)Z")] 2

def k1m0 : Method := { name := "<init>", desc := "()V", sig := { parameters := [], returnType := none }, accessFlags := 1, code := none }
def k1c1 : Code := { maxStack := 2, maxLocals := 9, code := method_2_code, exceptionTable := #[], attributes := #[] }
def k1m1 : Method := { name := "expected", desc := "(IIIIZZZ)Z", sig := { parameters := [.int, .int, .int, .int, .boolean, .boolean, .boolean], returnType := some .boolean }, accessFlags := 10, code := some k1c1 }
def k1c2 : Code := { maxStack := 8, maxLocals := 17, code := code, exceptionTable := #[], attributes := #[] }
def k1m2 : Method := { name := "law", desc := "(IIIIII)Z", sig := { parameters := [.int, .int, .int, .int, .int, .int], returnType := some .boolean }, accessFlags := 9, code := some k1c2 }
/-- com/example/netloom/netloom/embed/NodeSetContainsPinLaw -/
def k1 : Class := { plain "com/example/netloom/netloom/embed/NodeSetContainsPinLaw" (some 0) with
  accessFlags := 49
  interfaces := #[]
  cf := some (fileOf pool1 24 #[] #[{ accessFlags := 1, nameIndex := 5, descriptorIndex := 6, attributes := #[] }, { accessFlags := 10, nameIndex := 27, descriptorIndex := 28, attributes := #[] }, { accessFlags := 9, nameIndex := 32, descriptorIndex := 33, attributes := #[] }] 49 2 #[] #[])
  fields := #[]
  methods := #[k1m0, k1m1, k1m2]
  instanceTypes := #[]
  staticTypes := #[]
  resolved := Array.replicate 36 none
  statics := none }

def pool2 : Array CpInfo := pool [(1, .methodref 2 3), (0, .class_ 4), (0, .nameAndType 5 6), (0, u "java/lang/Object"), (0, u "<init>"), (0, u "()V"), (0, .fieldref 8 9), (0, .class_ 10), (0, .nameAndType 11 12), (0, u "com/example/netloom/netloom/embed/NodeSet"), (0, u "words"), (0, u "[J"), (0, .fieldref 8 14), (0, .nameAndType 15 12), (0, u "occupied"), (0, .methodref 8 17), (0, .nameAndType 18 19), (0, u "drop"), (0, u "(IJ)V"), (36, .long 18446744073709551615), (7, u "(I)V"), (2, u "contains"), (0, u "(I)Z"), (1, u "add"), (0, u "remove")] 12

def k2c0 : Code := { maxStack := 3, maxLocals := 2, code := prog_34_method_1_code, exceptionTable := #[], attributes := #[] }
def k2m0 : Method := { name := "<init>", desc := "(I)V", sig := { parameters := [.int], returnType := none }, accessFlags := 0, code := some k2c0 }
def k2c1 : Code := { maxStack := 5, maxLocals := 2, code := prog_34_method_2_code, exceptionTable := #[], attributes := #[] }
def k2m1 : Method := { name := "contains", desc := "(I)Z", sig := { parameters := [.int], returnType := some .boolean }, accessFlags := 0, code := some k2c1 }
def k2c2 : Code := { maxStack := 7, maxLocals := 3, code := prog_34_method_3_code, exceptionTable := #[], attributes := #[] }
def k2m2 : Method := { name := "add", desc := "(I)V", sig := { parameters := [.int], returnType := none }, accessFlags := 0, code := some k2c2 }
def k2c3 : Code := { maxStack := 5, maxLocals := 2, code := prog_34_method_4_code, exceptionTable := #[], attributes := #[] }
def k2m3 : Method := { name := "remove", desc := "(I)V", sig := { parameters := [.int], returnType := none }, accessFlags := 0, code := some k2c3 }
def k2c4 : Code := { maxStack := 8, maxLocals := 4, code := prog_34_method_13_code, exceptionTable := #[], attributes := #[] }
def k2m4 : Method := { name := "drop", desc := "(IJ)V", sig := { parameters := [.int, .long], returnType := none }, accessFlags := 2, code := some k2c4 }
/-- com/example/netloom/netloom/embed/NodeSet -/
def k2 : Class := { plain "com/example/netloom/netloom/embed/NodeSet" (some 0) with
  accessFlags := 48
  interfaces := #[]
  cf := some (fileOf pool2 8 #[] #[{ accessFlags := 0, nameIndex := 5, descriptorIndex := 64, attributes := #[] }, { accessFlags := 0, nameIndex := 67, descriptorIndex := 68, attributes := #[] }, { accessFlags := 0, nameIndex := 70, descriptorIndex := 64, attributes := #[] }, { accessFlags := 0, nameIndex := 71, descriptorIndex := 64, attributes := #[] }, { accessFlags := 2, nameIndex := 18, descriptorIndex := 19, attributes := #[] }] 48 2 #[] #[{ accessFlags := 18, nameIndex := 11, descriptorIndex := 12, attributes := #[] }, { accessFlags := 18, nameIndex := 15, descriptorIndex := 12, attributes := #[] }])
  fields := #[{ name := "words", type := (.array .long), accessFlags := 18, slot := 0, constantValue := 0 }, { name := "occupied", type := (.array .long), accessFlags := 18, slot := 1, constantValue := 0 }]
  methods := #[k2m0, k2m1, k2m2, k2m3, k2m4]
  instanceTypes := #[(.array .long), (.array .long)]
  staticTypes := #[]
  resolved := Array.replicate 84 none
  statics := none }

def pool3 : Array CpInfo := pool [(1, u "java/lang/Cloneable"), (0, .class_ 1), (0, u "java/lang/Object"), (0, .class_ 3)] 3

/-- java/lang/Cloneable -/
def k3 : Class := { plain "java/lang/Cloneable" (some 0) with
  accessFlags := 1537
  interfaces := #[]
  cf := some (fileOf pool3 2 #[] #[] 1537 4 #[] #[])
  fields := #[]
  methods := #[]
  instanceTypes := #[]
  staticTypes := #[]
  resolved := Array.replicate 8 none
  statics := none }

def pool4 : Array CpInfo := pool [(1, u "java/io/Serializable"), (0, .class_ 1), (0, u "java/lang/Object"), (0, .class_ 3)] 3

/-- java/io/Serializable -/
def k4 : Class := { plain "java/io/Serializable" (some 0) with
  accessFlags := 1537
  interfaces := #[]
  cf := some (fileOf pool4 2 #[] #[] 1537 4 #[] #[])
  fields := #[]
  methods := #[]
  instanceTypes := #[]
  staticTypes := #[]
  resolved := Array.replicate 8 none
  statics := none }

/-- the primitive byte -/
def k5 : Class := { plain "byte" none with kind := .primitive 'B', accessFlags := 0x411 }
/-- [B -/
def k6 : Class := { plain "[B" (some 0) with kind := .array 5 .byte, interfaces := #[3, 4], accessFlags := 1041 }

/-- the primitive int -/
def k7 : Class := { plain "int" none with kind := .primitive 'I', accessFlags := 0x411 }
/-- [I -/
def k8 : Class := { plain "[I" (some 0) with kind := .array 7 .int, interfaces := #[3, 4], accessFlags := 1041 }

/-- the primitive long -/
def k9 : Class := { plain "long" none with kind := .primitive 'J', accessFlags := 0x411 }
/-- [J -/
def k10 : Class := { plain "[J" (some 0) with kind := .array 9 .long, interfaces := #[3, 4], accessFlags := 1041 }

def heap : Heap := #[]
def classes : Array Class := #[k0, k1, k2, k3, k4, k5, k6, k7, k8, k9, k10]
def interned : List (Array UInt16 × Addr) := []
def slotsUsed : Nat := 0
def theMethod : MethodId := ⟨1, 2⟩
def args0 : Array Value := #[.int 5, .int 5, .int 5, .int 5, .int 5, .int 5]
def aboutOver (below : List Frame) : State where
  vm := { classes := classes, interned := interned.toArray }
  heap := heap
  slotsUsed := slotsUsed
  threads := #[{ frames := .invoking theMethod args0 :: below }]
def below0 : List Frame := [.native { method := ⟨0, 0⟩, args := #[] }]
def about1 : State := aboutOver below0
def p0 : Program := .bare "" "" ""
def e0 : Env := launch0.env 0 0 0
theorem w_frames : about1.frames = Frame.invoking theMethod args0 :: below0 := rfl
set_option maxRecDepth 65536 in
theorem w_args : argsFit about1.vm theMethod args0 = true := by decide +kernel
set_option maxRecDepth 65536 in
theorem w_heap : heapFits about1 = true := by decide +kernel
set_option maxRecDepth 65536 in
theorem w_runnable : about1.curStatus? = some .runnable := by decide +kernel
set_option maxRecDepth 65536 in
theorem w_alone : about1.alone = true := by decide +kernel
set_option maxRecDepth 65536 in
theorem w_named : about1.methodNamed? x = some theMethod := by decide +kernel
set_option maxRecDepth 65536 in
theorem w_hears : about1.hears theMethod below0 = true := by decide +kernel
set_option maxRecDepth 65536 in
theorem w_ripe : about1.ripe theMethod args0 below0 = true := by decide +kernel
theorem w_running : about1.status = .running := rfl
set_option maxRecDepth 65536 in
theorem w_room : about1.hasRoom e0.platform room_1 = true :=
  launch0.hasRoom_least _ room_1 (by decide +kernel) (by decide +kernel) (by decide +kernel) (by decide +kernel) (by decide +kernel) (by decide +kernel)
theorem allAtoms_all (ts : List Jvm.Cond) (a : Array Jvm.Value) (st : Jvm.State) : (allAtoms ts).before a st = ts.all (fun c => c.before a st) := by
  induction ts with
  | nil => rfl
  | cons c t ih =>
    show (Jvm.Cond.and c (allAtoms t)).before a st = _
    rw [Jvm.Cond.before_and, ih, List.all_cons]
def words1 : List Jvm.Cond := Jvm.Cond.code x code maxLocals ret :: tables_1
/-- a 'code' word, met by the world's own term for the bytes: nothing is compared byte by byte -/
theorem code_word {y : MethodName} {bytes : ByteArray} {mx : Nat} {rt : Option FieldType} {a : Array Value} {s : State} {m : MethodId} {meth : Method} {c : Code} (h1 : s.methodNamed? y = some m) (h2 : s.vm.method? m = some meth) (h3 : meth.code = some c) (h4 : c.code = bytes)
    (h5 : (c.maxLocals == mx && c.exceptionTable.isEmpty && decide (c.maxStack ≤ mostOperands) && decide (meth.sig.returnType = rt) && !meth.locks && decide (parseMethodDescriptor y.desc = some meth.sig)) = true) : (Jvm.Cond.code y bytes mx rt).before a s = true := by
  simp only [Bool.and_eq_true, beq_iff_eq, Bool.not_eq_true', decide_eq_true_eq] at h5
  obtain ⟨⟨⟨⟨⟨g1, g2⟩, g3⟩, g4⟩, g5⟩, g6⟩ := h5
  simp [Cond.before, Cond.holds, Cond.value, h1, h2, h3, h4, g1, g2, g3, g4, g5, g6]
def isCode : Jvm.Cond → Bool
  | .code _ _ _ _ => true
  | _ => false
theorem all_split {L : List Jvm.Cond} {P : Jvm.Cond → Bool} (h1 : L.all (fun c => isCode c || P c) = true) (h2 : ∀ c ∈ L.filter isCode, P c = true) : L.all P = true := by
  refine List.all_eq_true.mpr fun c hc => ?_
  have h := List.all_eq_true.mp h1 c hc
  rcases Bool.eq_false_or_eq_true (isCode c) with hi | hi
  · exact h2 c (List.mem_filter.mpr ⟨hc, hi⟩)
  · simpa [hi] using h
set_option maxRecDepth 65536 in
theorem w_c0 : (Jvm.Cond.code x code maxLocals ret).before args0 about1 = true := code_word (m := ⟨1, 2⟩) (meth := k1m2) (c := k1c2) (by decide +kernel) rfl rfl rfl (by decide +kernel)
set_option maxRecDepth 65536 in
theorem w_c1 : (Jvm.Cond.code ({ cls := "com/example/netloom/netloom/embed/NodeSet", name := "<init>", desc := "(I)V" } : Jvm.MethodName) prog_34_method_1_code (2 : Nat) (Option.none : Option Jvm.ClassFile.FieldType)).before args0 about1 = true := code_word (m := ⟨2, 0⟩) (meth := k2m0) (c := k2c0) (by decide +kernel) rfl rfl rfl (by decide +kernel)
set_option maxRecDepth 65536 in
theorem w_c2 : (Jvm.Cond.code ({ cls := "java/lang/Object", name := "<init>", desc := "()V" } : Jvm.MethodName) object_method_1_code (1 : Nat) (Option.none : Option Jvm.ClassFile.FieldType)).before args0 about1 = true := code_word (m := ⟨0, 0⟩) (meth := k0m0) (c := k0c0) (by decide +kernel) rfl rfl rfl (by decide +kernel)
set_option maxRecDepth 65536 in
theorem w_c3 : (Jvm.Cond.code ({ cls := "com/example/netloom/netloom/embed/NodeSet", name := "add", desc := "(I)V" } : Jvm.MethodName) prog_34_method_3_code (3 : Nat) (Option.none : Option Jvm.ClassFile.FieldType)).before args0 about1 = true := code_word (m := ⟨2, 2⟩) (meth := k2m2) (c := k2c2) (by decide +kernel) rfl rfl rfl (by decide +kernel)
set_option maxRecDepth 65536 in
theorem w_c4 : (Jvm.Cond.code ({ cls := "com/example/netloom/netloom/embed/NodeSet", name := "contains", desc := "(I)Z" } : Jvm.MethodName) prog_34_method_2_code (2 : Nat) (Option.some Jvm.ClassFile.FieldType.boolean)).before args0 about1 = true := code_word (m := ⟨2, 1⟩) (meth := k2m1) (c := k2c1) (by decide +kernel) rfl rfl rfl (by decide +kernel)
set_option maxRecDepth 65536 in
theorem w_c5 : (Jvm.Cond.code ({ cls := "com/example/netloom/netloom/embed/NodeSetContainsPinLaw", name := "expected", desc := "(IIIIZZZ)Z" } : Jvm.MethodName) method_2_code (9 : Nat) (Option.some Jvm.ClassFile.FieldType.boolean)).before args0 about1 = true := code_word (m := ⟨1, 1⟩) (meth := k1m1) (c := k1c1) (by decide +kernel) rfl rfl rfl (by decide +kernel)
set_option maxRecDepth 65536 in
theorem w_c6 : (Jvm.Cond.code ({ cls := "com/example/netloom/netloom/embed/NodeSet", name := "remove", desc := "(I)V" } : Jvm.MethodName) prog_34_method_4_code (2 : Nat) (Option.none : Option Jvm.ClassFile.FieldType)).before args0 about1 = true := code_word (m := ⟨2, 3⟩) (meth := k2m3) (c := k2c3) (by decide +kernel) rfl rfl rfl (by decide +kernel)
set_option maxRecDepth 65536 in
theorem w_c7 : (Jvm.Cond.code ({ cls := "com/example/netloom/netloom/embed/NodeSet", name := "drop", desc := "(IJ)V" } : Jvm.MethodName) prog_34_method_13_code (4 : Nat) (Option.none : Option Jvm.ClassFile.FieldType)).before args0 about1 = true := code_word (m := ⟨2, 4⟩) (meth := k2m4) (c := k2c4) (by decide +kernel) rfl rfl rfl (by decide +kernel)
def codes1 : List Jvm.Cond := [Jvm.Cond.code x code maxLocals ret, Jvm.Cond.code ({ cls := "com/example/netloom/netloom/embed/NodeSet", name := "<init>", desc := "(I)V" } : Jvm.MethodName) prog_34_method_1_code (2 : Nat) (Option.none : Option Jvm.ClassFile.FieldType), Jvm.Cond.code ({ cls := "java/lang/Object", name := "<init>", desc := "()V" } : Jvm.MethodName) object_method_1_code (1 : Nat) (Option.none : Option Jvm.ClassFile.FieldType), Jvm.Cond.code ({ cls := "com/example/netloom/netloom/embed/NodeSet", name := "add", desc := "(I)V" } : Jvm.MethodName) prog_34_method_3_code (3 : Nat) (Option.none : Option Jvm.ClassFile.FieldType), Jvm.Cond.code ({ cls := "com/example/netloom/netloom/embed/NodeSet", name := "contains", desc := "(I)Z" } : Jvm.MethodName) prog_34_method_2_code (2 : Nat) (Option.some Jvm.ClassFile.FieldType.boolean), Jvm.Cond.code ({ cls := "com/example/netloom/netloom/embed/NodeSetContainsPinLaw", name := "expected", desc := "(IIIIZZZ)Z" } : Jvm.MethodName) method_2_code (9 : Nat) (Option.some Jvm.ClassFile.FieldType.boolean), Jvm.Cond.code ({ cls := "com/example/netloom/netloom/embed/NodeSet", name := "remove", desc := "(I)V" } : Jvm.MethodName) prog_34_method_4_code (2 : Nat) (Option.none : Option Jvm.ClassFile.FieldType), Jvm.Cond.code ({ cls := "com/example/netloom/netloom/embed/NodeSet", name := "drop", desc := "(IJ)V" } : Jvm.MethodName) prog_34_method_13_code (4 : Nat) (Option.none : Option Jvm.ClassFile.FieldType)]
set_option maxRecDepth 65536 in
theorem codes_eq : words1.filter isCode = codes1 := rfl
theorem w_codes : ∀ c ∈ words1.filter isCode, c.before args0 about1 = true := by
  rw [codes_eq]
  intro c hc
  simp only [codes1, List.mem_cons, List.not_mem_nil, or_false] at hc
  rcases hc with rfl | rfl | rfl | rfl | rfl | rfl | rfl | rfl
  · exact w_c0
  · exact w_c1
  · exact w_c2
  · exact w_c3
  · exact w_c4
  · exact w_c5
  · exact w_c6
  · exact w_c7
set_option maxRecDepth 65536 in
theorem w_t1 : (words1.take 24).all (fun c => isCode c || c.before args0 about1) = true := by decide +kernel
set_option maxRecDepth 65536 in
theorem w_t2 : (words1.drop 24).all (fun c => isCode c || c.before args0 about1) = true := by decide +kernel
theorem w_tables : (allAtoms (Jvm.Cond.code x code maxLocals ret :: tables_1)).before args0 about1 = true := by
  rw [allAtoms_all]
  show words1.all (fun c => c.before args0 about1) = true
  refine all_split ?_ w_codes
  rw [← List.take_append_drop 24 words1, List.all_append, w_t1, w_t2]
  rfl
set_option maxRecDepth 65536 in
theorem w_case : (Jvm.Cond.and given_1 narrow_1).before args0 about1 = true := by decide +kernel
theorem w_applies : (headSpec (Jvm.Cond.code x code maxLocals ret :: tables_1) room_1).applies x e0.platform about1 = true :=
  (Spec.applies_iff w_frames).mpr ⟨w_running, w_runnable, w_alone, w_named, w_hears, w_ripe, w_room, w_tables⟩
theorem atStart : AtStart classFile x code maxLocals ret World_1 tables_1 room_1 Calls_1 rest_1 Pre_1 launch0 p0 e0 about1 theMethod args0 below0 :=
  ⟨lists_1, trivial, launch0.admits_env _ _ _, launch0.least_env, fairChoices_fair.cas, fairChoices_fair.clock, w_frames, w_args, w_heap, w_applies, trivial, trivial, w_case⟩
end start1
theorem witness_1 : WitnessClaimed_1 := ⟨start1.p0, start1.e0, start1.about1, start1.theMethod, start1.args0, start1.below0, start1.atStart⟩
end Jvm.Pilot.@@N@@
