import JvmDerived
import JvmDerived.Pilot.@@N@@Statement
import JvmDerived.Pilot.@@N@@Code
set_option linter.unusedVariables false
set_option linter.unusedSimpArgs false
namespace Jvm.Pilot.@@N@@
open Jvm Jvm.ClassFile Sem Op Lib Jvm.Free Jvm.Stand Jvm.LawKit Jvm.RoadKit Bundle Jvm.Pilot.@@N@@.Jvm.D
section Own
variable {p : Program} {l : Launch} {e : Env} {R : Room} {s : State} {m : MethodId} {args : Array Value} {below : List Frame} {meth : Method} {c : Code} {T : State} {locs : List Loc} {cells slots : Nat} {Z : State} {a0 : Array Value} {h h' : Heap}
/-- from S the walk comes to the method's end, where Q holds of what is returned, the heap and the written places -/
def OEnds (p : Program) (e : Env) (below : List Frame) (s : State) (Q : Option Value → Heap → List Loc → Prop) (K N : Nat) (S : State) : Prop :=
  ∃ s₂ o, Steps p.tables e below S s₂ ∧ s₂.status = .running ∧ Ended s₂ below o ∧ ∃ v L, o = .returned v ∧ Q v s₂.heap L ∧ FrameEnd s o s₂ L K N
variable {Q Q' : Option Value → Heap → List Loc → Prop} {K N : Nat} {S S' : State}
theorem own_by (st : ∀ t, Steps p.tables e below S' t → Steps p.tables e below S t) (k : OEnds p e below s Q K N S') : OEnds p e below s Q K N S := by
  obtain ⟨a, o, h1, h2⟩ := k
  exact ⟨a, o, st _ h1, h2⟩
theorem own_tr (st : Steps p.tables e below S S') (k : OEnds p e below s Q K N S') : OEnds p e below s Q K N S := by
  obtain ⟨a, o, h1, h2⟩ := k
  exact ⟨a, o, st.trans h1, h2⟩
theorem own_mono (f : ∀ v h L, Q' v h L → Q v h L) (k : OEnds p e below s Q' K N S) : OEnds p e below s Q K N S := by
  obtain ⟨a, o, h1, h2, h3, v, L, h4, h5, h6⟩ := k
  exact ⟨a, o, h1, h2, h3, v, L, h4, f _ _ _ h5, h6⟩
theorem own_fin (X : Stand p l e R s m args below meth c T locs cells slots) (hlk : meth.locks = false) {v : Option Value} (hv : meth.sig.returnType = none → v = none) (hQ : Q v T.heap locs) (hK : cells ≤ K) (hN : slots ≤ N)
    (hst : ∀ fs, (∀ (f : JFrame) (acts : List Action), f.method = m → f.locked = none → f.entered = [] → (doReturn e (T.setTop f) acts v).1 = T.setFrames fs) → Steps p.tables e below S (T.setFrames fs)) : OEnds p e below s Q K N S := by
  obtain ⟨fs, hr, hrun, hended, hW, hsame⟩ := X.leave hv hlk
  exact ⟨_, _, hst fs hr, hrun, hended, _, _, rfl, hQ, ⟨_, rfl⟩, hW, hsame.mono hK hN⟩
theorem own_retI (X : Stand p l e R s m args below meth c T locs cells slots) (hx : p.tables.exec = Jvm.exec) (hlk : meth.locks = false) {pc : Nat} {Ls : Array Slot} {z : Int32} {rest : List Value} (hret : meth.sig.returnType = some .int) (hd : decode c.code pc = .ok (.ireturn, 1))
    (hQ : Q (some (.int z)) T.heap locs) (hK : cells ≤ K) (hN : slots ≤ N) : OEnds p e below s Q K N (T.setTop (mkF m pc Ls (.int z :: rest))) :=
  own_fin X hlk (fun q => by rw [hret] at q; cases q) hQ hK hN fun _ hr => retOut X hx hret rfl (Or.inl ⟨rfl, Or.inl rfl, _, rfl⟩) hd hr
theorem own_retN (X : Stand p l e R s m args below meth c T locs cells slots) (hx : p.tables.exec = Jvm.exec) (hlk : meth.locks = false) (t : FieldType) (ht : t = .boolean ∨ t = .byte ∨ t = .char ∨ t = .short) {pc : Nat} {Ls : Array Slot} {z : Int32} {rest : List Value} (hret : meth.sig.returnType = some t) (hd : decode c.code pc = .ok (.ireturn, 1))
    (hQ : Q (some (.int (nar t z))) T.heap locs) (hK : cells ≤ K) (hN : slots ≤ N) : OEnds p e below s Q K N (T.setTop (mkF m pc Ls (.int z :: rest))) :=
  own_fin X hlk (fun q => by rw [hret] at q; cases q) hQ hK hN fun _ hr => retN X hx hret ht hd hr
theorem own_retJ (X : Stand p l e R s m args below meth c T locs cells slots) (hx : p.tables.exec = Jvm.exec) (hlk : meth.locks = false) {pc : Nat} {Ls : Array Slot} {z : Int64} {rest : List Value} (hret : meth.sig.returnType = some .long) (hd : decode c.code pc = .ok (.lreturn, 1))
    (hQ : Q (some (.long z)) T.heap locs) (hK : cells ≤ K) (hN : slots ≤ N) : OEnds p e below s Q K N (T.setTop (mkF m pc Ls (.long z :: rest))) :=
  own_fin X hlk (fun q => by rw [hret] at q; cases q) hQ hK hN fun _ hr => retOut X hx hret rfl (Or.inr (Or.inl ⟨rfl, rfl, _, rfl⟩)) hd hr
theorem own_retA (X : Stand p l e R s m args below meth c T locs cells slots) (hx : p.tables.exec = Jvm.exec) (hlk : meth.locks = false) {t : FieldType} (ht : t.isReference = true) {pc : Nat} {Ls : Array Slot} {a : Addr} {rest : List Value} (hret : meth.sig.returnType = some t) (hn : narrow t (.ref a) = .ref a) (hd : decode c.code pc = .ok (.areturn, 1))
    (hQ : Q (some (.ref a)) T.heap locs) (hK : cells ≤ K) (hN : slots ≤ N) : OEnds p e below s Q K N (T.setTop (mkF m pc Ls (.ref a :: rest))) :=
  own_fin X hlk (fun q => by rw [hret] at q; cases q) hQ hK hN fun _ hr => retOut X hx hret hn (Or.inr (Or.inr (Or.inr (Or.inr ⟨rfl, ht, rfl⟩)))) hd hr
theorem own_retV (X : Stand p l e R s m args below meth c T locs cells slots) (hx : p.tables.exec = Jvm.exec) (hlk : meth.locks = false) {pc : Nat} {Ls : Array Slot} (hret : meth.sig.returnType = none) (hd : decode c.code pc = .ok (.return_, 1))
    (hQ : Q none T.heap locs) (hK : cells ≤ K) (hN : slots ≤ N) : OEnds p e below s Q K N (T.setTop (mkF m pc Ls [])) :=
  own_fin X hlk (fun _ => rfl) hQ hK hN fun _ hr => X.returnOut hx hret hd hr
theorem own_get (X : Stand p l e R s m args below meth c T locs cells slots) (hx : p.tables.exec = Jvm.exec) (hZ : Z.Warmed39 s.vm) {own R0 n d : String} {index : Nat} (hown : s.vm.findClass own = some m.cls) (w : (Cond.fieldLink own index R0 n d).before a0 Z = true) (eT : T.heap = h) {a : Addr} {v : Value} (F : Fld Z h a R0 n d v) {g : JFrame} (hg : g.method = m) {rest : List Value} (hs : g.stack = .ref a :: rest) (hd : decode c.code g.pc = .ok (.getfield index, 3))
    (k : ∀ T', Stand p l e R s m args below meth c T' locs cells slots → T'.heap = h → OEnds p e below s Q K N (T'.setTop { g with pc := g.pc + 3, stack := v :: rest })) : OEnds p e below s Q K N (T.setTop g) := by
  obtain ⟨T', X', e', st⟩ := getF X hx hZ hown (host := "") (Or.inl w) Via.refl eT F hg hs hd
  exact own_by st (k T' X' e')
/-- what a plain method leaves: its value, nothing written, the heap as it was -/
def QP (r : Value) (h0 : Heap) (v : Option Value) (h : Heap) (L : List Loc) : Prop := v = some r ∧ L = [] ∧ h = h0
theorem own_eq {r r' : Value} {h0 : Heap} (q : r = r') (k : OEnds p e below s (QP r' h0) K N S) : OEnds p e below s (QP r h0) K N S := by subst q; exact k
theorem own_lrem {g : JFrame} {target : State} (X : Stand p l e R s m args below meth c T locs cells slots) (hx : p.tables.exec = Jvm.exec) (hg : g.method = m) {x y : Int64} {rest : List Value} (hd : decode c.code g.pc = .ok (.lrem, 1)) (hs : g.stack = .long y :: .long x :: rest) (hy : y ≠ 0)
    (hr : Steps p.tables e below (T.setTop { g with pc := g.pc + 1, stack := .long (x % y) :: rest }) target) : Steps p.tables e below (T.setTop g) target := by
  have q : x - x / y * y = x % y := lrem_mod x y
  exact XS.lrem X.here hx hg hd hs hy (by rw [q]; exact hr)
/-- a call of a plain static method by its contract -/
theorem own_callP (X : Stand p l e R s m args below meth c T locs cells slots) (hx : p.tables.exec = Jvm.exec) (hZ : Z.Warmed39 s.vm) {own : String} {index : Nat} {y : MethodName} {bytes : ByteArray} {maxL : Nat} {ret : Option FieldType} {fr lo : Nat} {r : Value} {argsL rest : List Value} {g : JFrame}
    (hown : s.vm.findClass own = some m.cls) (w1 : (Cond.methodLink own index y).before a0 Z = true) (w2 : (Cond.static y).before a0 Z = true) (w3 : (Cond.initialized y.cls).before a0 Z = true) (w4 : (Cond.code y bytes maxL ret).before a0 Z = true)
    (hy : y.cls ≠ "java/lang/invoke/MethodHandle" ∧ y.cls ≠ "java/lang/invoke/VarHandle")
    (hM : MetFree l y (head1 [Cond.code y bytes maxL ret] ({ frames := fr, cells := 0, slots := 0, locals := lo } : Room)) (fun a U => a = argsL.toArray ∧ Z.Warmed39 U.vm ∧ U.heap = h) (fun _ _ _ _ _ => True) (fun _ U o U' => ∃ v L, o = .returned v ∧ QP r h v U'.heap L ∧ FrameEnd U o U' L 0 0))
    (eT : T.heap = h) (hg : g.method = m) (hsize : g.locals.size = c.maxLocals) (hlen : ∀ sig, parseMethodDescriptor y.desc = some sig → argsL.length = sig.parameters.length) (hstack : g.stack = argsL.reverse ++ rest) {W : Nat} (hW : 2 * g.monitorRoom + (rest.map fun v => v.category).sum ≤ W)
    (hd : decode c.code g.pc = .ok (.invokestatic index, 3)) (hf : fr + 1 ≤ R.frames) (hl : W + (maxL + 11) + lo ≤ R.locals) (hc : cells ≤ R.cells) (hs : slots ≤ R.slots) :
    ∃ T', Stand p l e R s m args below meth c T' locs cells slots ∧ T'.heap = h ∧ ∀ target, Steps p.tables e below (T'.setTop { g with pc := g.pc + 3, stack := r :: rest }) target → Steps p.tables e below (T.setTop g) target := by
  obtain ⟨_, _, ⟨T1, L1, k1, n1⟩, -, X1, ⟨Lc, hQ, l1, y1, z1⟩, st⟩ := Jvm.LawKit.callS X hx (y := y) hown (mvT hZ w1) (mvT hZ w2) (mvT hZ w3) (mvT hZ w4) hy (backOf (rm := ({ frames := fr, cells := 0, slots := 0, locals := lo } : Room)) (W := W) hM hZ w4 w3 hf hl) (g := g) hg hsize (argsL := argsL) (rest := rest) hlen hstack hW hd (fun _ _ => ⟨rfl, eT, hc, hs⟩)
  dsimp only [Pt.U, Pt.locs, Pt.cells, Pt.slots] at X1 l1 y1 z1 st hQ
  subst l1 y1 z1
  obtain ⟨rfl, rfl, e1⟩ := hQ
  rw [List.append_nil] at X1
  exact ⟨T1, X1, e1, st⟩
end Own
section Own2
variable {p : Program} {l : Launch} {e : Env} {R : Room} {s : State} {m : MethodId} {args : Array Value} {below : List Frame} {meth : Method} {c : Code} {T : State} {locs : List Loc} {cells slots : Nat} {Z : State} {a0 : Array Value} {h h' : Heap}
  {a b : Addr} {C : String} {sch : List (String × String)} {vs : List Value} {ws : List Addr} {sl : Nat} {v : Value}
/-- the object at a is exactly a C, and its fields (in the order of sch) hold vs -/
def Obj (Z : State) (h : Heap) (a : Addr) (C : String) (sch : List (String × String)) (vs : List Value) : Prop :=
  Exa Z h a C ∧ ∀ (i : Nat) (n d : String) (v : Value), sch[i]? = some (n, d) → vs[i]? = some v → Fld Z h a C n d v
def SchOk (Z : State) (a0 : Array Value) (C : String) (sch : List (String × String)) : Prop :=
  (∀ q ∈ sch, Laid Z a0 C C q.1 q.2) ∧ (∀ q ∈ sch, (parseFieldDescriptor q.2).isSome = true) ∧ (sch.map (·.1)).Nodup
theorem Obj.exa (O : Obj Z h a C sch vs) : Exa Z h a C := O.1
theorem Obj.lt (O : Obj Z h a C sch vs) : a < h.size := O.1.lt
theorem Obj.fld (O : Obj Z h a C sch vs) (i : Nat) {n d : String} {v : Value} (h1 : sch[i]? = some (n, d)) (h2 : vs[i]? = some v) : Fld Z h a C n d v := O.2 i n d v h1 h2
theorem Obj.ext (O : Obj Z h a C sch vs) (E : Ext h h') : Obj Z h' a C sch vs := ⟨O.1.ext E, fun i n d v h1 h2 => (O.2 i n d v h1 h2).ext E⟩
theorem Obj.other (O : Obj Z h b C sch vs) (W : Wr h h' a sl v) (q : b ≠ a) : Obj Z h' b C sch vs := ⟨O.1.wr W, fun i n d v h1 h2 => (O.2 i n d v h1 h2).other W (Or.inl q)⟩
theorem Obj.keep (O : Obj Z h a C sch vs) (K : Keep h h' ws) (q : a ∉ ws) : Obj Z h' a C sch vs := ⟨O.1.keep K, fun i n d v h1 h2 => (O.2 i n d v h1 h2).keep K q⟩
theorem sch_ne (S : SchOk Z a0 C sch) {i j : Nat} {n d n' d' : String} (hi : sch[i]? = some (n, d)) (hj : sch[j]? = some (n', d')) (ne : i ≠ j) : n ≠ n' := by
  intro q
  have h3 := S.2.2
  rw [List.nodup_iff_pairwise_ne, List.pairwise_iff_getElem] at h3
  have e1 : (sch.map (·.1))[i]? = some n := by rw [List.getElem?_map, hi]; rfl
  have e2 : (sch.map (·.1))[j]? = some n' := by rw [List.getElem?_map, hj]; rfl
  obtain ⟨l1, f1⟩ := List.getElem?_eq_some_iff.mp e1
  obtain ⟨l2, f2⟩ := List.getElem?_eq_some_iff.mp e2
  rcases Nat.lt_or_gt_of_ne ne with k | k
  · exact h3 i j l1 l2 k (by rw [f1, f2, q])
  · exact h3 j i l2 l1 k (by rw [f1, f2, q])
theorem sch_ty (S : SchOk Z a0 C sch) {i : Nat} {n d : String} (hi : sch[i]? = some (n, d)) : ∃ t, parseFieldDescriptor d = some t :=
  Option.isSome_iff_exists.mp (S.2.1 _ (List.mem_of_getElem? hi))
theorem Obj.set (O : Obj Z h a C sch vs) (S : SchOk Z a0 C sch) {n d : String} (W : Wr h h' a (Jvm.RoadKit.slotOf Z C n d) v) (i : Nat) (hi : sch[i]? = some (n, d)) (hl : i < vs.length) : Obj Z h' a C sch (vs.set i v) := by
  refine ⟨O.1.wr W, fun j n' d' w h1 h2 => ?_⟩
  by_cases q : j = i
  · subst q
    cases hi.symm.trans h1
    rw [List.getElem?_set_self hl] at h2
    cases h2
    exact Fld.same W (O.2 j n d _ hi (List.getElem?_eq_getElem hl))
  · rw [List.getElem?_set_ne (Ne.symm q)] at h2
    obtain ⟨t, ht⟩ := sch_ty S hi
    obtain ⟨t', ht'⟩ := sch_ty S h1
    have L1 : Laid Z a0 C C n' d' := S.1 (n', d') (List.mem_of_getElem? h1)
    have L2 : Laid Z a0 C C n d := S.1 (n, d) (List.mem_of_getElem? hi)
    exact Fld.other W (O.2 j n' d' w h1 h2) (Or.inr (slot_ne L1 L2 (sch_ne S h1 hi q) ht' ht))
theorem Obj.new (S : SchOk Z a0 C sch) (A : Exa Z h a C) (D : ∀ {O nm d : String} {ty : FieldType}, Laid Z a0 C O nm d → parseFieldDescriptor d = some ty → Fld Z h a O nm d (defaultValue ty)) (tys : List FieldType) (ht : sch.map (fun q => parseFieldDescriptor q.2) = tys.map some) : Obj Z h a C sch (tys.map defaultValue) := by
  refine ⟨A, fun i n d v h1 h2 => ?_⟩
  rw [List.getElem?_map] at h2
  have e1 : (sch.map (fun q => parseFieldDescriptor q.2))[i]? = some (parseFieldDescriptor d) := by rw [List.getElem?_map, h1]; rfl
  rw [ht, List.getElem?_map] at e1
  cases hq : tys[i]? with
  | none => rw [hq] at e1; cases e1
  | some t =>
    rw [hq] at e1 h2
    cases h2
    have e2 : some (some t) = some (parseFieldDescriptor d) := e1
    exact D (O := C) (nm := n) (d := d) (ty := t) (S.1 (n, d) (List.mem_of_getElem? h1)) (Option.some.inj e2).symm
/-- an array of n places whose i-th holds f i -/
def FA (Z : State) (h : Heap) (a : Addr) (ty : FieldType) (n : Nat) (f : Nat → Value) : Prop :=
  ∃ c : Cell, Arr Z h a c ty ∧ c.slots.size = n ∧ n < 2 ^ 31 ∧ ∀ i, i < n → c.slots[i]? = some (f i)
variable {ty ty' : FieldType} {n n' : Nat} {f f' : Nat → Value}
theorem FA.lt (F : FA Z h a ty n f) : a < h.size := by obtain ⟨c, A, -⟩ := F; exact A.lt
theorem FA.ext (F : FA Z h a ty n f) (E : Ext h h') : FA Z h' a ty n f := by obtain ⟨c, A, r⟩ := F; exact ⟨c, A.ext E, r⟩
theorem FA.other (F : FA Z h b ty n f) (W : Wr h h' a sl v) (q : b ≠ a) : FA Z h' b ty n f := by obtain ⟨c, A, r⟩ := F; exact ⟨c, A.other W q, r⟩
theorem FA.keep (F : FA Z h a ty n f) (K : Keep h h' ws) (q : a ∉ ws) : FA Z h' a ty n f := by obtain ⟨c, A, r⟩ := F; exact ⟨c, ⟨K.2.1 _ _ A.1 q, A.2⟩, r⟩
theorem FA.congr (F : FA Z h a ty n f) (q : ∀ i, i < n → f i = f' i) : FA Z h a ty n f' := by
  obtain ⟨c, A, r1, r2, r3⟩ := F
  exact ⟨c, A, r1, r2, fun i hi => by rw [r3 i hi, q i hi]⟩
theorem FA.new {k : ClassId} {z : Int32} (A : Arr Z h a (newA k ty z) ty) (q : ¬ z < 0) (hn : z.toNatClampNeg = n) {d : Value} (hd : defaultValue ty = d) : FA Z h a ty n (fun _ => d) := by
  subst hn hd
  refine ⟨_, A, sz_new _ _ _, (back32 q).2, fun i hi => ?_⟩
  show (Array.replicate z.toNatClampNeg (defaultValue ty))[i]? = _
  simp [hi]
theorem FA.set (F : FA Z h a ty n f) {k : Nat} (W : Wr h h' a k v) : FA Z h' a ty n (fun i => if i = k then v else f i) := by
  obtain ⟨c, A, r1, r2, r3⟩ := F
  refine ⟨c.setSlot k v, A.same W, by rw [sz_set]; exact r1, r2, fun i hi => ?_⟩
  show (c.slots.setIfInBounds k v)[i]? = _
  by_cases q : i = k
  · subst q; simp [r1, hi]
  · rw [Array.getElem?_setIfInBounds_ne (Ne.symm q), r3 i hi]; simp [q]
theorem FA.ne_ty (F : FA Z h a ty n f) (G : FA Z h b ty' n' f') (q : ty ≠ ty') : a ≠ b := fun e => by
  subst e
  obtain ⟨c, A, -⟩ := F
  obtain ⟨c', A', -⟩ := G
  cases A.1.symm.trans A'.1
  obtain ⟨-, k1, j1, comp, j2⟩ := A.2.1
  obtain ⟨-, k2, i1, comp', i2⟩ := A'.2.1
  cases j1.symm.trans i1
  rw [j2] at i2
  cases i2
  exact q rfl
theorem Obj.ne_fa {kk : Nat} (O : Obj Z h a C sch vs) (wi : (Cond.instantiable C kk).before a0 Z = true) (F : FA Z h b ty n f) : a ≠ b := by
  obtain ⟨c, A, -⟩ := F
  exact ne_arr O.1 wi A
theorem nat_at {j : Int32} {k : Nat} (hk : j.toInt = (k : Int)) : j.toNatClampNeg = k ∧ ¬ j < 0 := by
  refine ⟨by show j.toInt.toNat = k; rw [hk]; rfl, fun q => ?_⟩
  rw [Int32.lt_iff_toInt_lt, hk] at q
  have : (0 : Int32).toInt = 0 := by decide
  omega
theorem inb {j : Int32} {k : Nat} {c : Cell} (hk : j.toInt = (k : Int)) (hn : c.slots.size = n) (hl : k < n) : ¬ (j < 0 ∨ c.slots.size ≤ j.toNatClampNeg) := by
  obtain ⟨h1, h2⟩ := nat_at hk
  rw [h1, hn]
  rintro (q | q)
  · exact h2 q
  · omega
theorem own_laload (X : Stand p l e R s m args below meth c T locs cells slots) (hx : p.tables.exec = Jvm.exec) (hZ : Z.Warmed39 s.vm) (eT : T.heap = h) (F : FA Z h a .long n f) {j : Int32} (k : Nat) (hk : j.toInt = (k : Int)) (hl : k < n) (hv : f k = v)
    {g : JFrame} (hg : g.method = m) {rest : List Value} (hs : g.stack = .int j :: .ref a :: rest) (hd : decode c.code g.pc = .ok (.laload, 1)) : ∀ target, Steps p.tables e below (T.setTop { g with pc := g.pc + 1, stack := v :: rest }) target → Steps p.tables e below (T.setTop g) target := by
  obtain ⟨cl, A, r1, r2, r3⟩ := F
  exact fun t k' => X.laload hx (by rw [eT]; exact A.1) (State.isArrayOf_alike hZ.alike A.2.1) A.2.2 (inb hk r1 hl) (by rw [(nat_at hk).1, r3 k hl, hv]) hg hs hd t k'
theorem own_iaload (X : Stand p l e R s m args below meth c T locs cells slots) (hx : p.tables.exec = Jvm.exec) (hZ : Z.Warmed39 s.vm) (eT : T.heap = h) (F : FA Z h a .int n f) {j : Int32} (k : Nat) (hk : j.toInt = (k : Int)) (hl : k < n) (hv : f k = v)
    {g : JFrame} (hg : g.method = m) {rest : List Value} (hs : g.stack = .int j :: .ref a :: rest) (hd : decode c.code g.pc = .ok (.iaload, 1)) : ∀ target, Steps p.tables e below (T.setTop { g with pc := g.pc + 1, stack := v :: rest }) target → Steps p.tables e below (T.setTop g) target := by
  obtain ⟨cl, A, r1, r2, r3⟩ := F
  exact fun t k' => X.iaload hx (by rw [eT]; exact A.1) (State.isArrayOf_alike hZ.alike A.2.1) A.2.2 (inb hk r1 hl) (by rw [(nat_at hk).1, r3 k hl, hv]) hg hs hd t k'
theorem own_baload (X : Stand p l e R s m args below meth c T locs cells slots) (hx : p.tables.exec = Jvm.exec) (hZ : Z.Warmed39 s.vm) (eT : T.heap = h) (F : FA Z h a .byte n f) {j : Int32} (k : Nat) (hk : j.toInt = (k : Int)) (hl : k < n) (hv : f k = v)
    {g : JFrame} (hg : g.method = m) {rest : List Value} (hs : g.stack = .int j :: .ref a :: rest) (hd : decode c.code g.pc = .ok (.baload, 1)) : ∀ target, Steps p.tables e below (T.setTop { g with pc := g.pc + 1, stack := v :: rest }) target → Steps p.tables e below (T.setTop g) target := by
  obtain ⟨cl, A, r1, r2, r3⟩ := F
  exact fun t k' => X.baloadBytes hx (by rw [eT]; exact A.1) (State.isArrayOf_alike hZ.alike A.2.1) A.2.2 (inb hk r1 hl) (by rw [(nat_at hk).1, r3 k hl, hv]) hg hs hd t k'
theorem own_aaload (X : Stand p l e R s m args below meth c T locs cells slots) (hx : p.tables.exec = Jvm.exec) (hZ : Z.Warmed39 s.vm) (eT : T.heap = h) (F : FA Z h a ty n f) (hty : ty.isReference = true) {j : Int32} (k : Nat) (hk : j.toInt = (k : Int)) (hl : k < n) (hv : f k = v)
    {g : JFrame} (hg : g.method = m) {rest : List Value} (hs : g.stack = .int j :: .ref a :: rest) (hd : decode c.code g.pc = .ok (.aaload, 1)) : ∀ target, Steps p.tables e below (T.setTop { g with pc := g.pc + 1, stack := v :: rest }) target → Steps p.tables e below (T.setTop g) target := by
  obtain ⟨cl, A, r1, r2, r3⟩ := F
  exact fun t k' => X.aaload hx (by rw [eT]; exact A.1) (State.isArrayOf_alike hZ.alike A.2.1) hty A.2.2 (inb hk r1 hl) (by rw [(nat_at hk).1, r3 k hl, hv]) hg hs hd t k'
theorem own_len (X : Stand p l e R s m args below meth c T locs cells slots) (hx : p.tables.exec = Jvm.exec) (hZ : Z.Warmed39 s.vm) (eT : T.heap = h) (F : FA Z h a ty n f) {z : Int32} (hz : n.toInt32 = z)
    {g : JFrame} (hg : g.method = m) {rest : List Value} (hs : g.stack = .ref a :: rest) (hd : decode c.code g.pc = .ok (.arraylength, 1)) : ∀ target, Steps p.tables e below (T.setTop { g with pc := g.pc + 1, stack := .int z :: rest }) target → Steps p.tables e below (T.setTop g) target := by
  obtain ⟨cl, A, r1, r2, r3⟩ := F
  refine fun t k' => X.arraylength hx (by rw [eT]; exact A.1) (State.isArrayOf_alike hZ.alike A.2.1) hg hs hd t ?_
  rw [r1, hz]; exact k'
theorem own_iastore (X : Stand p l e R s m args below meth c T locs cells slots) (hx : p.tables.exec = Jvm.exec) (hZ : Z.Warmed39 s.vm) (eT : T.heap = h) (F : FA Z h a .int n f) {j x : Int32} (k : Nat) (hk : j.toInt = (k : Int)) (hl : k < n)
    {g : JFrame} (hg : g.method = m) {rest : List Value} (hs : g.stack = .int x :: .int j :: .ref a :: rest) (hd : decode c.code g.pc = .ok (.iastore, 1)) :
    ∃ T' h', Stand p l e R s m args below meth c T' (locs ++ [⟨a, k⟩]) cells slots ∧ T'.heap = h' ∧ Wr h h' a k (.int x) ∧ ∀ target, Steps p.tables e below (T'.setTop { g with pc := g.pc + 1, stack := rest }) target → Steps p.tables e below (T.setTop g) target := by
  obtain ⟨cl, A, r1, r2, r3⟩ := F
  have q := stI X hx hZ eT A (x := x) (inb hk r1 hl) hg hs hd
  rw [(nat_at hk).1] at q
  exact q
theorem own_lastore (X : Stand p l e R s m args below meth c T locs cells slots) (hx : p.tables.exec = Jvm.exec) (hZ : Z.Warmed39 s.vm) (eT : T.heap = h) (F : FA Z h a .long n f) {j : Int32} {x : Int64} (k : Nat) (hk : j.toInt = (k : Int)) (hl : k < n)
    {g : JFrame} (hg : g.method = m) {rest : List Value} (hs : g.stack = .long x :: .int j :: .ref a :: rest) (hd : decode c.code g.pc = .ok (.lastore, 1)) :
    ∃ T' h', Stand p l e R s m args below meth c T' (locs ++ [⟨a, k⟩]) cells slots ∧ T'.heap = h' ∧ Wr h h' a k (.long x) ∧ ∀ target, Steps p.tables e below (T'.setTop { g with pc := g.pc + 1, stack := rest }) target → Steps p.tables e below (T.setTop g) target := by
  obtain ⟨cl, A, r1, r2, r3⟩ := F
  have q := stJ X hx hZ eT A (x := x) (inb hk r1 hl) hg hs hd
  rw [(nat_at hk).1] at q
  exact q
theorem own_bastore (X : Stand p l e R s m args below meth c T locs cells slots) (hx : p.tables.exec = Jvm.exec) (hZ : Z.Warmed39 s.vm) (eT : T.heap = h) (F : FA Z h a .byte n f) {j x : Int32} (k : Nat) (hk : j.toInt = (k : Int)) (hl : k < n)
    {g : JFrame} (hg : g.method = m) {rest : List Value} (hs : g.stack = .int x :: .int j :: .ref a :: rest) (hd : decode c.code g.pc = .ok (.bastore, 1)) :
    ∃ T' h', Stand p l e R s m args below meth c T' (locs ++ [⟨a, k⟩]) cells slots ∧ T'.heap = h' ∧ Wr h h' a k (.int (nar .byte x)) ∧ ∀ target, Steps p.tables e below (T'.setTop { g with pc := g.pc + 1, stack := rest }) target → Steps p.tables e below (T.setTop g) target := by
  obtain ⟨cl, A, r1, r2, r3⟩ := F
  have q := stB X hx hZ eT A (x := x) (inb hk r1 hl) hg hs hd
  rw [(nat_at hk).1] at q
  exact q
/-- the typed updates -/
def updL (f : Nat → Int64) (k : Nat) (x : Int64) : Nat → Int64 := fun i => if i = k then x else f i
def updI (f : Nat → Int32) (k : Nat) (x : Int32) : Nat → Int32 := fun i => if i = k then x else f i
theorem FA.setL {f : Nat → Int64} {x : Int64} (F : FA Z h a ty n (fun i => .long (f i))) {k : Nat} (W : Wr h h' a k (.long x)) : FA Z h' a ty n (fun i => .long (updL f k x i)) :=
  (F.set W).congr fun i _ => by by_cases q : i = k <;> simp [updL, q]
theorem FA.setI {f : Nat → Int32} {x : Int32} (F : FA Z h a ty n (fun i => .int (f i))) {k : Nat} (W : Wr h h' a k (.int x)) : FA Z h' a ty n (fun i => .int (updI f k x i)) :=
  (F.set W).congr fun i _ => by by_cases q : i = k <;> simp [updI, q]
/-- a call by a contract, whatever it writes or makes: static, virtual, a constructor's -/
theorem own_callS (X : Stand p l e R s m args below meth c T locs cells slots) (hx : p.tables.exec = Jvm.exec) (hZ : Z.Warmed39 s.vm) {own : String} {index : Nat} {y : MethodName} {bytes : ByteArray} {maxL : Nat} {ret : Option FieldType} {rm : Room} {Q : Option Value → Heap → List Loc → Prop} {argsL rest : List Value} {g : JFrame}
    (hown : s.vm.findClass own = some m.cls) (w1 : (Cond.methodLink own index y).before a0 Z = true) (w2 : (Cond.static y).before a0 Z = true) (w3 : (Cond.initialized y.cls).before a0 Z = true) (w4 : (Cond.code y bytes maxL ret).before a0 Z = true)
    (hy : y.cls ≠ "java/lang/invoke/MethodHandle" ∧ y.cls ≠ "java/lang/invoke/VarHandle")
    (hM : MetFree l y (head1 [Cond.code y bytes maxL ret] rm) (fun a U => a = argsL.toArray ∧ Z.Warmed39 U.vm ∧ U.heap = h) (fun _ _ _ _ _ => True) (fun _ U o U' => ∃ v L, o = .returned v ∧ Q v U'.heap L ∧ FrameEnd U o U' L rm.cells rm.slots))
    (eT : T.heap = h) (hg : g.method = m) (hsize : g.locals.size = c.maxLocals) (hlen : ∀ sig, parseMethodDescriptor y.desc = some sig → argsL.length = sig.parameters.length) (hstack : g.stack = argsL.reverse ++ rest) {W : Nat} (hW : 2 * g.monitorRoom + (rest.map fun v => v.category).sum ≤ W)
    (hd : decode c.code g.pc = .ok (.invokestatic index, 3)) (hf : rm.frames + 1 ≤ R.frames) (hl : W + (maxL + 11) + rm.locals ≤ R.locals) (hc : cells + rm.cells ≤ R.cells) (hs : slots + rm.slots ≤ R.slots) :
    ∃ v T' L h', Stand p l e R s m args below meth c T' (locs ++ L) (cells + rm.cells) (slots + rm.slots) ∧ T'.heap = h' ∧ Q v h' L ∧ Steps p.tables e below (T.setTop g) (T'.setTop { g with pc := g.pc + 3, stack := v.toList ++ rest }) := by
  obtain ⟨v, _, ⟨T1, L1, k1, n1⟩, -, X1, ⟨Lc, hQ, l1, y1, z1⟩, st⟩ := Jvm.LawKit.callS X hx (y := y) hown (mvT hZ w1) (mvT hZ w2) (mvT hZ w3) (mvT hZ w4) hy (backOf (rm := rm) (W := W) hM hZ w4 w3 hf hl) (g := g) hg hsize (argsL := argsL) (rest := rest) hlen hstack hW hd (fun _ _ => ⟨rfl, eT, hc, hs⟩)
  dsimp only [Pt.U, Pt.locs, Pt.cells, Pt.slots] at X1 l1 y1 z1 st hQ
  subst l1 y1 z1
  exact ⟨v, T1, Lc, _, X1, rfl, hQ, st _ (Steps.refl _)⟩
theorem own_callV (X : Stand p l e R s m args below meth c T locs cells slots) (hx : p.tables.exec = Jvm.exec) (hZ : Z.Warmed39 s.vm) {own : String} {index : Nat} {y : MethodName} {bytes : ByteArray} {maxL : Nat} {ret : Option FieldType} {rm : Room} {Q : Option Value → Heap → List Loc → Prop} {argsL rest : List Value} {g : JFrame}
    (hown : s.vm.findClass own = some m.cls) (w1 : (Cond.methodLink own index y).before a0 Z = true) (w2 : (Cond.declares y).before a0 Z = true) (w3 : (Cond.selects C y y).before a0 Z = true) (w4 : (Cond.instanceMethod y).before a0 Z = true) (w5 : (Cond.code y bytes maxL ret).before a0 Z = true) (w6 : (Cond.initialized y.cls).before a0 Z = true)
    (hy : y.cls ≠ "java/lang/invoke/MethodHandle" ∧ y.cls ≠ "java/lang/invoke/VarHandle") (E : Exa Z h b C)
    (hM : MetFree l y (head1 [Cond.code y bytes maxL ret] rm) (fun a U => a = (.ref b :: argsL).toArray ∧ Z.Warmed39 U.vm ∧ U.heap = h) (fun _ _ _ _ _ => True) (fun _ U o U' => ∃ v L, o = .returned v ∧ Q v U'.heap L ∧ FrameEnd U o U' L rm.cells rm.slots))
    (eT : T.heap = h) (hg : g.method = m) (hsize : g.locals.size = c.maxLocals) (hlen : ∀ sig, parseMethodDescriptor y.desc = some sig → argsL.length = sig.parameters.length) (hstack : g.stack = argsL.reverse ++ .ref b :: rest) {W : Nat} (hW : 2 * g.monitorRoom + (rest.map fun v => v.category).sum ≤ W)
    (hd : decode c.code g.pc = .ok (.invokevirtual index, 3)) (hf : rm.frames + 1 ≤ R.frames) (hl : W + (maxL + 11) + rm.locals ≤ R.locals) (hc : cells + rm.cells ≤ R.cells) (hs : slots + rm.slots ≤ R.slots) :
    ∃ v T' L h', Stand p l e R s m args below meth c T' (locs ++ L) (cells + rm.cells) (slots + rm.slots) ∧ T'.heap = h' ∧ Q v h' L ∧ Steps p.tables e below (T.setTop g) (T'.setTop { g with pc := g.pc + 3, stack := v.toList ++ rest }) := by
  obtain ⟨cq, kq, qa, qb, qc⟩ := isOf hZ eT E
  obtain ⟨v, _, ⟨T1, L1, k1, n1⟩, -, X1, ⟨Lc, hQ, l1, y1, z1⟩, st⟩ := X.virtualBack hx (y := y) (z := y) hown (mvT hZ w1) (mvT hZ w2) (notFace_of_selects (args := #[]) (mvT hZ w3)) (mvT hZ w3) (mvT hZ w4) hy (backOf (rm := rm) (W := W) hM hZ w5 w6 hf hl) qa qc (g := g) hg hsize (Steps.refl _) (argsL := argsL) (rest := rest) hlen hstack hW hd (fun _ _ => ⟨rfl, eT, hc, hs⟩)
  dsimp only [Pt.U, Pt.locs, Pt.cells, Pt.slots] at X1 l1 y1 z1 st hQ
  subst l1 y1 z1
  exact ⟨v, T1, Lc, _, X1, rfl, hQ, st⟩
theorem own_callI (X : Stand p l e R s m args below meth c T locs cells slots) (hx : p.tables.exec = Jvm.exec) (hZ : Z.Warmed39 s.vm) {own : String} {index : Nat} {y : MethodName} {bytes : ByteArray} {maxL : Nat} {rm : Room} {Q : Option Value → Heap → List Loc → Prop} {argsL rest : List Value} {g : JFrame} (hy1 : y.name = "<init>")
    (hown : s.vm.findClass own = some m.cls) (w1 : (Cond.methodLink own index y).before a0 Z = true) (w2 : (Cond.instanceMethod y).before a0 Z = true) (w3 : (Cond.code y bytes maxL none).before a0 Z = true) (w4 : (Cond.initialized y.cls).before a0 Z = true)
    (hy : y.cls ≠ "java/lang/invoke/MethodHandle" ∧ y.cls ≠ "java/lang/invoke/VarHandle")
    (hM : MetFree l y (head1 [Cond.code y bytes maxL none] rm) (fun a U => a = (.ref b :: argsL).toArray ∧ Z.Warmed39 U.vm ∧ U.heap = h) (fun _ _ _ _ _ => True) (fun _ U o U' => ∃ v L, o = .returned v ∧ Q v U'.heap L ∧ FrameEnd U o U' L rm.cells rm.slots))
    (eT : T.heap = h) (hg : g.method = m) (hsize : g.locals.size = c.maxLocals) (hlen : ∀ sig, parseMethodDescriptor y.desc = some sig → argsL.length = sig.parameters.length) (hstack : g.stack = argsL.reverse ++ .ref b :: rest) {W : Nat} (hW : 2 * g.monitorRoom + (rest.map fun v => v.category).sum ≤ W)
    (hd : decode c.code g.pc = .ok (.invokespecial index, 3)) (hf : rm.frames + 1 ≤ R.frames) (hl : W + (maxL + 11) + rm.locals ≤ R.locals) (hc : cells + rm.cells ≤ R.cells) (hs : slots + rm.slots ≤ R.slots) :
    ∃ v T' L h', Stand p l e R s m args below meth c T' (locs ++ L) (cells + rm.cells) (slots + rm.slots) ∧ T'.heap = h' ∧ Q v h' L ∧ Steps p.tables e below (T.setTop g) (T'.setTop { g with pc := g.pc + 3, stack := v.toList ++ rest }) := by
  obtain ⟨v, _, ⟨T1, L1, k1, n1⟩, -, X1, ⟨Lc, hQ, l1, y1, z1⟩, st⟩ := X.specialBack hx (y := y) hy1 hown (mvT hZ w1) (mvT hZ w2) (mvT hZ w3) hy (backOf (rm := rm) (W := W) hM hZ w3 w4 hf hl) (g := g) hg hsize (Steps.refl _) (a := b) (argsL := argsL) (rest := rest) hlen hstack hW hd (fun _ _ => ⟨rfl, eT, hc, hs⟩)
  dsimp only [Pt.U, Pt.locs, Pt.cells, Pt.slots] at X1 l1 y1 z1 st hQ
  subst l1 y1 z1
  exact ⟨v, T1, Lc, _, X1, rfl, hQ, st⟩
end Own2
section Own3
variable {p : Program} {l : Launch} {e : Env} {R : Room} {s : State} {m : MethodId} {args : Array Value} {below : List Frame} {meth : Method} {c : Code} {T : State} {locs : List Loc} {cells slots : Nat} {Z : State} {a0 : Array Value} {h h' : Heap} {a b : Addr} {C : String}
/-- a call of an instance method that writes nothing -/
theorem own_callR (X : Stand p l e R s m args below meth c T locs cells slots) (hx : p.tables.exec = Jvm.exec) (hZ : Z.Warmed39 s.vm) {own : String} {index : Nat} {y : MethodName} {bytes : ByteArray} {maxL : Nat} {ret : Option FieldType} {fr lo : Nat} {r : Value} {argsL rest : List Value} {g : JFrame}
    (hown : s.vm.findClass own = some m.cls) (w1 : (Cond.methodLink own index y).before a0 Z = true) (w2 : (Cond.declares y).before a0 Z = true) (w3 : (Cond.selects C y y).before a0 Z = true) (w4 : (Cond.instanceMethod y).before a0 Z = true) (w5 : (Cond.code y bytes maxL ret).before a0 Z = true) (w6 : (Cond.initialized y.cls).before a0 Z = true)
    (hy : y.cls ≠ "java/lang/invoke/MethodHandle" ∧ y.cls ≠ "java/lang/invoke/VarHandle") (E : Exa Z h b C)
    (hM : MetFree l y (head1 [Cond.code y bytes maxL ret] ({ frames := fr, cells := 0, slots := 0, locals := lo } : Room)) (fun a U => a = (.ref b :: argsL).toArray ∧ Z.Warmed39 U.vm ∧ U.heap = h) (fun _ _ _ _ _ => True) (fun _ U o U' => ∃ v L, o = .returned v ∧ QP r h v U'.heap L ∧ FrameEnd U o U' L 0 0))
    (eT : T.heap = h) (hg : g.method = m) (hsize : g.locals.size = c.maxLocals) (hlen : ∀ sig, parseMethodDescriptor y.desc = some sig → argsL.length = sig.parameters.length) (hstack : g.stack = argsL.reverse ++ .ref b :: rest) {W : Nat} (hW : 2 * g.monitorRoom + (rest.map fun v => v.category).sum ≤ W)
    (hd : decode c.code g.pc = .ok (.invokevirtual index, 3)) (hf : fr + 1 ≤ R.frames) (hl : W + (maxL + 11) + lo ≤ R.locals) (hc : cells ≤ R.cells) (hs : slots ≤ R.slots) :
    ∃ T', Stand p l e R s m args below meth c T' locs cells slots ∧ T'.heap = h ∧ ∀ target, Steps p.tables e below (T'.setTop { g with pc := g.pc + 3, stack := r :: rest }) target → Steps p.tables e below (T.setTop g) target := by
  obtain ⟨v, T1, L1, h1, X1, e1, ⟨rfl, rfl, q⟩, st⟩ := own_callV X hx hZ hown w1 w2 w3 w4 w5 w6 hy E (rm := ({ frames := fr, cells := 0, slots := 0, locals := lo } : Room)) hM eT hg hsize hlen hstack hW hd hf hl hc hs
  rw [List.append_nil] at X1
  exact ⟨T1, X1, e1.trans q, fun t k => st.trans k⟩
/-- a call of a private instance method by its contract -/
theorem own_callX (X : Stand p l e R s m args below meth c T locs cells slots) (hx : p.tables.exec = Jvm.exec) (hZ : Z.Warmed39 s.vm) {own : String} {index : Nat} {y : MethodName} {bytes : ByteArray} {maxL kk : Nat} {ret : Option FieldType} {rm : Room} {Q : Option Value → Heap → List Loc → Prop} {argsL rest : List Value} {g : JFrame}
    (hown : s.vm.findClass own = some m.cls) (w1 : (Cond.methodLink own index y).before a0 Z = true) (w2 : (Cond.instanceMethod y).before a0 Z = true) (w3 : (Cond.privateMethod y).before a0 Z = true) (w4 : (Cond.code y bytes maxL ret).before a0 Z = true) (w5 : (Cond.initialized y.cls).before a0 Z = true) (w6 : (Cond.instantiable y.cls kk).before a0 Z = true)
    (hy : y.cls ≠ "java/lang/invoke/MethodHandle" ∧ y.cls ≠ "java/lang/invoke/VarHandle") (E : Exa Z h b C)
    (hM : MetFree l y (head1 [Cond.code y bytes maxL ret] rm) (fun a U => a = (.ref b :: argsL).toArray ∧ Z.Warmed39 U.vm ∧ U.heap = h) (fun _ _ _ _ _ => True) (fun _ U o U' => ∃ v L, o = .returned v ∧ Q v U'.heap L ∧ FrameEnd U o U' L rm.cells rm.slots))
    (eT : T.heap = h) (hg : g.method = m) (hsize : g.locals.size = c.maxLocals) (hlen : ∀ sig, parseMethodDescriptor y.desc = some sig → argsL.length = sig.parameters.length) (hstack : g.stack = argsL.reverse ++ .ref b :: rest) {W : Nat} (hW : 2 * g.monitorRoom + (rest.map fun v => v.category).sum ≤ W)
    (hd : decode c.code g.pc = .ok (.invokevirtual index, 3)) (hf : rm.frames + 1 ≤ R.frames) (hl : W + (maxL + 11) + rm.locals ≤ R.locals) (hc : cells + rm.cells ≤ R.cells) (hs : slots + rm.slots ≤ R.slots) :
    ∃ v T' L h', Stand p l e R s m args below meth c T' (locs ++ L) (cells + rm.cells) (slots + rm.slots) ∧ T'.heap = h' ∧ Q v h' L ∧ Steps p.tables e below (T.setTop g) (T'.setTop { g with pc := g.pc + 3, stack := v.toList ++ rest }) := by
  have v2 : (Cond.instanceMethod y).before args s = true := mvT hZ w2
  have v4 : (Cond.code y bytes maxL ret).before args s = true := mvT hZ w4
  have v6 : (Cond.instantiable y.cls kk).before args s = true := mv hZ w6
  obtain ⟨mk, me, n1, n2, n3, n4⟩ := Cond.instanceMethod_spec v2
  obtain ⟨me', cM, n5, -, -, -, -, -, -, n6⟩ := Cond.code_spec n1 v4
  cases n2.symm.trans n5
  obtain ⟨cI, kI, i1, i2, -, i4, -⟩ := Cond.instantiable_spec v6
  cases (findClass_of_methodNamed n1).symm.trans i1
  have ni : kI.isInterface = false := by simp only [Bool.or_eq_false_iff] at i4; exact i4.1
  obtain ⟨cell, c1, c2⟩ := E.cell
  have pr := Cond.privateMethod_at (mvP hZ w3 (args := args)) mk me n1 n2
  obtain ⟨vm₁, X₁, s₁⟩ := X.invokevirtual hx hown (mvT hZ w1) n1 n2 n3 i2 ni hy (a := b) (cell := cell) (by rw [eT]; exact c1) c2 (selectMethod_private n2 pr) n2 n4 i2 ni (g := g) hg (argsL := argsL) (rest := rest) (hlen _ n6) hstack hd
  obtain ⟨v, ⟨T1, L1, k1, n1'⟩, X1, ⟨Lc, hQ, l1, y1, z1⟩, st⟩ := backOf (rm := rm) (W := W) hM hZ w4 w5 hf hl m meth c ⟨T.setVm vm₁, locs, cells, slots⟩ { g with stack := rest } (.invokevirtual index) mk (.ref b :: argsL).toArray X₁ hg hsize hd hW (X₁.named n1) ⟨rfl, eT, hc, hs⟩
  dsimp only [Pt.U, Pt.locs, Pt.cells, Pt.slots] at X1 l1 y1 z1 st hQ
  subst l1 y1 z1
  exact ⟨v, T1, Lc, _, X1, rfl, hQ, (s₁ _ fun acts => by rw [doInvoke_state]; exact Steps.refl _).trans st⟩
theorem own_callXR (X : Stand p l e R s m args below meth c T locs cells slots) (hx : p.tables.exec = Jvm.exec) (hZ : Z.Warmed39 s.vm) {own : String} {index : Nat} {y : MethodName} {bytes : ByteArray} {maxL kk : Nat} {ret : Option FieldType} {fr lo : Nat} {r : Value} {argsL rest : List Value} {g : JFrame}
    (hown : s.vm.findClass own = some m.cls) (w1 : (Cond.methodLink own index y).before a0 Z = true) (w2 : (Cond.instanceMethod y).before a0 Z = true) (w3 : (Cond.privateMethod y).before a0 Z = true) (w4 : (Cond.code y bytes maxL ret).before a0 Z = true) (w5 : (Cond.initialized y.cls).before a0 Z = true) (w6 : (Cond.instantiable y.cls kk).before a0 Z = true)
    (hy : y.cls ≠ "java/lang/invoke/MethodHandle" ∧ y.cls ≠ "java/lang/invoke/VarHandle") (E : Exa Z h b C)
    (hM : MetFree l y (head1 [Cond.code y bytes maxL ret] ({ frames := fr, cells := 0, slots := 0, locals := lo } : Room)) (fun a U => a = (.ref b :: argsL).toArray ∧ Z.Warmed39 U.vm ∧ U.heap = h) (fun _ _ _ _ _ => True) (fun _ U o U' => ∃ v L, o = .returned v ∧ QP r h v U'.heap L ∧ FrameEnd U o U' L 0 0))
    (eT : T.heap = h) (hg : g.method = m) (hsize : g.locals.size = c.maxLocals) (hlen : ∀ sig, parseMethodDescriptor y.desc = some sig → argsL.length = sig.parameters.length) (hstack : g.stack = argsL.reverse ++ .ref b :: rest) {W : Nat} (hW : 2 * g.monitorRoom + (rest.map fun v => v.category).sum ≤ W)
    (hd : decode c.code g.pc = .ok (.invokevirtual index, 3)) (hf : fr + 1 ≤ R.frames) (hl : W + (maxL + 11) + lo ≤ R.locals) (hc : cells ≤ R.cells) (hs : slots ≤ R.slots) :
    ∃ T', Stand p l e R s m args below meth c T' locs cells slots ∧ T'.heap = h ∧ ∀ target, Steps p.tables e below (T'.setTop { g with pc := g.pc + 3, stack := r :: rest }) target → Steps p.tables e below (T.setTop g) target := by
  obtain ⟨v, T1, L1, h1, X1, e1, ⟨rfl, rfl, q⟩, st⟩ := own_callX X hx hZ hown w1 w2 w3 w4 w5 w6 hy E (rm := ({ frames := fr, cells := 0, slots := 0, locals := lo } : Room)) hM eT hg hsize hlen hstack hW hd hf hl hc hs
  rw [List.append_nil] at X1
  exact ⟨T1, X1, e1.trans q, fun t k => st.trans k⟩
end Own3
section Own5
variable {p : Program} {l : Launch} {e : Env} {R : Room} {s : State} {m : MethodId} {args : Array Value} {below : List Frame} {meth : Method} {c : Code} {T : State} {locs : List Loc} {cells slots : Nat} {Z : State} {a0 : Array Value} {h h' : Heap} {a b : Addr} {ty : FieldType} {n n' : Nat} {f f' : Nat → Value}
theorem i32_of {n : Nat} (hn : n < 2 ^ 31) : (Int32.ofNat n).toInt = (n : Int) := by
  have h1 : (Int32.ofNat n).toInt = (n : Int).bmod (2 ^ 32) := Int32.toInt_ofNat'
  have h2 := bm32 (n : Int)
  have h3 := rng32 (Int32.ofNat n)
  rw [h1] at h3 ⊢
  omega
theorem FA.toArv (F : FA Z h a ty n f) (hf : ∀ i, i < n → fits ty (f i) = true) (d : Value) : ∃ k, Arv Z h a k ty (Int32.ofNat n) ((List.range n).map f) d := by
  obtain ⟨c, A, r1, r2, r3⟩ := F
  have hk := nat_at (i32_of r2)
  have hg : ∀ i, i < n → ((List.range n).map f).getD i d = f i := fun i hi => by simp [List.getD, hi]
  exact ⟨c.cls, c, A, rfl, by rw [r1, hk.1], hk.2, fun k hk => by rw [r3 k (by omega), hg k (by omega)], fun i hi => by rw [hg i (by omega)]; exact hf i (by omega)⟩
theorem FA.ofArv {k : ClassId} {z : Int32} {vs : List Value} {d : Value} (A : Arv Z h a k ty z vs d) (hz : z.toInt = (n : Int)) : FA Z h a ty n (fun i => vs.getD i d) := by
  obtain ⟨c, A1, -, r2, -, r4, -⟩ := A
  rw [(nat_at hz).1] at r2
  have hr := rng32 z
  exact ⟨c, A1, r2, by omega, fun i hi => r4 i (by omega)⟩
/-- System.arraycopy from the beginning of one array to the beginning of another of its kind -/
theorem own_arraycopy (X : Stand p l e R s m args below meth c T locs cells slots) (hx : p.tables.exec = Jvm.exec) (hZ : Z.Warmed39 s.vm) {own : String} {index : Nat} (hown : s.vm.findClass own = some m.cls)
    (w1 : (Cond.methodLink own index Jvm.Stand.acN).before a0 Z = true) (w2 : (Cond.native Jvm.Stand.acN).before a0 Z = true) (w3 : (Cond.static Jvm.Stand.acN).before a0 Z = true) (w4 : (Cond.initialized "java/lang/System").before a0 Z = true) (eT : T.heap = h)
    (A : FA Z h a ty n f) (B : FA Z h b ty n' f') (hty : refKind ty = false) (hfa : ∀ i, i < n → fits ty (f i) = true) (hfb : ∀ i, i < n' → fits ty (f' i) = true) {nn : Int32} (k : Nat) (hk : nn.toInt = (k : Int)) (hkn : k ≤ n) (hkn' : k ≤ n') {n0 : Nat} (N : Fr n0 locs) (ge : n0 ≤ b)
    {g : JFrame} (hg : g.method = m) (hsize : g.locals.size = c.maxLocals) {rest : List Value} (hs : g.stack = .int nn :: .int 0 :: .ref b :: .int 0 :: .ref a :: rest) (hd : decode c.code g.pc = .ok (.invokestatic index, 3))
    (hf : 1 ≤ R.frames) {W : Nat} (hW : 2 * g.monitorRoom + (rest.map fun v => v.category).sum ≤ W) (hlo : W + (nativeFrameWords "java/lang/System" "arraycopy" 5 + 11) ≤ R.locals) :
    ∃ T' h' L, Stand p l e R s m args below meth c T' L cells slots ∧ T'.heap = h' ∧ Fr n0 L ∧ Keep h h' [b] ∧ FA Z h' b ty n' (fun i => if i < k then f i else f' i) ∧
      ∀ target, Steps p.tables e below (T'.setTop { g with pc := g.pc + 3, stack := rest }) target → Steps p.tables e below (T.setTop g) target := by
  obtain ⟨kA, AA⟩ := A.toArv hfa (.int 0)
  obtain ⟨kB, BB⟩ := B.toArv hfb (.int 0)
  obtain ⟨c1, -, r1, r2, -⟩ := A
  obtain ⟨c2, -, q1, q2, -⟩ := B
  have ha := nat_at (i32_of r2)
  have hb := nat_at (i32_of q2)
  have hk' := nat_at hk
  have z0 : ((0 : Int32)).toNatClampNeg = 0 := rfl
  obtain ⟨T', h', L, X', e', N', K', V', st⟩ := cpA X hx hZ hown w1 w2 w3 w4 eT (sp := 0) (dp := 0) (nn := nn) AA BB (Or.inl ⟨rfl, hty⟩) (by decide) (by decide) hk'.2 (by rw [z0, hk'.1, ha.1]; omega) (by rw [z0, hk'.1, hb.1]; omega) rfl (by rw [z0, hk'.1]; simp; omega) N ge hg hsize hs hd hf hW hlo
  refine ⟨T', h', L, X', e', N', K', (FA.ofArv V' (i32_of q2)).congr fun i hi => ?_, st⟩
  rw [z0, hk'.1]
  simp only [List.take_zero, List.nil_append, Nat.zero_add]
  by_cases q : i < k
  · rw [if_pos q]
    simp only [List.getD]
    rw [List.getElem?_append_left (by simp; omega)]
    have : i < n := by omega
    simp [q, this]
  · rw [if_neg q]
    simp only [List.getD]
    rw [List.getElem?_append_right (by simp; omega)]
    have : k + (i - k) = i := by omega
    simp [this, hi]
end Own5
theorem pd_prV : parseMethodDescriptor "()V" = some ⟨[], none⟩ := by decide +kernel
theorem pd_pIrI : parseMethodDescriptor "(I)I" = some ⟨[.int], some .int⟩ := by decide +kernel
theorem pd_pIrV : parseMethodDescriptor "(I)V" = some ⟨[.int], none⟩ := by decide +kernel
theorem pd_pIIrI : parseMethodDescriptor "(II)I" = some ⟨[.int, .int], some .int⟩ := by decide +kernel
theorem pd_pJrI : parseMethodDescriptor "(J)I" = some ⟨[.long], some .int⟩ := by decide +kernel
theorem pd_pJrV : parseMethodDescriptor "(J)V" = some ⟨[.long], none⟩ := by decide +kernel
theorem pd_paJIraJ : parseMethodDescriptor "([JI)[J" = some ⟨[(.array .long), .int], some (.array .long)⟩ := by decide +kernel
theorem pd_paJIJrI : parseMethodDescriptor "([JIJ)I" = some ⟨[(.array .long), .int, .long], some .int⟩ := by decide +kernel
def sch_li : List (String × String) := [("keys", "[J"), ("slots", "[I"), ("shift", "I"), ("size", "I")]
theorem so_sch_li {Z : State} {a0 : Array Value} (hw : ∀ d ∈ tables_1, d.before a0 Z = true) : SchOk Z a0 "com/example/tristream/tristream/LongIndex" sch_li := by
  refine ⟨fun q hq => ?_, by decide, by decide⟩
  simp only [sch_li, List.mem_cons, List.not_mem_nil, or_false] at hq
  rcases hq with rfl | rfl | rfl | rfl
  · exact Or.inl (hw _ (List.mem_of_getElem? (i := 11) rfl))
  · exact Or.inl (hw _ (List.mem_of_getElem? (i := 14) rfl))
  · exact Or.inl (hw _ (List.mem_of_getElem? (i := 21) rfl))
  · exact Or.inl (hw _ (List.mem_of_getElem? (i := 37) rfl))
theorem d3_0 : decode jdk_33_method_48_code 0 = .ok (.iload_n 0, 1) := by decide +kernel
theorem d3_1 : decode jdk_33_method_48_code 1 = .ok (.iconst (-1), 1) := by decide +kernel
theorem d3_2 : decode jdk_33_method_48_code 2 = .ok (.ixor, 1) := by decide +kernel
theorem d3_3 : decode jdk_33_method_48_code 3 = .ok (.iload_n 0, 1) := by decide +kernel
theorem d3_4 : decode jdk_33_method_48_code 4 = .ok (.iconst 1, 1) := by decide +kernel
theorem d3_5 : decode jdk_33_method_48_code 5 = .ok (.isub, 1) := by decide +kernel
theorem d3_6 : decode jdk_33_method_48_code 6 = .ok (.iand, 1) := by decide +kernel
theorem d3_7 : decode jdk_33_method_48_code 7 = .ok (.istore_n 0, 1) := by decide +kernel
theorem d3_8 : decode jdk_33_method_48_code 8 = .ok (.iload_n 0, 1) := by decide +kernel
theorem d3_9 : decode jdk_33_method_48_code 9 = .ok (.ifCond .gt 8, 3) := by decide +kernel
theorem d3_12 : decode jdk_33_method_48_code 12 = .ok (.iload_n 0, 1) := by decide +kernel
theorem d3_13 : decode jdk_33_method_48_code 13 = .ok (.bipush 32, 2) := by decide +kernel
theorem d3_15 : decode jdk_33_method_48_code 15 = .ok (.iand, 1) := by decide +kernel
theorem d3_16 : decode jdk_33_method_48_code 16 = .ok (.ireturn, 1) := by decide +kernel
theorem d3_17 : decode jdk_33_method_48_code 17 = .ok (.iconst 1, 1) := by decide +kernel
theorem d3_18 : decode jdk_33_method_48_code 18 = .ok (.istore_n 1, 1) := by decide +kernel
theorem d3_19 : decode jdk_33_method_48_code 19 = .ok (.iload_n 0, 1) := by decide +kernel
theorem d3_20 : decode jdk_33_method_48_code 20 = .ok (.ldc_w 264, 3) := by decide +kernel
theorem d3_23 : decode jdk_33_method_48_code 23 = .ok (.if_icmp .le 11, 3) := by decide +kernel
theorem d3_26 : decode jdk_33_method_48_code 26 = .ok (.iinc 1 16, 3) := by decide +kernel
theorem d3_29 : decode jdk_33_method_48_code 29 = .ok (.iload_n 0, 1) := by decide +kernel
theorem d3_30 : decode jdk_33_method_48_code 30 = .ok (.bipush 16, 2) := by decide +kernel
theorem d3_32 : decode jdk_33_method_48_code 32 = .ok (.iushr, 1) := by decide +kernel
theorem d3_33 : decode jdk_33_method_48_code 33 = .ok (.istore_n 0, 1) := by decide +kernel
theorem d3_34 : decode jdk_33_method_48_code 34 = .ok (.iload_n 0, 1) := by decide +kernel
theorem d3_35 : decode jdk_33_method_48_code 35 = .ok (.sipush 256, 3) := by decide +kernel
theorem d3_38 : decode jdk_33_method_48_code 38 = .ok (.if_icmp .le 11, 3) := by decide +kernel
theorem d3_41 : decode jdk_33_method_48_code 41 = .ok (.iinc 1 8, 3) := by decide +kernel
theorem d3_44 : decode jdk_33_method_48_code 44 = .ok (.iload_n 0, 1) := by decide +kernel
theorem d3_45 : decode jdk_33_method_48_code 45 = .ok (.bipush 8, 2) := by decide +kernel
theorem d3_47 : decode jdk_33_method_48_code 47 = .ok (.iushr, 1) := by decide +kernel
theorem d3_48 : decode jdk_33_method_48_code 48 = .ok (.istore_n 0, 1) := by decide +kernel
theorem d3_49 : decode jdk_33_method_48_code 49 = .ok (.iload_n 0, 1) := by decide +kernel
theorem d3_50 : decode jdk_33_method_48_code 50 = .ok (.bipush 16, 2) := by decide +kernel
theorem d3_52 : decode jdk_33_method_48_code 52 = .ok (.if_icmp .le 10, 3) := by decide +kernel
theorem d3_55 : decode jdk_33_method_48_code 55 = .ok (.iinc 1 4, 3) := by decide +kernel
theorem d3_58 : decode jdk_33_method_48_code 58 = .ok (.iload_n 0, 1) := by decide +kernel
theorem d3_59 : decode jdk_33_method_48_code 59 = .ok (.iconst 4, 1) := by decide +kernel
theorem d3_60 : decode jdk_33_method_48_code 60 = .ok (.iushr, 1) := by decide +kernel
theorem d3_61 : decode jdk_33_method_48_code 61 = .ok (.istore_n 0, 1) := by decide +kernel
theorem d3_62 : decode jdk_33_method_48_code 62 = .ok (.iload_n 0, 1) := by decide +kernel
theorem d3_63 : decode jdk_33_method_48_code 63 = .ok (.iconst 4, 1) := by decide +kernel
theorem d3_64 : decode jdk_33_method_48_code 64 = .ok (.if_icmp .le 10, 3) := by decide +kernel
theorem d3_67 : decode jdk_33_method_48_code 67 = .ok (.iinc 1 2, 3) := by decide +kernel
theorem d3_70 : decode jdk_33_method_48_code 70 = .ok (.iload_n 0, 1) := by decide +kernel
theorem d3_71 : decode jdk_33_method_48_code 71 = .ok (.iconst 2, 1) := by decide +kernel
theorem d3_72 : decode jdk_33_method_48_code 72 = .ok (.iushr, 1) := by decide +kernel
theorem d3_73 : decode jdk_33_method_48_code 73 = .ok (.istore_n 0, 1) := by decide +kernel
theorem d3_74 : decode jdk_33_method_48_code 74 = .ok (.iload_n 1, 1) := by decide +kernel
theorem d3_75 : decode jdk_33_method_48_code 75 = .ok (.iload_n 0, 1) := by decide +kernel
theorem d3_76 : decode jdk_33_method_48_code 76 = .ok (.iconst 1, 1) := by decide +kernel
theorem d3_77 : decode jdk_33_method_48_code 77 = .ok (.iushr, 1) := by decide +kernel
theorem d3_78 : decode jdk_33_method_48_code 78 = .ok (.iadd, 1) := by decide +kernel
theorem d3_79 : decode jdk_33_method_48_code 79 = .ok (.ireturn, 1) := by decide +kernel
theorem pn_3 : plainName "java/lang/Integer" = true := by first | (simp [plainName, overriddenIn]; done) | decide +kernel
theorem ef_3 (m : MethodId) (q0 : Int32) : entryFrame m #[(.int q0)] 2 = mkF m 0 #[.val (.int q0), .unset] [] := by first | (simp [entryFrame, mkF, argsToLocals, Value.category]; done) | rfl
def ntz_74 (v74_0 : Int32) (v74_1 : Int32) : Int32 := (v74_1 + ((v74_0.toUInt32 >>> ((1 : Int32) &&& 31).toUInt32).toInt32))
def ntz_62 (v62_0 : Int32) (v62_1 : Int32) : Int32 := if (4 : Int32) < v62_0 then (ntz_74 ((v62_0.toUInt32 >>> ((2 : Int32) &&& 31).toUInt32).toInt32) (v62_1 + (2 : Int32))) else (ntz_74 v62_0 v62_1)
def ntz_49 (v49_0 : Int32) (v49_1 : Int32) : Int32 := if (16 : Int32) < v49_0 then (ntz_62 ((v49_0.toUInt32 >>> ((4 : Int32) &&& 31).toUInt32).toInt32) (v49_1 + (4 : Int32))) else (ntz_62 v49_0 v49_1)
def ntz_34 (v34_0 : Int32) (v34_1 : Int32) : Int32 := if (256 : Int32) < v34_0 then (ntz_49 ((v34_0.toUInt32 >>> ((8 : Int32) &&& 31).toUInt32).toInt32) (v34_1 + (8 : Int32))) else (ntz_49 v34_0 v34_1)
def ntz (q0 : Int32) : Int32 := if (0 : Int32) < ((q0 ^^^ (-1 : Int32)) &&& (q0 - (1 : Int32))) then if (65536 : Int32) < ((q0 ^^^ (-1 : Int32)) &&& (q0 - (1 : Int32))) then (ntz_34 ((((q0 ^^^ (-1 : Int32)) &&& (q0 - (1 : Int32))).toUInt32 >>> ((16 : Int32) &&& 31).toUInt32).toInt32) (17 : Int32)) else (ntz_34 ((q0 ^^^ (-1 : Int32)) &&& (q0 - (1 : Int32))) (1 : Int32)) else (((q0 ^^^ (-1 : Int32)) &&& (q0 - (1 : Int32))) &&& (32 : Int32))
set_option maxRecDepth 65536 in
set_option maxHeartbeats 40000000 in
theorem rm_ntz (l : Launch) (Z : State) (a0 : Array Value) (hw : ∀ d ∈ tables_1, d.before a0 Z = true) (ws : List Jvm.Cond) (q0 : Int32) (h0 : Heap) :
    MetFree l (⟨"java/lang/Integer", "numberOfTrailingZeros", "(I)I"⟩ : MethodName) (head1 (Jvm.Cond.code (⟨"java/lang/Integer", "numberOfTrailingZeros", "(I)I"⟩ : MethodName) jdk_33_method_48_code 2 (some .int) :: ws) ({ frames := 0, cells := 0, slots := 0, locals := 0 } : Room)) (fun a U => a = #[(.int q0)] ∧ Z.Warmed39 U.vm ∧ U.heap = h0) (fun _ _ _ _ _ => True) (fun _ U o U' => ∃ v L, o = .returned v ∧ QP (Value.int (ntz q0)) h0 v U'.heap L ∧ FrameEnd U o U' L 0 0) := by
  refine MetFree.of_bodySF (plainFor_of_name pn_3) hisR ?_
  intro p e s m args below meth c s₁ Bd hml0 hP hK
  obtain ⟨rfl, hZ, hh⟩ := hP
  have hx := Bd.exec
  have hby := Bd.bytes
  have hlk : meth.locks = false := Bd.notSynchronized
  have hml : c.maxLocals = 2 := hml0
  have hown : s.vm.findClass "java/lang/Integer" = some m.cls := findClass_of_methodNamed Bd.named
  have X0 : Stand p l e ({ frames := 0, cells := 0, slots := 0, locals := 0 } : Room) s m #[(.int q0)] below meth c s₁ [] 0 0 := Stand.of_body Bd
  have e0 : s₁.heap = h0 := by rw [← hh, Bd.state]; rfl
  have bntz_74 : ∀ (T : State) (X : Stand p l e ({ frames := 0, cells := 0, slots := 0, locals := 0 } : Room) s m #[(.int q0)] below meth c T [] 0 0) (eT : T.heap = h0) (v74_0 : Int32) (v74_1 : Int32), OEnds p e below s (QP (Value.int (ntz_74 v74_0 v74_1)) h0) 0 0 (T.setTop (mkF m 74 #[.val (.int v74_0), .val (.int v74_1)] [])) := by
    intro T X eT v74_0 v74_1
    refine own_by (fun _ k => XS.iloadN X.here hx rfl (hb hby d3_74) rfl k) ?_
    show OEnds p e below s _ _ _ (T.setTop (mkF m 75 #[.val (.int v74_0), .val (.int v74_1)] [(.int v74_1)]))
    refine own_by (fun _ k => XS.iloadN X.here hx rfl (hb hby d3_75) rfl k) ?_
    show OEnds p e below s _ _ _ (T.setTop (mkF m 76 #[.val (.int v74_0), .val (.int v74_1)] [(.int v74_0), (.int v74_1)]))
    refine own_by (fun _ k => XS.iconst X.here hx rfl (hb hby d3_76) k) ?_
    show OEnds p e below s _ _ _ (T.setTop (mkF m 77 #[.val (.int v74_0), .val (.int v74_1)] [(.int (1 : Int32)), (.int v74_0), (.int v74_1)]))
    refine own_by (fun _ k => XS.iushr X.here hx rfl (hb hby d3_77) rfl k) ?_
    show OEnds p e below s _ _ _ (T.setTop (mkF m 78 #[.val (.int v74_0), .val (.int v74_1)] [(.int ((v74_0.toUInt32 >>> ((1 : Int32) &&& 31).toUInt32).toInt32)), (.int v74_1)]))
    refine own_by (fun _ k => XS.iadd X.here hx rfl (hb hby d3_78) rfl k) ?_
    show OEnds p e below s _ _ _ (T.setTop (mkF m 79 #[.val (.int v74_0), .val (.int v74_1)] [(.int (v74_1 + ((v74_0.toUInt32 >>> ((1 : Int32) &&& 31).toUInt32).toInt32)))]))
    exact own_retI X hx hlk Bd.returns (hb hby d3_79) ⟨congrArg (fun z => some (Value.int z)) (Eq.symm (by rw [ntz_74] <;> rfl)), rfl, eT⟩ (Nat.le_refl _) (Nat.le_refl _)
  have bntz_62 : ∀ (T : State) (X : Stand p l e ({ frames := 0, cells := 0, slots := 0, locals := 0 } : Room) s m #[(.int q0)] below meth c T [] 0 0) (eT : T.heap = h0) (v62_0 : Int32) (v62_1 : Int32), OEnds p e below s (QP (Value.int (ntz_62 v62_0 v62_1)) h0) 0 0 (T.setTop (mkF m 62 #[.val (.int v62_0), .val (.int v62_1)] [])) := by
    intro T X eT v62_0 v62_1
    refine own_by (fun _ k => XS.iloadN X.here hx rfl (hb hby d3_62) rfl k) ?_
    show OEnds p e below s _ _ _ (T.setTop (mkF m 63 #[.val (.int v62_0), .val (.int v62_1)] [(.int v62_0)]))
    refine own_by (fun _ k => XS.iconst X.here hx rfl (hb hby d3_63) k) ?_
    show OEnds p e below s _ _ _ (T.setTop (mkF m 64 #[.val (.int v62_0), .val (.int v62_1)] [(.int (4 : Int32)), (.int v62_0)]))
    by_cases hc64 : (4 : Int32) < v62_0
    · refine own_by (fun _ k => XS.icmpNo X.here hx rfl (hb hby d3_64) rfl (tlt hc64).2.2.2 k) ?_
      show OEnds p e below s _ _ _ (T.setTop (mkF m 67 #[.val (.int v62_0), .val (.int v62_1)] []))
      refine own_by (fun _ k => XS.iinc X.here hx rfl (hb hby d3_67) rfl (l' := #[.val (.int v62_0), .val (.int (v62_1 + (2 : Int32)))]) rfl k) ?_
      show OEnds p e below s _ _ _ (T.setTop (mkF m 70 #[.val (.int v62_0), .val (.int (v62_1 + (2 : Int32)))] []))
      refine own_by (fun _ k => XS.iloadN X.here hx rfl (hb hby d3_70) rfl k) ?_
      show OEnds p e below s _ _ _ (T.setTop (mkF m 71 #[.val (.int v62_0), .val (.int (v62_1 + (2 : Int32)))] [(.int v62_0)]))
      refine own_by (fun _ k => XS.iconst X.here hx rfl (hb hby d3_71) k) ?_
      show OEnds p e below s _ _ _ (T.setTop (mkF m 72 #[.val (.int v62_0), .val (.int (v62_1 + (2 : Int32)))] [(.int (2 : Int32)), (.int v62_0)]))
      refine own_by (fun _ k => XS.iushr X.here hx rfl (hb hby d3_72) rfl k) ?_
      show OEnds p e below s _ _ _ (T.setTop (mkF m 73 #[.val (.int v62_0), .val (.int (v62_1 + (2 : Int32)))] [(.int ((v62_0.toUInt32 >>> ((2 : Int32) &&& 31).toUInt32).toInt32))]))
      refine own_by (fun _ k => XS.istoreN X.here hx rfl (hb hby d3_73) rfl (l' := #[.val (.int ((v62_0.toUInt32 >>> ((2 : Int32) &&& 31).toUInt32).toInt32)), .val (.int (v62_1 + (2 : Int32)))]) rfl k) ?_
      show OEnds p e below s _ _ _ (T.setTop (mkF m 74 #[.val (.int ((v62_0.toUInt32 >>> ((2 : Int32) &&& 31).toUInt32).toInt32)), .val (.int (v62_1 + (2 : Int32)))] []))
      exact own_eq (congrArg Value.int (by rw [ntz_62, if_pos hc64] <;> rfl)) (bntz_74 T X eT ((v62_0.toUInt32 >>> ((2 : Int32) &&& 31).toUInt32).toInt32) (v62_1 + (2 : Int32)))
    · refine own_by (fun _ k => XS.icmpYes X.here hx rfl (pc0 := 64) (pc' := 74) rfl (hb hby d3_64) rfl (flt hc64).2.2.2 (by decide) (by decide) k) ?_
      show OEnds p e below s _ _ _ (T.setTop (mkF m 74 #[.val (.int v62_0), .val (.int v62_1)] []))
      exact own_eq (congrArg Value.int (by rw [ntz_62, if_neg hc64] <;> rfl)) (bntz_74 T X eT v62_0 v62_1)
  have bntz_49 : ∀ (T : State) (X : Stand p l e ({ frames := 0, cells := 0, slots := 0, locals := 0 } : Room) s m #[(.int q0)] below meth c T [] 0 0) (eT : T.heap = h0) (v49_0 : Int32) (v49_1 : Int32), OEnds p e below s (QP (Value.int (ntz_49 v49_0 v49_1)) h0) 0 0 (T.setTop (mkF m 49 #[.val (.int v49_0), .val (.int v49_1)] [])) := by
    intro T X eT v49_0 v49_1
    refine own_by (fun _ k => XS.iloadN X.here hx rfl (hb hby d3_49) rfl k) ?_
    show OEnds p e below s _ _ _ (T.setTop (mkF m 50 #[.val (.int v49_0), .val (.int v49_1)] [(.int v49_0)]))
    refine own_by (fun _ k => XS.bipush X.here hx rfl (hb hby d3_50) k) ?_
    show OEnds p e below s _ _ _ (T.setTop (mkF m 52 #[.val (.int v49_0), .val (.int v49_1)] [(.int (16 : Int32)), (.int v49_0)]))
    by_cases hc52 : (16 : Int32) < v49_0
    · refine own_by (fun _ k => XS.icmpNo X.here hx rfl (hb hby d3_52) rfl (tlt hc52).2.2.2 k) ?_
      show OEnds p e below s _ _ _ (T.setTop (mkF m 55 #[.val (.int v49_0), .val (.int v49_1)] []))
      refine own_by (fun _ k => XS.iinc X.here hx rfl (hb hby d3_55) rfl (l' := #[.val (.int v49_0), .val (.int (v49_1 + (4 : Int32)))]) rfl k) ?_
      show OEnds p e below s _ _ _ (T.setTop (mkF m 58 #[.val (.int v49_0), .val (.int (v49_1 + (4 : Int32)))] []))
      refine own_by (fun _ k => XS.iloadN X.here hx rfl (hb hby d3_58) rfl k) ?_
      show OEnds p e below s _ _ _ (T.setTop (mkF m 59 #[.val (.int v49_0), .val (.int (v49_1 + (4 : Int32)))] [(.int v49_0)]))
      refine own_by (fun _ k => XS.iconst X.here hx rfl (hb hby d3_59) k) ?_
      show OEnds p e below s _ _ _ (T.setTop (mkF m 60 #[.val (.int v49_0), .val (.int (v49_1 + (4 : Int32)))] [(.int (4 : Int32)), (.int v49_0)]))
      refine own_by (fun _ k => XS.iushr X.here hx rfl (hb hby d3_60) rfl k) ?_
      show OEnds p e below s _ _ _ (T.setTop (mkF m 61 #[.val (.int v49_0), .val (.int (v49_1 + (4 : Int32)))] [(.int ((v49_0.toUInt32 >>> ((4 : Int32) &&& 31).toUInt32).toInt32))]))
      refine own_by (fun _ k => XS.istoreN X.here hx rfl (hb hby d3_61) rfl (l' := #[.val (.int ((v49_0.toUInt32 >>> ((4 : Int32) &&& 31).toUInt32).toInt32)), .val (.int (v49_1 + (4 : Int32)))]) rfl k) ?_
      show OEnds p e below s _ _ _ (T.setTop (mkF m 62 #[.val (.int ((v49_0.toUInt32 >>> ((4 : Int32) &&& 31).toUInt32).toInt32)), .val (.int (v49_1 + (4 : Int32)))] []))
      exact own_eq (congrArg Value.int (by rw [ntz_49, if_pos hc52] <;> rfl)) (bntz_62 T X eT ((v49_0.toUInt32 >>> ((4 : Int32) &&& 31).toUInt32).toInt32) (v49_1 + (4 : Int32)))
    · refine own_by (fun _ k => XS.icmpYes X.here hx rfl (pc0 := 52) (pc' := 62) rfl (hb hby d3_52) rfl (flt hc52).2.2.2 (by decide) (by decide) k) ?_
      show OEnds p e below s _ _ _ (T.setTop (mkF m 62 #[.val (.int v49_0), .val (.int v49_1)] []))
      exact own_eq (congrArg Value.int (by rw [ntz_49, if_neg hc52] <;> rfl)) (bntz_62 T X eT v49_0 v49_1)
  have bntz_34 : ∀ (T : State) (X : Stand p l e ({ frames := 0, cells := 0, slots := 0, locals := 0 } : Room) s m #[(.int q0)] below meth c T [] 0 0) (eT : T.heap = h0) (v34_0 : Int32) (v34_1 : Int32), OEnds p e below s (QP (Value.int (ntz_34 v34_0 v34_1)) h0) 0 0 (T.setTop (mkF m 34 #[.val (.int v34_0), .val (.int v34_1)] [])) := by
    intro T X eT v34_0 v34_1
    refine own_by (fun _ k => XS.iloadN X.here hx rfl (hb hby d3_34) rfl k) ?_
    show OEnds p e below s _ _ _ (T.setTop (mkF m 35 #[.val (.int v34_0), .val (.int v34_1)] [(.int v34_0)]))
    refine own_by (fun _ k => XS.sipush X.here hx rfl (hb hby d3_35) k) ?_
    show OEnds p e below s _ _ _ (T.setTop (mkF m 38 #[.val (.int v34_0), .val (.int v34_1)] [(.int (256 : Int32)), (.int v34_0)]))
    by_cases hc38 : (256 : Int32) < v34_0
    · refine own_by (fun _ k => XS.icmpNo X.here hx rfl (hb hby d3_38) rfl (tlt hc38).2.2.2 k) ?_
      show OEnds p e below s _ _ _ (T.setTop (mkF m 41 #[.val (.int v34_0), .val (.int v34_1)] []))
      refine own_by (fun _ k => XS.iinc X.here hx rfl (hb hby d3_41) rfl (l' := #[.val (.int v34_0), .val (.int (v34_1 + (8 : Int32)))]) rfl k) ?_
      show OEnds p e below s _ _ _ (T.setTop (mkF m 44 #[.val (.int v34_0), .val (.int (v34_1 + (8 : Int32)))] []))
      refine own_by (fun _ k => XS.iloadN X.here hx rfl (hb hby d3_44) rfl k) ?_
      show OEnds p e below s _ _ _ (T.setTop (mkF m 45 #[.val (.int v34_0), .val (.int (v34_1 + (8 : Int32)))] [(.int v34_0)]))
      refine own_by (fun _ k => XS.bipush X.here hx rfl (hb hby d3_45) k) ?_
      show OEnds p e below s _ _ _ (T.setTop (mkF m 47 #[.val (.int v34_0), .val (.int (v34_1 + (8 : Int32)))] [(.int (8 : Int32)), (.int v34_0)]))
      refine own_by (fun _ k => XS.iushr X.here hx rfl (hb hby d3_47) rfl k) ?_
      show OEnds p e below s _ _ _ (T.setTop (mkF m 48 #[.val (.int v34_0), .val (.int (v34_1 + (8 : Int32)))] [(.int ((v34_0.toUInt32 >>> ((8 : Int32) &&& 31).toUInt32).toInt32))]))
      refine own_by (fun _ k => XS.istoreN X.here hx rfl (hb hby d3_48) rfl (l' := #[.val (.int ((v34_0.toUInt32 >>> ((8 : Int32) &&& 31).toUInt32).toInt32)), .val (.int (v34_1 + (8 : Int32)))]) rfl k) ?_
      show OEnds p e below s _ _ _ (T.setTop (mkF m 49 #[.val (.int ((v34_0.toUInt32 >>> ((8 : Int32) &&& 31).toUInt32).toInt32)), .val (.int (v34_1 + (8 : Int32)))] []))
      exact own_eq (congrArg Value.int (by rw [ntz_34, if_pos hc38] <;> rfl)) (bntz_49 T X eT ((v34_0.toUInt32 >>> ((8 : Int32) &&& 31).toUInt32).toInt32) (v34_1 + (8 : Int32)))
    · refine own_by (fun _ k => XS.icmpYes X.here hx rfl (pc0 := 38) (pc' := 49) rfl (hb hby d3_38) rfl (flt hc38).2.2.2 (by decide) (by decide) k) ?_
      show OEnds p e below s _ _ _ (T.setTop (mkF m 49 #[.val (.int v34_0), .val (.int v34_1)] []))
      exact own_eq (congrArg Value.int (by rw [ntz_34, if_neg hc38] <;> rfl)) (bntz_49 T X eT v34_0 v34_1)
  show OEnds p e below s _ _ _ _
  refine own_by (fun t k => castTop (ef_3 m q0) k) ?_
  show OEnds p e below s _ _ _ (s₁.setTop (mkF m 0 #[.val (.int q0), .unset] []))
  refine own_by (fun _ k => XS.iloadN X0.here hx rfl (hb hby d3_0) rfl k) ?_
  show OEnds p e below s _ _ _ (s₁.setTop (mkF m 1 #[.val (.int q0), .unset] [(.int q0)]))
  refine own_by (fun _ k => XS.iconst X0.here hx rfl (hb hby d3_1) k) ?_
  show OEnds p e below s _ _ _ (s₁.setTop (mkF m 2 #[.val (.int q0), .unset] [(.int (-1 : Int32)), (.int q0)]))
  refine own_by (fun _ k => XS.ixor X0.here hx rfl (hb hby d3_2) rfl k) ?_
  show OEnds p e below s _ _ _ (s₁.setTop (mkF m 3 #[.val (.int q0), .unset] [(.int (q0 ^^^ (-1 : Int32)))]))
  refine own_by (fun _ k => XS.iloadN X0.here hx rfl (hb hby d3_3) rfl k) ?_
  show OEnds p e below s _ _ _ (s₁.setTop (mkF m 4 #[.val (.int q0), .unset] [(.int q0), (.int (q0 ^^^ (-1 : Int32)))]))
  refine own_by (fun _ k => XS.iconst X0.here hx rfl (hb hby d3_4) k) ?_
  show OEnds p e below s _ _ _ (s₁.setTop (mkF m 5 #[.val (.int q0), .unset] [(.int (1 : Int32)), (.int q0), (.int (q0 ^^^ (-1 : Int32)))]))
  refine own_by (fun _ k => XS.isub X0.here hx rfl (hb hby d3_5) rfl k) ?_
  show OEnds p e below s _ _ _ (s₁.setTop (mkF m 6 #[.val (.int q0), .unset] [(.int (q0 - (1 : Int32))), (.int (q0 ^^^ (-1 : Int32)))]))
  refine own_by (fun _ k => XS.iand X0.here hx rfl (hb hby d3_6) rfl k) ?_
  show OEnds p e below s _ _ _ (s₁.setTop (mkF m 7 #[.val (.int q0), .unset] [(.int ((q0 ^^^ (-1 : Int32)) &&& (q0 - (1 : Int32))))]))
  refine own_by (fun _ k => XS.istoreN X0.here hx rfl (hb hby d3_7) rfl (l' := #[.val (.int ((q0 ^^^ (-1 : Int32)) &&& (q0 - (1 : Int32)))), .unset]) rfl k) ?_
  show OEnds p e below s _ _ _ (s₁.setTop (mkF m 8 #[.val (.int ((q0 ^^^ (-1 : Int32)) &&& (q0 - (1 : Int32)))), .unset] []))
  refine own_by (fun _ k => XS.iloadN X0.here hx rfl (hb hby d3_8) rfl k) ?_
  show OEnds p e below s _ _ _ (s₁.setTop (mkF m 9 #[.val (.int ((q0 ^^^ (-1 : Int32)) &&& (q0 - (1 : Int32)))), .unset] [(.int ((q0 ^^^ (-1 : Int32)) &&& (q0 - (1 : Int32))))]))
  by_cases hc9 : (0 : Int32) < ((q0 ^^^ (-1 : Int32)) &&& (q0 - (1 : Int32)))
  · refine own_by (fun _ k => XS.ifYes X0.here hx rfl (pc0 := 9) (pc' := 17) rfl (hb hby d3_9) rfl ((if0 _ _).trans (tlt hc9).2.2.1) (by decide) (by decide) k) ?_
    show OEnds p e below s _ _ _ (s₁.setTop (mkF m 17 #[.val (.int ((q0 ^^^ (-1 : Int32)) &&& (q0 - (1 : Int32)))), .unset] []))
    refine own_by (fun _ k => XS.iconst X0.here hx rfl (hb hby d3_17) k) ?_
    show OEnds p e below s _ _ _ (s₁.setTop (mkF m 18 #[.val (.int ((q0 ^^^ (-1 : Int32)) &&& (q0 - (1 : Int32)))), .unset] [(.int (1 : Int32))]))
    refine own_by (fun _ k => XS.istoreN X0.here hx rfl (hb hby d3_18) rfl (l' := #[.val (.int ((q0 ^^^ (-1 : Int32)) &&& (q0 - (1 : Int32)))), .val (.int (1 : Int32))]) rfl k) ?_
    show OEnds p e below s _ _ _ (s₁.setTop (mkF m 19 #[.val (.int ((q0 ^^^ (-1 : Int32)) &&& (q0 - (1 : Int32)))), .val (.int (1 : Int32))] []))
    refine own_by (fun _ k => XS.iloadN X0.here hx rfl (hb hby d3_19) rfl k) ?_
    show OEnds p e below s _ _ _ (s₁.setTop (mkF m 20 #[.val (.int ((q0 ^^^ (-1 : Int32)) &&& (q0 - (1 : Int32)))), .val (.int (1 : Int32))] [(.int ((q0 ^^^ (-1 : Int32)) &&& (q0 - (1 : Int32))))]))
    refine own_by (X0.ldcwInt hx hown (mvT hZ (hw _ (List.mem_of_getElem? (i := 19) rfl))) (g := (mkF m 20 #[.val (.int ((q0 ^^^ (-1 : Int32)) &&& (q0 - (1 : Int32)))), .val (.int (1 : Int32))] [(.int ((q0 ^^^ (-1 : Int32)) &&& (q0 - (1 : Int32))))])) rfl (hb hby d3_20)) ?_
    show OEnds p e below s _ _ _ (s₁.setTop (mkF m 23 #[.val (.int ((q0 ^^^ (-1 : Int32)) &&& (q0 - (1 : Int32)))), .val (.int (1 : Int32))] [(.int (65536 : Int32)), (.int ((q0 ^^^ (-1 : Int32)) &&& (q0 - (1 : Int32))))]))
    by_cases hc23 : (65536 : Int32) < ((q0 ^^^ (-1 : Int32)) &&& (q0 - (1 : Int32)))
    · refine own_by (fun _ k => XS.icmpNo X0.here hx rfl (hb hby d3_23) rfl (tlt hc23).2.2.2 k) ?_
      show OEnds p e below s _ _ _ (s₁.setTop (mkF m 26 #[.val (.int ((q0 ^^^ (-1 : Int32)) &&& (q0 - (1 : Int32)))), .val (.int (1 : Int32))] []))
      refine own_by (fun _ k => XS.iinc X0.here hx rfl (hb hby d3_26) rfl (l' := #[.val (.int ((q0 ^^^ (-1 : Int32)) &&& (q0 - (1 : Int32)))), .val (.int (17 : Int32))]) rfl k) ?_
      show OEnds p e below s _ _ _ (s₁.setTop (mkF m 29 #[.val (.int ((q0 ^^^ (-1 : Int32)) &&& (q0 - (1 : Int32)))), .val (.int (17 : Int32))] []))
      refine own_by (fun _ k => XS.iloadN X0.here hx rfl (hb hby d3_29) rfl k) ?_
      show OEnds p e below s _ _ _ (s₁.setTop (mkF m 30 #[.val (.int ((q0 ^^^ (-1 : Int32)) &&& (q0 - (1 : Int32)))), .val (.int (17 : Int32))] [(.int ((q0 ^^^ (-1 : Int32)) &&& (q0 - (1 : Int32))))]))
      refine own_by (fun _ k => XS.bipush X0.here hx rfl (hb hby d3_30) k) ?_
      show OEnds p e below s _ _ _ (s₁.setTop (mkF m 32 #[.val (.int ((q0 ^^^ (-1 : Int32)) &&& (q0 - (1 : Int32)))), .val (.int (17 : Int32))] [(.int (16 : Int32)), (.int ((q0 ^^^ (-1 : Int32)) &&& (q0 - (1 : Int32))))]))
      refine own_by (fun _ k => XS.iushr X0.here hx rfl (hb hby d3_32) rfl k) ?_
      show OEnds p e below s _ _ _ (s₁.setTop (mkF m 33 #[.val (.int ((q0 ^^^ (-1 : Int32)) &&& (q0 - (1 : Int32)))), .val (.int (17 : Int32))] [(.int ((((q0 ^^^ (-1 : Int32)) &&& (q0 - (1 : Int32))).toUInt32 >>> ((16 : Int32) &&& 31).toUInt32).toInt32))]))
      refine own_by (fun _ k => XS.istoreN X0.here hx rfl (hb hby d3_33) rfl (l' := #[.val (.int ((((q0 ^^^ (-1 : Int32)) &&& (q0 - (1 : Int32))).toUInt32 >>> ((16 : Int32) &&& 31).toUInt32).toInt32)), .val (.int (17 : Int32))]) rfl k) ?_
      show OEnds p e below s _ _ _ (s₁.setTop (mkF m 34 #[.val (.int ((((q0 ^^^ (-1 : Int32)) &&& (q0 - (1 : Int32))).toUInt32 >>> ((16 : Int32) &&& 31).toUInt32).toInt32)), .val (.int (17 : Int32))] []))
      exact own_eq (congrArg Value.int (by rw [ntz, if_pos hc9, if_pos hc23] <;> rfl)) (bntz_34 s₁ X0 e0 ((((q0 ^^^ (-1 : Int32)) &&& (q0 - (1 : Int32))).toUInt32 >>> ((16 : Int32) &&& 31).toUInt32).toInt32) (17 : Int32))
    · refine own_by (fun _ k => XS.icmpYes X0.here hx rfl (pc0 := 23) (pc' := 34) rfl (hb hby d3_23) rfl (flt hc23).2.2.2 (by decide) (by decide) k) ?_
      show OEnds p e below s _ _ _ (s₁.setTop (mkF m 34 #[.val (.int ((q0 ^^^ (-1 : Int32)) &&& (q0 - (1 : Int32)))), .val (.int (1 : Int32))] []))
      exact own_eq (congrArg Value.int (by rw [ntz, if_pos hc9, if_neg hc23] <;> rfl)) (bntz_34 s₁ X0 e0 ((q0 ^^^ (-1 : Int32)) &&& (q0 - (1 : Int32))) (1 : Int32))
  · refine own_by (fun _ k => XS.ifNo X0.here hx rfl (hb hby d3_9) rfl ((if0 _ _).trans (flt hc9).2.2.1) k) ?_
    show OEnds p e below s _ _ _ (s₁.setTop (mkF m 12 #[.val (.int ((q0 ^^^ (-1 : Int32)) &&& (q0 - (1 : Int32)))), .unset] []))
    refine own_by (fun _ k => XS.iloadN X0.here hx rfl (hb hby d3_12) rfl k) ?_
    show OEnds p e below s _ _ _ (s₁.setTop (mkF m 13 #[.val (.int ((q0 ^^^ (-1 : Int32)) &&& (q0 - (1 : Int32)))), .unset] [(.int ((q0 ^^^ (-1 : Int32)) &&& (q0 - (1 : Int32))))]))
    refine own_by (fun _ k => XS.bipush X0.here hx rfl (hb hby d3_13) k) ?_
    show OEnds p e below s _ _ _ (s₁.setTop (mkF m 15 #[.val (.int ((q0 ^^^ (-1 : Int32)) &&& (q0 - (1 : Int32)))), .unset] [(.int (32 : Int32)), (.int ((q0 ^^^ (-1 : Int32)) &&& (q0 - (1 : Int32))))]))
    refine own_by (fun _ k => XS.iand X0.here hx rfl (hb hby d3_15) rfl k) ?_
    show OEnds p e below s _ _ _ (s₁.setTop (mkF m 16 #[.val (.int ((q0 ^^^ (-1 : Int32)) &&& (q0 - (1 : Int32)))), .unset] [(.int (((q0 ^^^ (-1 : Int32)) &&& (q0 - (1 : Int32))) &&& (32 : Int32)))]))
    exact own_retI X0 hx hlk Bd.returns (hb hby d3_16) ⟨congrArg (fun z => some (Value.int z)) (Eq.symm (by rw [ntz, if_neg hc9] <;> rfl)), rfl, e0⟩ (Nat.le_refl _) (Nat.le_refl _)
theorem d9_0 : decode jdk_29_method_69_code 0 = .ok (.iload_n 0, 1) := by decide +kernel
theorem d9_1 : decode jdk_29_method_69_code 1 = .ok (.iload_n 1, 1) := by decide +kernel
theorem d9_2 : decode jdk_29_method_69_code 2 = .ok (.if_icmp .gt 7, 3) := by decide +kernel
theorem d9_5 : decode jdk_29_method_69_code 5 = .ok (.iload_n 0, 1) := by decide +kernel
theorem d9_6 : decode jdk_29_method_69_code 6 = .ok (.goto 4, 3) := by decide +kernel
theorem d9_9 : decode jdk_29_method_69_code 9 = .ok (.iload_n 1, 1) := by decide +kernel
theorem d9_10 : decode jdk_29_method_69_code 10 = .ok (.ireturn, 1) := by decide +kernel
theorem ef_9 (m : MethodId) (q0 : Int32) (q1 : Int32) : entryFrame m #[(.int q0), (.int q1)] 2 = mkF m 0 #[.val (.int q0), .val (.int q1)] [] := by first | (simp [entryFrame, mkF, argsToLocals, Value.category]; done) | rfl
def jmin_10 (v10_s0 : Int32) : Int32 := v10_s0
def jmin (q0 : Int32) (q1 : Int32) : Int32 := if q1 < q0 then (jmin_10 q1) else (jmin_10 q0)
set_option maxRecDepth 65536 in
set_option maxHeartbeats 40000000 in
theorem rm_jmin (l : Launch) (Z : State) (a0 : Array Value) (hw : ∀ d ∈ tables_1, d.before a0 Z = true) (ws : List Jvm.Cond) (q0 : Int32) (q1 : Int32) (h0 : Heap) :
    MetFree l (⟨"java/lang/Math", "min", "(II)I"⟩ : MethodName) (head1 (Jvm.Cond.code (⟨"java/lang/Math", "min", "(II)I"⟩ : MethodName) jdk_29_method_69_code 2 (some .int) :: ws) ({ frames := 0, cells := 0, slots := 0, locals := 0 } : Room)) (fun a U => a = #[(.int q0), (.int q1)] ∧ Z.Warmed39 U.vm ∧ U.heap = h0) (fun _ _ _ _ _ => True) (fun _ U o U' => ∃ v L, o = .returned v ∧ QP (Value.int (jmin q0 q1)) h0 v U'.heap L ∧ FrameEnd U o U' L 0 0) := by
  refine MetFree.of_bodySF (Jvm.Free.JP.mathPlain rfl (by decide +kernel)) hisR ?_
  intro p e s m args below meth c s₁ Bd hml0 hP hK
  obtain ⟨rfl, hZ, hh⟩ := hP
  have hx := Bd.exec
  have hby := Bd.bytes
  have hlk : meth.locks = false := Bd.notSynchronized
  have hml : c.maxLocals = 2 := hml0
  have hown : s.vm.findClass "java/lang/Math" = some m.cls := findClass_of_methodNamed Bd.named
  have X0 : Stand p l e ({ frames := 0, cells := 0, slots := 0, locals := 0 } : Room) s m #[(.int q0), (.int q1)] below meth c s₁ [] 0 0 := Stand.of_body Bd
  have e0 : s₁.heap = h0 := by rw [← hh, Bd.state]; rfl
  have bjmin_10 : ∀ (T : State) (X : Stand p l e ({ frames := 0, cells := 0, slots := 0, locals := 0 } : Room) s m #[(.int q0), (.int q1)] below meth c T [] 0 0) (eT : T.heap = h0) (v10_s0 : Int32), OEnds p e below s (QP (Value.int (jmin_10 v10_s0)) h0) 0 0 (T.setTop (mkF m 10 #[.val (.int q0), .val (.int q1)] [(.int v10_s0)])) := by
    intro T X eT v10_s0
    exact own_retI X hx hlk Bd.returns (hb hby d9_10) ⟨congrArg (fun z => some (Value.int z)) (Eq.symm (by rw [jmin_10] <;> rfl)), rfl, eT⟩ (Nat.le_refl _) (Nat.le_refl _)
  show OEnds p e below s _ _ _ _
  refine own_by (fun t k => castTop (ef_9 m q0 q1) k) ?_
  show OEnds p e below s _ _ _ (s₁.setTop (mkF m 0 #[.val (.int q0), .val (.int q1)] []))
  refine own_by (fun _ k => XS.iloadN X0.here hx rfl (hb hby d9_0) rfl k) ?_
  show OEnds p e below s _ _ _ (s₁.setTop (mkF m 1 #[.val (.int q0), .val (.int q1)] [(.int q0)]))
  refine own_by (fun _ k => XS.iloadN X0.here hx rfl (hb hby d9_1) rfl k) ?_
  show OEnds p e below s _ _ _ (s₁.setTop (mkF m 2 #[.val (.int q0), .val (.int q1)] [(.int q1), (.int q0)]))
  by_cases hc2 : q1 < q0
  · refine own_by (fun _ k => XS.icmpYes X0.here hx rfl (pc0 := 2) (pc' := 9) rfl (hb hby d9_2) rfl (tlt hc2).2.2.1 (by decide) (by decide) k) ?_
    show OEnds p e below s _ _ _ (s₁.setTop (mkF m 9 #[.val (.int q0), .val (.int q1)] []))
    refine own_by (fun _ k => XS.iloadN X0.here hx rfl (hb hby d9_9) rfl k) ?_
    show OEnds p e below s _ _ _ (s₁.setTop (mkF m 10 #[.val (.int q0), .val (.int q1)] [(.int q1)]))
    exact own_eq (congrArg Value.int (by rw [jmin, if_pos hc2] <;> rfl)) (bjmin_10 s₁ X0 e0 q1)
  · refine own_by (fun _ k => XS.icmpNo X0.here hx rfl (hb hby d9_2) rfl (flt hc2).2.2.1 k) ?_
    show OEnds p e below s _ _ _ (s₁.setTop (mkF m 5 #[.val (.int q0), .val (.int q1)] []))
    refine own_by (fun _ k => XS.iloadN X0.here hx rfl (hb hby d9_5) rfl k) ?_
    show OEnds p e below s _ _ _ (s₁.setTop (mkF m 6 #[.val (.int q0), .val (.int q1)] [(.int q0)]))
    refine own_by (fun _ k => XS.goto X0.here hx rfl (pc0 := 6) (pc' := 10) rfl (hb hby d9_6) (by decide) (by decide) k) ?_
    show OEnds p e below s _ _ _ (s₁.setTop (mkF m 10 #[.val (.int q0), .val (.int q1)] [(.int q0)]))
    exact own_eq (congrArg Value.int (by rw [jmin, if_neg hc2] <;> rfl)) (bjmin_10 s₁ X0 e0 q0)
theorem d6_0 : decode prog_25_method_8_code 0 = .ok (.lload_n 1, 1) := by decide +kernel
theorem d6_1 : decode prog_25_method_8_code 1 = .ok (.ldc2_w 58, 3) := by decide +kernel
theorem d6_4 : decode prog_25_method_8_code 4 = .ok (.lmul, 1) := by decide +kernel
theorem d6_5 : decode prog_25_method_8_code 5 = .ok (.aload_n 0, 1) := by decide +kernel
theorem d6_6 : decode prog_25_method_8_code 6 = .ok (.getfield 23, 3) := by decide +kernel
theorem d6_9 : decode prog_25_method_8_code 9 = .ok (.lushr, 1) := by decide +kernel
theorem d6_10 : decode prog_25_method_8_code 10 = .ok (.l2i, 1) := by decide +kernel
theorem d6_11 : decode prog_25_method_8_code 11 = .ok (.ireturn, 1) := by decide +kernel
theorem pn_6 : plainName "com/example/tristream/tristream/LongIndex" = true := by first | (simp [plainName, overriddenIn]; done) | decide +kernel
theorem ef_6 (m : MethodId) (x0 : Addr) (x1 : Int64) : entryFrame m #[(.ref x0), (.long x1)] 3 = mkF m 0 #[.val (.ref x0), .val (.long x1), .second] [] := by first | (simp [entryFrame, mkF, argsToLocals, Value.category]; done) | rfl
def home_r (kk : Int64) (sf : Int32) : Int32 := ((((kk * (-7046029254386353131 : Int64)).toUInt64 >>> (sf &&& 0x3f).toInt64.toUInt64).toInt64).toInt32)
set_option maxRecDepth 65536 in
set_option maxHeartbeats 40000000 in
theorem rm_home (l : Launch) (Z : State) (a0 : Array Value) (hw : ∀ d ∈ tables_1, d.before a0 Z = true) (ws : List Jvm.Cond) (a : Addr) (kk : Int64) (kb : Addr) (sb : Addr) (sf : Int32) (z : Int32) (h0 : Heap) (n0 : Nat) (Z0 : n0 ≤ h0.size) (O0 : Obj Z h0 a "com/example/tristream/tristream/LongIndex" sch_li [(.ref kb), (.ref sb), (.int sf), (.int z)]) :
    MetFree l (⟨"com/example/tristream/tristream/LongIndex", "home", "(J)I"⟩ : MethodName) (head1 (Jvm.Cond.code (⟨"com/example/tristream/tristream/LongIndex", "home", "(J)I"⟩ : MethodName) prog_25_method_8_code 3 (some .int) :: ws) ({ frames := 0, cells := 0, slots := 0, locals := 0 } : Room)) (fun a_ U => a_ = #[(.ref a), (.long kk)] ∧ Z.Warmed39 U.vm ∧ U.heap = h0) (fun _ _ _ _ _ => True) (fun _ U o U' => ∃ v_ L_, o = .returned v_ ∧ QP (.int (home_r kk sf)) h0 v_ U'.heap L_ ∧ FrameEnd U o U' L_ ({ frames := 0, cells := 0, slots := 0, locals := 0 } : Room).cells ({ frames := 0, cells := 0, slots := 0, locals := 0 } : Room).slots) := by
  refine MetFree.of_bodySF (plainFor_of_name pn_6) hisR ?_
  intro p e s m args below meth c s₁ Bd hml0 hP hK
  obtain ⟨rfl, hZ, hh⟩ := hP
  have hx := Bd.exec
  have hby := Bd.bytes
  have hlk : meth.locks = false := Bd.notSynchronized
  have hml : c.maxLocals = 3 := hml0
  have hown : s.vm.findClass "com/example/tristream/tristream/LongIndex" = some m.cls := findClass_of_methodNamed Bd.named
  have hnm := (name_of_methodNamed Bd.named Bd.method).1
  have X0 : Stand p l e ({ frames := 0, cells := 0, slots := 0, locals := 0 } : Room) s m #[(.ref a), (.long kk)] below meth c s₁ [] 0 0 := Stand.of_body Bd
  have e0 : s₁.heap = h0 := by rw [← hh, Bd.state]; rfl
  have N0 := Fr.nil n0
  have K0 : Keep h0 h0 [] := Keep.refl _ _
  show OEnds p e below s (QP (.int (home_r kk sf)) h0) _ _ _
  refine own_by (fun t k => castTop (ef_6 m a kk) k) ?_
  show OEnds p e below s _ _ _ (s₁.setTop (mkF m 0 #[.val (.ref a), .val (.long kk), .second] []))
  refine own_by (fun _ k => XS.lloadN X0.here hx rfl (hb hby d6_0) rfl k) ?_
  show OEnds p e below s _ _ _ (s₁.setTop (mkF m 1 #[.val (.ref a), .val (.long kk), .second] [(.long kk)]))
  refine own_by (X0.ldc2Long hx hown (mvT hZ (hw _ (List.mem_of_getElem? (i := 35) rfl))) (g := (mkF m 1 #[.val (.ref a), .val (.long kk), .second] [(.long kk)])) rfl (hb hby d6_1)) ?_
  show OEnds p e below s _ _ _ (s₁.setTop (mkF m 4 #[.val (.ref a), .val (.long kk), .second] [(.long (-7046029254386353131 : Int64)), (.long kk)]))
  refine own_by (fun _ k => XS.lmul X0.here hx rfl (hb hby d6_4) rfl k) ?_
  show OEnds p e below s _ _ _ (s₁.setTop (mkF m 5 #[.val (.ref a), .val (.long kk), .second] [(.long (kk * (-7046029254386353131 : Int64)))]))
  refine own_by (fun _ k => XS.aloadN X0.here hx rfl (hb hby d6_5) rfl rfl k) ?_
  show OEnds p e below s _ _ _ (s₁.setTop (mkF m 6 #[.val (.ref a), .val (.long kk), .second] [(.ref a), (.long (kk * (-7046029254386353131 : Int64)))]))
  obtain ⟨T1, X1, e1, st1⟩ := getF X0 hx hZ hown (host := "") (Or.inl (hw _ (List.mem_of_getElem? (i := 20) rfl))) Via.refl e0 (O0.fld 2 rfl rfl) (g := (mkF m 6 #[.val (.ref a), .val (.long kk), .second] [(.ref a), (.long (kk * (-7046029254386353131 : Int64)))])) rfl rfl (hb hby d6_6)
  refine own_by (st1) ?_
  show OEnds p e below s _ _ _ (T1.setTop (mkF m 9 #[.val (.ref a), .val (.long kk), .second] [(.int sf), (.long (kk * (-7046029254386353131 : Int64)))]))
  refine own_by (fun _ k => XS.lushr X1.here hx rfl (hb hby d6_9) rfl k) ?_
  show OEnds p e below s _ _ _ (T1.setTop (mkF m 10 #[.val (.ref a), .val (.long kk), .second] [(.long (((kk * (-7046029254386353131 : Int64)).toUInt64 >>> (sf &&& 0x3f).toInt64.toUInt64).toInt64))]))
  refine own_by (fun _ k => XS.l2i X1.here hx rfl (hb hby d6_10) rfl k) ?_
  show OEnds p e below s _ _ _ (T1.setTop (mkF m 11 #[.val (.ref a), .val (.long kk), .second] [(.int ((((kk * (-7046029254386353131 : Int64)).toUInt64 >>> (sf &&& 0x3f).toInt64.toUInt64).toInt64).toInt32))]))
  exact own_retI X1 hx hlk Bd.returns (hb hby d6_11) ⟨congrArg (fun z => some (Value.int z)) (Eq.symm (by rw [home_r] <;> rfl)), rfl, e1⟩ (by decide) (by decide)
/-- S slots; hm i: the home of the i-th key; g s: 0, or 1 + the index of the key that lies in the slot s; P: which indices lie in the table -/
def Inv (S : Nat) (hm : Nat → Nat) (g : Nat → Nat) (P : Nat → Prop) : Prop :=
  (∀ s, s < S → g s ≠ 0 → P (g s - 1)) ∧ (∀ i, P i → ∃ s, s < S ∧ g s = i + 1) ∧ (∀ s t, s < S → t < S → g s = g t → g s ≠ 0 → s = t) ∧
  (∀ s, s < S → g s ≠ 0 → ∃ d, d < S ∧ s = (hm (g s - 1) + d) % S ∧ ∀ e, e < d → g ((hm (g s - 1) + e) % S) ≠ 0)
theorem pigeon : ∀ (n z : Nat) (f : Nat → Nat), (∀ s, s < n → f s < z) → (∀ s t, s < n → t < n → f s = f t → s = t) → n ≤ z := by
  intro n
  induction n with
  | zero => intros; omega
  | succ n ih =>
    intro z f h1 h2
    cases z with
    | zero => have := h1 0 (by omega); omega
    | succ z =>
      have hn := h1 n (by omega)
      have := ih z (fun s => if f s = z then f n else f s) (by
        intro s hs
        by_cases q : f s = z
        · have : f n ≠ z := fun e => by have := h2 s n (by omega) (by omega) (by omega); omega
          simp only [q, if_true]; omega
        · have := h1 s (by omega)
          simp only [q, if_false]; omega) (by
        intro s t hs ht e
        by_cases q : f s = z <;> by_cases r : f t = z <;> simp only [q, r, if_true, if_false] at e
        · exact h2 s t (by omega) (by omega) (q.trans r.symm)
        · have := h2 n t (by omega) (by omega) e; omega
        · have := h2 s n (by omega) (by omega) e; omega
        · exact h2 s t (by omega) (by omega) e)
      omega
theorem inv_zero {S z : Nat} {hm g : Nat → Nat} {P : Nat → Prop} (h : Inv S hm g P) (hP : ∀ i, P i → i < z) (hz : z < S) : ∃ s, s < S ∧ g s = 0 := by
  refine Classical.byContradiction fun hn => ?_
  have hp : ∀ s, s < S → g s ≠ 0 := fun s hs e => hn ⟨s, hs, e⟩
  have := pigeon S z (fun s => g s - 1) (fun s hs => hP _ (h.1 s hs (hp s hs))) (fun s t hs ht e => h.2.2.1 s t hs ht (by have := hp s hs; have := hp t ht; have e' : g s - 1 = g t - 1 := e; omega) (hp s hs))
  omega
/-- where the probe for a key stops -/
def Stop (S : Nat) (g : Nat → Nat) (is : Nat → Prop) (hk r : Nat) : Prop :=
  ∃ d, d < S ∧ r = (hk + d) % S ∧ (g r = 0 ∨ is (g r - 1)) ∧ ∀ e, e < d → g ((hk + e) % S) ≠ 0 ∧ ¬ is (g ((hk + e) % S) - 1)
theorem Stop.lt {S : Nat} {g : Nat → Nat} {is : Nat → Prop} {hk r : Nat} (st : Stop S g is hk r) : r < S := by
  obtain ⟨d, hd, hr, -⟩ := st
  rw [hr]; exact Nat.mod_lt _ (by omega)
theorem stop_hit {S : Nat} {hm g : Nat → Nat} {P is : Nat → Prop} {hk r i : Nat} (h : Inv S hm g P) (st : Stop S g is hk r) (hi : P i) (his : is i) (hu : ∀ j, P j → is j → j = i) (hh : hm i = hk) : g r = i + 1 := by
  have hS := st.lt
  obtain ⟨d, hd, hr, hs, hp⟩ := st
  obtain ⟨s, hs1, hs2⟩ := h.2.1 i hi
  obtain ⟨d0, hd0, e0, hp0⟩ := h.2.2.2 s hs1 (by omega)
  have eg : g s - 1 = i := by omega
  rw [eg, hh] at e0 hp0
  rcases Nat.lt_trichotomy d d0 with q | q | q
  · have h1 := hp0 d q
    rw [← hr] at h1
    have h2 : is (g r - 1) := hs.resolve_left h1
    have := hu (g r - 1) (h.1 r hS h1) h2
    omega
  · subst q; rw [hr, ← e0]; exact hs2
  · have := (hp d0 q).2
    rw [← e0, eg] at this
    exact absurd his this
theorem stop_miss {S : Nat} {hm g : Nat → Nat} {P is : Nat → Prop} {hk r : Nat} (h : Inv S hm g P) (st : Stop S g is hk r) (hn : ∀ j, P j → ¬ is j) : g r = 0 := by
  have hS := st.lt
  obtain ⟨d, hd, hr, hs, hp⟩ := st
  refine Classical.byContradiction fun q => ?_
  exact hn (g r - 1) (h.1 r hS q) (hs.resolve_left q)
theorem inv_empty (S : Nat) (hm : Nat → Nat) : Inv S hm (fun _ => 0) (fun i => i < 0) :=
  ⟨fun s _ h => absurd rfl h, fun i hi => absurd hi (Nat.not_lt_zero _), fun s t _ _ _ h => absurd rfl h, fun s _ h => absurd rfl h⟩
theorem inv_add {S z : Nat} {hm g : Nat → Nat} {P : Nat → Prop} {hk r : Nat} (h : Inv S hm g P) (hz : ¬ P z) (hr0 : g r = 0) (hd : ∃ d, d < S ∧ r = (hk + d) % S ∧ ∀ e, e < d → g ((hk + e) % S) ≠ 0) :
    Inv S (fun i => if i = z then hk else hm i) (fun s => if s = r then z + 1 else g s) (fun i => i = z ∨ P i) := by
  obtain ⟨d, hd1, hd2, hd3⟩ := hd
  have hrS : r < S := by rw [hd2]; exact Nat.mod_lt _ (by omega)
  have nz : ∀ s, s < S → g s ≠ 0 → g s - 1 ≠ z := fun s hs hn e => hz (e ▸ h.1 s hs hn)
  refine ⟨fun s hs hn => ?_, fun i hi => ?_, fun s t hs ht e hn => ?_, fun s hs hn => ?_⟩
  · by_cases q : s = r
    · simp [q]
    · simp only [q, if_false] at hn ⊢; exact Or.inr (h.1 s hs hn)
  · rcases hi with rfl | hi
    · exact ⟨r, hrS, by simp⟩
    · obtain ⟨s, h1, h2⟩ := h.2.1 i hi
      have : s ≠ r := fun e => by rw [e, hr0] at h2; omega
      exact ⟨s, h1, by simp only [this, if_false]; exact h2⟩
  · by_cases q : s = r <;> by_cases q' : t = r <;> simp only [q, q', if_true, if_false] at e hn
    · rw [q, q']
    · have := nz t ht (by omega); omega
    · have := nz s hs hn; omega
    · exact h.2.2.1 s t hs ht e hn
  · by_cases q : s = r
    · refine ⟨d, hd1, ?_, ?_⟩
      · simp only [q, if_true, Nat.add_sub_cancel]; exact hd2
      · intro e he
        simp only [q, if_true, Nat.add_sub_cancel]
        by_cases q2 : (hk + e) % S = r
        · simp [q2]
        · simp only [q2, if_false]; exact hd3 e he
    · simp only [q, if_false] at hn
      obtain ⟨d0, h1, h2, h3⟩ := h.2.2.2 s hs hn
      have hne := nz s hs hn
      refine ⟨d0, h1, ?_, ?_⟩
      · simp only [q, if_false, hne]; exact h2
      · intro e he
        simp only [q, if_false, hne]
        by_cases q2 : (hm (g s - 1) + e) % S = r
        · simp [q2]
        · simp only [q2, if_false]; exact h3 e he
/-- the table while a hole travels: H has 0 at the hole; nx = hole + K is looked at next -/
def Part (S : Nat) (hm : Nat → Nat) (H : Nat → Nat) (P : Nat → Prop) (hole K : Nat) : Prop :=
  hole < S ∧ H hole = 0 ∧ (∀ s, s < S → H s ≠ 0 → P (H s - 1)) ∧ (∀ i, P i → ∃ s, s < S ∧ H s = i + 1) ∧ (∀ s t, s < S → t < S → H s = H t → H s ≠ 0 → s = t) ∧
  (∀ j, 0 < j → j < K → H ((hole + j) % S) ≠ 0) ∧
  (∀ s, s < S → H s ≠ 0 → ∃ d, d < S ∧ s = (hm (H s - 1) + d) % S ∧ ∀ e, e < d → H ((hm (H s - 1) + e) % S) ≠ 0 ∨ ((hm (H s - 1) + e) % S = hole ∧ K ≤ d - e))
theorem part_done {S : Nat} (hS : S = 4 ∨ S = 8) {hm H : Nat → Nat} {P : Nat → Prop} {hole K : Nat} (h : Part S hm H P hole K) (hK : 0 < K) (h0 : H ((hole + K) % S) = 0) : Inv S hm H P := by
  obtain ⟨h1, h2, h3, h4, h5, h6, h7⟩ := h
  refine ⟨h3, h4, h5, fun s hs hn => ?_⟩
  obtain ⟨d, d1, d2, d3⟩ := h7 s hs hn
  refine ⟨d, d1, d2, fun e he => ?_⟩
  rcases d3 e he with q | ⟨q, r⟩
  · exact q
  · exfalso
    by_cases k : K = d - e
    · have e1 : (hole + K) % S = s := by rcases hS with rfl | rfl <;> omega
      rw [e1] at h0
      exact hn h0
    · have e3 : (hm (H s - 1) + (e + K)) % S = (hole + K) % S := by rcases hS with rfl | rfl <;> omega
      rcases d3 (e + K) (by omega) with w | ⟨w, -⟩
      · rw [e3] at w; exact w h0
      · rcases hS with rfl | rfl <;> omega
theorem part_skip {S : Nat} (hS : S = 4 ∨ S = 8) {hm H : Nat → Nat} {P : Nat → Prop} {hole K : Nat} (h : Part S hm H P hole K) (hK : 0 < K) (hKS : K < S) (h0 : H ((hole + K) % S) ≠ 0) {d : Nat} (hd : d < S) (hnx : (hole + K) % S = (hm (H ((hole + K) % S) - 1) + d) % S) (hlt : d < K) : Part S hm H P hole (K + 1) := by
  obtain ⟨h1, h2, h3, h4, h5, h6, h7⟩ := h
  refine ⟨h1, h2, h3, h4, h5, fun j j0 j1 => ?_, fun s hs hn => ?_⟩
  · by_cases q : j = K
    · rw [q]; exact h0
    · exact h6 j j0 (by omega)
  · obtain ⟨d', d1, d2, d3⟩ := h7 s hs hn
    refine ⟨d', d1, d2, fun e he => ?_⟩
    rcases d3 e he with q | ⟨q, r⟩
    · exact Or.inl q
    · refine Or.inr ⟨q, ?_⟩
      by_cases k : K = d' - e
      · exfalso
        have e1 : s = (hole + K) % S := by rcases hS with rfl | rfl <;> omega
        rw [← e1] at hnx
        rcases hS with rfl | rfl <;> omega
      · omega
theorem part_move {S : Nat} (hS : S = 4 ∨ S = 8) {hm H : Nat → Nat} {P : Nat → Prop} {hole K : Nat} (h : Part S hm H P hole K) (hK : 0 < K) (hKS : K < S) {nx : Nat} (enx : nx = (hole + K) % S) (h0 : H nx ≠ 0) {d : Nat} (hd : d < S) (hnx : nx = (hm (H nx - 1) + d) % S) (hge : K ≤ d) : Part S hm (fun s => if s = nx then 0 else if s = hole then H nx else H s) P nx 1 := by
  obtain ⟨h1, h2, h3, h4, h5, h6, h7⟩ := h
  have n1 : nx < S := by rcases hS with rfl | rfl <;> omega
  have n2 : hole ≠ nx := by rcases hS with rfl | rfl <;> omega
  refine ⟨n1, by simp, fun s hs hn => ?_, fun i hi => ?_, fun s t hs ht e hn => ?_, fun j j0 j1 => by omega, fun s hs hn => ?_⟩
  · by_cases q : s = nx
    · simp [q] at hn
    · by_cases q' : s = hole
      · simp only [q, q', if_true, if_false, n2]; exact h3 nx n1 h0
      · simp only [q, q', if_false] at hn ⊢; exact h3 s hs hn
  · obtain ⟨s, s1, s2⟩ := h4 i hi
    by_cases q : s = nx
    · exact ⟨hole, h1, by simp only [n2, if_true, if_false]; rw [← q]; exact s2⟩
    · have q' : s ≠ hole := fun e => by rw [e, h2] at s2; omega
      exact ⟨s, s1, by simp only [q, q', if_false]; exact s2⟩
  · by_cases q1 : s = nx
    · simp [q1] at hn
    · by_cases q2 : t = nx
      · simp only [q1, q2, if_true, if_false] at e hn
        exact absurd e hn
      · by_cases q3 : s = hole <;> by_cases q4 : t = hole
        · rw [q3, q4]
        · subst q3
          simp only [q1, q2, q4, if_true, if_false] at e hn
          exact absurd (h5 nx t n1 ht e h0).symm q2
        · subst q4
          simp only [q1, q2, q3, if_true, if_false] at e hn
          exact absurd (h5 s nx hs n1 e hn) q1
        · simp only [q1, q2, q3, q4, if_false] at e hn
          exact h5 s t hs ht e hn
  · by_cases q1 : s = nx
    · simp [q1] at hn
    · by_cases q3 : s = hole
      · obtain ⟨d', d1, d2, d3⟩ := h7 nx n1 h0
        have ed : d' = d := by rcases hS with rfl | rfl <;> omega
        subst ed
        have es : (if s = nx then 0 else if s = hole then H nx else H s) = H nx := by simp only [q3, n2, if_true, if_false]
        refine ⟨d' - K, by omega, ?_, fun e he => ?_⟩
        · show s = (hm ((if s = nx then 0 else if s = hole then H nx else H s) - 1) + (d' - K)) % S
          rw [es, q3]; rcases hS with rfl | rfl <;> omega
        · left
          show (if (hm ((if s = nx then 0 else if s = hole then H nx else H s) - 1) + e) % S = nx then 0 else if (hm ((if s = nx then 0 else if s = hole then H nx else H s) - 1) + e) % S = hole then H nx else H ((hm ((if s = nx then 0 else if s = hole then H nx else H s) - 1) + e) % S)) ≠ 0
          rw [es]
          have w1 : (hm (H nx - 1) + e) % S ≠ nx := by rcases hS with rfl | rfl <;> omega
          have w2 : (hm (H nx - 1) + e) % S ≠ hole := by rcases hS with rfl | rfl <;> omega
          rw [if_neg w1, if_neg w2]
          rcases d3 e (by omega) with w | ⟨w, -⟩
          · exact w
          · exact absurd w w2
      · have es : (if s = nx then 0 else if s = hole then H nx else H s) = H s := by simp only [q1, q3, if_false]
        have hn' : H s ≠ 0 := by have : (if s = nx then 0 else if s = hole then H nx else H s) ≠ 0 := hn; rwa [es] at this
        obtain ⟨d', d1, d2, d3⟩ := h7 s hs hn'
        refine ⟨d', d1, ?_, fun e he => ?_⟩
        · show s = (hm ((if s = nx then 0 else if s = hole then H nx else H s) - 1) + d') % S
          rw [es]; exact d2
        · show (if (hm ((if s = nx then 0 else if s = hole then H nx else H s) - 1) + e) % S = nx then 0 else if (hm ((if s = nx then 0 else if s = hole then H nx else H s) - 1) + e) % S = hole then H nx else H ((hm ((if s = nx then 0 else if s = hole then H nx else H s) - 1) + e) % S)) ≠ 0 ∨ ((hm ((if s = nx then 0 else if s = hole then H nx else H s) - 1) + e) % S = nx ∧ 1 ≤ d' - e)
          rw [es]
          by_cases w1 : (hm (H s - 1) + e) % S = nx
          · exact Or.inr ⟨w1, by omega⟩
          · by_cases w2 : (hm (H s - 1) + e) % S = hole
            · left; rw [if_neg w1, if_pos w2]; exact h0
            · left; rw [if_neg w1, if_neg w2]
              rcases d3 e he with w | ⟨w, -⟩
              · exact w
              · exact absurd w w2
theorem part_init {S : Nat} {hm g : Nat → Nat} {P : Nat → Prop} {r i0 : Nat} (h : Inv S hm g P) (hr : r < S) (hg : g r = i0 + 1) : Part S hm (fun s => if s = r then 0 else g s) (fun j => P j ∧ j ≠ i0) r 1 := by
  obtain ⟨h1, h2, h3, h4⟩ := h
  refine ⟨hr, by simp, fun s hs hn => ?_, fun i hi => ?_, fun s t hs ht e hn => ?_, fun j j0 j1 => by omega, fun s hs hn => ?_⟩
  · by_cases q : s = r
    · simp [q] at hn
    · simp only [q, if_false] at hn ⊢
      refine ⟨h1 s hs hn, fun e => q (h3 s r hs hr (by omega) hn)⟩
  · obtain ⟨s, s1, s2⟩ := h2 i hi.1
    have : s ≠ r := fun e => hi.2 (by rw [e, hg] at s2; omega)
    exact ⟨s, s1, by simp only [this, if_false]; exact s2⟩
  · by_cases q : s = r
    · simp [q] at hn
    · by_cases q' : t = r
      · simp only [q, q', if_true, if_false] at e hn
        exact absurd e hn
      · simp only [q, q', if_false] at e hn
        exact h3 s t hs ht e hn
  · by_cases q : s = r
    · simp [q] at hn
    · have es : (if s = r then 0 else g s) = g s := by simp only [q, if_false]
      have hn' : g s ≠ 0 := by have : (if s = r then 0 else g s) ≠ 0 := hn; rwa [es] at this
      obtain ⟨d, d1, d2, d3⟩ := h4 s hs hn'
      refine ⟨d, d1, ?_, fun e he => ?_⟩
      · show s = (hm ((if s = r then 0 else g s) - 1) + d) % S
        rw [es]; exact d2
      · show (if (hm ((if s = r then 0 else g s) - 1) + e) % S = r then 0 else g ((hm ((if s = r then 0 else g s) - 1) + e) % S)) ≠ 0 ∨ ((hm ((if s = r then 0 else g s) - 1) + e) % S = r ∧ 1 ≤ d - e)
        rw [es]
        by_cases w : (hm (g s - 1) + e) % S = r
        · exact Or.inr ⟨w, by omega⟩
        · left; rw [if_neg w]; exact d3 e he
theorem inv_congr {S : Nat} {hm hm' g g' : Nat → Nat} {P P' : Nat → Prop} (h : Inv S hm g P) (hg : ∀ s, s < S → g' s = g s) (hP : ∀ i, P i ↔ P' i) (hh : ∀ i, P i → hm' i = hm i) : Inv S hm' g' P' := by
  obtain ⟨h1, h2, h3, h4⟩ := h
  refine ⟨fun s hs hn => ?_, fun i hi => ?_, fun s t hs ht e hn => ?_, fun s hs hn => ?_⟩
  · rw [hg s hs] at hn ⊢; exact (hP _).mp (h1 s hs hn)
  · obtain ⟨s, s1, s2⟩ := h2 i ((hP i).mpr hi); exact ⟨s, s1, by rw [hg s s1]; exact s2⟩
  · rw [hg s hs, hg t ht] at e; rw [hg s hs] at hn; exact h3 s t hs ht e hn
  · rw [hg s hs] at hn ⊢
    obtain ⟨d, d1, d2, d3⟩ := h4 s hs hn
    have hS : 0 < S := by omega
    rw [hh _ (h1 s hs hn)]
    exact ⟨d, d1, d2, fun e he => by rw [hg _ (Nat.mod_lt _ hS)]; exact d3 e he⟩
theorem inv_relabel {S : Nat} {hm g : Nat → Nat} {P : Nat → Prop} {r m i : Nat} (h : Inv S hm g P) (hr : r < S) (hg : g r = m + 1) (hi : ¬ P i) (him : i ≠ m) : Inv S (fun j => if j = i then hm m else hm j) (fun s => if s = r then i + 1 else g s) (fun j => j = i ∨ (P j ∧ j ≠ m)) := by
  obtain ⟨h1, h2, h3, h4⟩ := h
  have ni : ∀ s, s < S → g s ≠ 0 → g s - 1 ≠ i := fun s hs hn e => hi (e ▸ h1 s hs hn)
  refine ⟨fun s hs hn => ?_, fun j hj => ?_, fun s t hs ht e hn => ?_, fun s hs hn => ?_⟩
  · by_cases q : s = r
    · simp [q]
    · simp only [q, if_false] at hn ⊢
      exact Or.inr ⟨h1 s hs hn, fun e => q (h3 s r hs hr (by omega) hn)⟩
  · rcases hj with rfl | ⟨hj, hm'⟩
    · exact ⟨r, hr, by simp⟩
    · obtain ⟨s, s1, s2⟩ := h2 j hj
      have : s ≠ r := fun e => hm' (by rw [e, hg] at s2; omega)
      exact ⟨s, s1, by simp only [this, if_false]; exact s2⟩
  · by_cases q : s = r <;> by_cases q' : t = r <;> simp only [q, q', if_true, if_false] at e hn
    · rw [q, q']
    · have := ni t ht (by omega); omega
    · have := ni s hs hn; omega
    · exact h3 s t hs ht e hn
  · have hS : 0 < S := by omega
    have tr : ∀ x, x < S → g x ≠ 0 → (if x = r then i + 1 else g x) ≠ 0 := fun x _ hx => by by_cases q : x = r <;> simp [q, hx]
    by_cases q : s = r
    · obtain ⟨d, d1, d2, d3⟩ := h4 r hr (by omega)
      rw [hg, Nat.add_sub_cancel] at d2 d3
      refine ⟨d, d1, ?_, fun e he => ?_⟩
      · simp only [q, if_true, Nat.add_sub_cancel]; exact d2
      · simp only [q, if_true, Nat.add_sub_cancel]; exact tr _ (Nat.mod_lt _ hS) (d3 e he)
    · simp only [q, if_false] at hn
      obtain ⟨d, d1, d2, d3⟩ := h4 s hs hn
      have hne := ni s hs hn
      refine ⟨d, d1, ?_, fun e he => ?_⟩
      · simp only [q, if_false, hne]; exact d2
      · simp only [q, if_false, hne]; exact tr _ (Nat.mod_lt _ hS) (d3 e he)
def gn (sl : Nat → Int32) (s : Nat) : Nat := (sl s).toInt.toNat
/-- the slots and the shift go together -/
def Sz (S : Nat) (sf : Int32) : Prop := (S = 4 ∧ sf = 62) ∨ (S = 8 ∧ sf = 61)
theorem Sz.or {S : Nat} {sf : Int32} (h : Sz S sf) : S = 4 ∨ S = 8 := by rcases h with h | h; exact Or.inl h.1; exact Or.inr h.1
def hm (sf : Int32) (k : Int64) : Nat := (home_r k sf).toInt.toNat
theorem hm_spec {S : Nat} {sf : Int32} (h : Sz S sf) (k : Int64) : (home_r k sf).toInt = ((hm sf k : Nat) : Int) ∧ hm sf k < S := by
  rw [hm]
  have hr := rng64 (k * (-7046029254386353131 : Int64))
  rcases h with ⟨rfl, rfl⟩ | ⟨rfl, rfl⟩
  · have h1 := c_lushr (k * (-7046029254386353131 : Int64)) 62 62 (by decide) (by decide)
    have h2 := c_l2i (((k * (-7046029254386353131 : Int64)).toUInt64 >>> ((62 : Int32) &&& 0x3f).toInt64.toUInt64).toInt64)
    have h3 := rng32 (home_r k 62)
    rw [home_r] at h3 ⊢
    omega
  · have h1 := c_lushr (k * (-7046029254386353131 : Int64)) 61 61 (by decide) (by decide)
    have h2 := c_l2i (((k * (-7046029254386353131 : Int64)).toUInt64 >>> ((61 : Int32) &&& 0x3f).toInt64.toUInt64).toInt64)
    have h3 := rng32 (home_r k 61)
    rw [home_r] at h3 ⊢
    omega
/-- what a probe needs: no minus, the indices within the keys, a free slot -/
def Fo (S : Nat) (sf : Int32) (sl : Nat → Int32) (kn : Nat) : Prop := Sz S sf ∧ kn ≤ 4 ∧ (∀ s, s < S → 0 ≤ (sl s).toInt) ∧ (∀ s, s < S → gn sl s ≠ 0 → gn sl s - 1 < kn) ∧ ∃ s, s < S ∧ gn sl s = 0
theorem gn_zero {sl : Nat → Int32} {s : Nat} (h : 0 ≤ (sl s).toInt) (h0 : gn sl s = 0) : sl s = (0 : Int32) := by
  apply Int32.toInt_inj.mp
  have : (0 : Int32).toInt = 0 := by decide
  rw [this]; rw [gn] at h0; omega
theorem gn_of {sl : Nat → Int32} {s : Nat} (h : sl s = (0 : Int32)) : gn sl s = 0 := by rw [gn, h]; decide
theorem gn_pos {sl : Nat → Int32} {s : Nat} (h : 0 ≤ (sl s).toInt) (h0 : ¬ sl s = (0 : Int32)) : gn sl s ≠ 0 := fun e => h0 (gn_zero h e)
theorem idx_of {sl : Nat → Int32} {s : Nat} (h : 0 ≤ (sl s).toInt) (h0 : gn sl s ≠ 0) : ((sl s) - (1 : Int32)).toInt = ((gn sl s - 1 : Nat) : Int) := by
  have h1 := c_isub (sl s) 1
  have h2 := rng32 ((sl s) - 1)
  have h3 : (1 : Int32).toInt = 1 := by decide
  have h4 := rng32 (sl s)
  rw [gn] at h0 ⊢
  omega
theorem nxt {S : Nat} (hS : S = 4 ∨ S = 8) {pp : Int32} {n : Nat} (h : pp.toInt = (n : Int)) (hn : n < S) : ((pp + (1 : Int32)) &&& ((Int32.ofNat S) - (1 : Int32))).toInt = (((n + 1) % S : Nat) : Int) := by
  have h1 := c_iadd pp 1
  have h2 := rng32 (pp + 1)
  have h3 : (1 : Int32).toInt = 1 := by decide
  rcases hS with rfl | rfl
  · have e : (Int32.ofNat 4) - (1 : Int32) = 3 := by decide
    rw [e, c_mask (pp + 1) 3 2 (by decide) (by decide)]
    omega
  · have e : (Int32.ofNat 8) - (1 : Int32) = 7 := by decide
    rw [e, c_mask (pp + 1) 7 3 (by decide) (by decide)]
    omega
theorem dist {S : Nat} (hS : S = 4 ∨ S = 8) {x y n1 n2 : Nat} {a b : Int32} (h1 : a.toInt = (n1 : Int)) (h2 : b.toInt = (n2 : Int)) (b1 : n1 < S) (b2 : n2 < S) : ((a - b) &&& ((Int32.ofNat S) - (1 : Int32))).toInt = (((n1 + S - n2) % S : Nat) : Int) := by
  have h3 := c_isub a b
  have h4 := rng32 (a - b)
  rcases hS with rfl | rfl
  · have e : (Int32.ofNat 4) - (1 : Int32) = 3 := by decide
    rw [e, c_mask (a - b) 3 2 (by decide) (by decide)]
    omega
  · have e : (Int32.ofNat 8) - (1 : Int32) = 7 := by decide
    rw [e, c_mask (a - b) 7 3 (by decide) (by decide)]
    omega
theorem far {S : Nat} (hS : S = 4 ∨ S = 8) {hk s : Nat} (h1 : hk < S) (h2 : s < S) : ∃ d, d < S ∧ (hk + d) % S = s := ⟨(s + S - hk) % S, by rcases hS with rfl | rfl <;> omega, by rcases hS with rfl | rfl <;> omega⟩
def IdxR (ks : List Int64) (k : Int64) (r : Int32) : Prop := (∃ i, i < ks.length ∧ ks.getD i 0 = k ∧ r.toInt = ((i : Nat) : Int)) ∨ ((∀ i, i < ks.length → ks.getD i 0 ≠ k) ∧ r = (-1 : Int32))
def Dis (ks : List Int64) : Prop := ∀ i j, i < ks.length → j < ks.length → ks.getD i 0 = ks.getD j 0 → i = j
/-- the state of a LongIndex that holds the keys ks, in order -/
def LI (S : Nat) (sf z : Int32) (sl : Nat → Int32) (kf : Nat → Int64) (kn : Nat) (ks : List Int64) : Prop :=
  Sz S sf ∧ 2 * kn = S ∧ z.toInt = (ks.length : Int) ∧ 2 * ks.length ≤ S ∧ (∀ i, i < ks.length → kf i = ks.getD i 0) ∧ Dis ks ∧ (∀ s, s < S → 0 ≤ (sl s).toInt) ∧ Inv S (fun i => hm sf (kf i)) (gn sl) (fun i => i < ks.length)
theorem LI.fo {S kn : Nat} {sf z : Int32} {sl : Nat → Int32} {kf : Nat → Int64} {ks : List Int64} (h : LI S sf z sl kf kn ks) : Fo S sf sl kn := by
  obtain ⟨h1, h2, h3, h4, h5, h6, h7, h8⟩ := h
  have hS := h1.or
  refine ⟨h1, by omega, h7, fun s hs hn => ?_, inv_zero h8 (fun i hi => hi) (by omega)⟩
  have := h8.1 s hs hn
  omega
theorem li_hit {S kn : Nat} {sf z : Int32} {sl : Nat → Int32} {kf : Nat → Int64} {ks : List Int64} {k : Int64} {r i : Nat} (h : LI S sf z sl kf kn ks) (st : Stop S (gn sl) (fun i => kf i = k) (hm sf k) r) (hi : i < ks.length) (hk : ks.getD i 0 = k) : gn sl r = i + 1 := by
  obtain ⟨h1, h2, h3, h4, h5, h6, h7, h8⟩ := h
  exact stop_hit h8 st hi ((h5 i hi).trans hk) (fun j hj e => h6 j i hj hi (by rw [← h5 j hj, e, hk])) (by show hm sf (kf i) = _; rw [h5 i hi, hk])
theorem li_miss {S kn : Nat} {sf z : Int32} {sl : Nat → Int32} {kf : Nat → Int64} {ks : List Int64} {k : Int64} {r : Nat} (h : LI S sf z sl kf kn ks) (st : Stop S (gn sl) (fun i => kf i = k) (hm sf k) r) (hk : ∀ i, i < ks.length → ks.getD i 0 ≠ k) : gn sl r = 0 := by
  obtain ⟨h1, h2, h3, h4, h5, h6, h7, h8⟩ := h
  exact stop_miss h8 st (fun j hj e => hk j hj (by rw [← h5 j hj]; exact e))
theorem mem_or (ks : List Int64) (k : Int64) : (∃ i, i < ks.length ∧ ks.getD i 0 = k) ∨ (∀ i, i < ks.length → ks.getD i 0 ≠ k) := by
  by_cases h : ∃ i, i < ks.length ∧ ks.getD i 0 = k
  · exact Or.inl h
  · exact Or.inr fun i hi e => h ⟨i, hi, e⟩
theorem li_idx {S kn : Nat} {sf z : Int32} {sl : Nat → Int32} {kf : Nat → Int64} {ks : List Int64} {k : Int64} {r : Nat} (h : LI S sf z sl kf kn ks) (st : Stop S (gn sl) (fun i => kf i = k) (hm sf k) r) : IdxR ks k ((sl r) - (1 : Int32)) := by
  have hr := st.lt
  have h7 := h.2.2.2.2.2.2.1 r hr
  rcases mem_or ks k with ⟨i, hi, hk⟩ | hk
  · have hg := li_hit h st hi hk
    refine Or.inl ⟨i, hi, hk, ?_⟩
    rw [idx_of h7 (by omega), hg]; rfl
  · refine Or.inr ⟨hk, ?_⟩
    rw [gn_zero h7 (li_miss h st hk)]; decide
theorem getD_app {ks : List Int64} {k : Int64} {i : Nat} : (ks ++ [k]).getD i 0 = if i < ks.length then ks.getD i 0 else if i = ks.length then k else 0 := by
  simp only [List.getD]
  by_cases h : i < ks.length
  · rw [if_pos h, List.getElem?_append_left h]
  · rw [if_neg h, List.getElem?_append_right (by omega)]
    by_cases q : i = ks.length
    · subst q; simp
    · rw [if_neg q]
      have : i - ks.length ≠ 0 := by omega
      obtain ⟨m, hm⟩ : ∃ m, i - ks.length = m + 1 := ⟨i - ks.length - 1, by omega⟩
      rw [hm]; simp
theorem li_put {S kn : Nat} {sf zv : Int32} {sl : Nat → Int32} {kf kf' : Nat → Int64} {ks : List Int64} {k : Int64} {r : Nat} (h1 : Sz S sf) (h2 : 2 * kn = S) (h4 : 2 * (ks.length + 1) ≤ S) (h5 : ∀ i, i < ks.length → kf i = ks.getD i 0) (h6 : Dis ks) (hn : ∀ i, i < ks.length → ks.getD i 0 ≠ k) (h7 : ∀ s, s < S → 0 ≤ (sl s).toInt) (h8 : Inv S (fun i => hm sf (kf i)) (gn sl) (fun i => i < ks.length))
    (st : Stop S (gn sl) (fun i => kf i = k) (hm sf k) r) (hz : zv.toInt = ((ks.length + 1 : Nat) : Int)) (k1 : ∀ i, i < ks.length → kf' i = kf i) (k2 : kf' ks.length = k) : LI S sf zv (updI sl r zv) kf' kn (ks ++ [k]) := by
  have hr := st.lt
  have hg : gn sl r = 0 := stop_miss h8 st (fun j hj e => hn j hj (by rw [← h5 j hj]; exact e))
  have hl : (ks ++ [k]).length = ks.length + 1 := by simp
  refine ⟨h1, h2, by rw [hl]; exact hz, by rw [hl]; exact h4, fun i hi => ?_, fun i j hi hj e => ?_, fun s hs => ?_, ?_⟩
  · rw [hl] at hi
    rw [getD_app]
    by_cases q : i < ks.length
    · rw [if_pos q, k1 i q, h5 i q]
    · have : i = ks.length := by omega
      rw [if_neg q, if_pos this, this, k2]
  · rw [hl] at hi hj
    rw [getD_app, getD_app] at e
    by_cases q : i < ks.length <;> by_cases q' : j < ks.length
    · rw [if_pos q, if_pos q'] at e; exact h6 i j q q' e
    · rw [if_pos q, if_neg q', if_pos (by omega)] at e; exact absurd e (hn i q)
    · rw [if_neg q, if_pos q', if_pos (by omega)] at e; exact absurd e.symm (hn j q')
    · omega
  · by_cases q : s = r
    · rw [updI, if_pos q, hz]; omega
    · rw [updI, if_neg q]; exact h7 s hs
  · obtain ⟨d, d1, d2, -, d4⟩ := st
    refine inv_congr (inv_add (z := ks.length) h8 (Nat.lt_irrefl _) hg ⟨d, d1, d2, fun e he => (d4 e he).1⟩) (fun s hs => ?_) (fun i => ?_) (fun i hi => ?_)
    · by_cases q : s = r
      · rw [if_pos q, gn, updI, if_pos q, hz]; omega
      · rw [if_neg q, gn, updI, if_neg q]; rfl
    · rw [hl]; constructor
      · intro h; rcases h with h | h <;> omega
      · intro h; by_cases q : i = ks.length
        · exact Or.inl q
        · exact Or.inr (by omega)
    · by_cases q : i = ks.length
      · rw [if_pos q, q, k2]
      · rw [if_neg q, k1 i (by rcases hi with h | h; exact absurd h q; exact h)]
def AddR (ks : List Int64) (k : Int64) (ks' : List Int64) : Prop := (∃ i, i < ks.length ∧ ks.getD i 0 = k ∧ ks' = ks) ∨ ((∀ i, i < ks.length → ks.getD i 0 ≠ k) ∧ ks' = ks ++ [k])
theorem zinc {z : Int32} {n : Nat} (h : z.toInt = (n : Int)) (hn : n ≤ 100) : (z + (1 : Int32)).toInt = ((n + 1 : Nat) : Int) := by
  have h1 := c_iadd z 1
  have h2 := rng32 (z + 1)
  have h3 : (1 : Int32).toInt = 1 := by decide
  omega
theorem zdec {z : Int32} {n : Nat} (h : z.toInt = ((n + 1 : Nat) : Int)) (hn : n ≤ 100) : (z - (1 : Int32)).toInt = (n : Int) := by
  have h1 := c_isub z 1
  have h2 := rng32 (z - 1)
  have h3 : (1 : Int32).toInt = 1 := by decide
  omega
theorem idx_new {ks : List Int64} {k : Int64} {r : Int32} (hr : r.toInt = (ks.length : Int)) : IdxR (ks ++ [k]) k r := Or.inl ⟨ks.length, by simp, by rw [getD_app, if_neg (Nat.lt_irrefl _), if_pos rfl], hr⟩
theorem inv0 (S : Nat) (hmm : Nat → Nat) : Inv S hmm (gn fun _ => (0 : Int32)) (fun i => i < 0) := inv_congr (inv_empty S hmm) (fun s _ => rfl) (fun i => Iff.rfl) (fun i _ => rfl)
theorem gn_upd (sl : Nat → Int32) (r : Nat) {v : Int32} {n : Nat} (h : v.toInt = (n : Int)) (s : Nat) : gn (updI sl r v) s = if s = r then n else gn sl s := by
  by_cases q : s = r
  · rw [gn, updI, if_pos q, if_pos q, h]; omega
  · rw [gn, updI, if_neg q, if_neg q]; rfl
/-- the table of two keys, put anew into 8 slots -/
theorem rs8 {kf : Nat → Int64} {p0 p1 d : Nat} (h0 : p0 = hm 61 (kf 0)) (hd : (d = 0 ∧ p1 = hm 61 (kf 1) ∧ p1 ≠ p0) ∨ (d = 1 ∧ p0 = hm 61 (kf 1) ∧ p1 = (p0 + 1) % 8)) : Inv 8 (fun i => hm 61 (kf i)) (gn (updI (updI (fun _ => (0 : Int32)) p0 (1 : Int32)) p1 (2 : Int32))) (fun i => i < 2) := by
  have z8 : Sz 8 61 := Or.inr ⟨rfl, rfl⟩
  have b0 := (hm_spec z8 (kf 0)).2
  have b1 := (hm_spec z8 (kf 1)).2
  have e1 : (1 : Int32).toInt = ((1 : Nat) : Int) := by decide
  have e2 : (2 : Int32).toInt = ((2 : Nat) : Int) := by decide
  have g0 : ∀ s, gn (fun _ => (0 : Int32)) s = 0 := fun s => rfl
  have i1 := inv_add (z := 0) (hk := hm 61 (kf 0)) (r := p0) (inv0 8 (fun i => hm 61 (kf i))) (Nat.lt_irrefl _) rfl ⟨0, by omega, by omega, fun e he => absurd he (Nat.not_lt_zero e)⟩
  have i2 := inv_add (z := 1) (hk := hm 61 (kf 1)) (r := p1) i1 (by omega) (by
    show (if p1 = p0 then 0 + 1 else gn (fun _ => (0 : Int32)) p1) = 0
    rw [if_neg (by rcases hd with h | h <;> omega)]; rfl) ⟨d, by omega, by rcases hd with ⟨rfl, h, -⟩ | ⟨rfl, h, h'⟩ <;> omega, fun e he => by
      rcases hd with ⟨rfl, -, -⟩ | ⟨rfl, h, -⟩
      · omega
      · have : e = 0 := by omega
        subst this
        have q : (hm 61 (kf 1) + 0) % 8 = p0 := by omega
        show (if (hm 61 (kf 1) + 0) % 8 = p0 then 0 + 1 else _) ≠ 0
        rw [if_pos q]; omega⟩
  refine inv_congr i2 (fun s hs => ?_) (fun i => ?_) (fun i hi => ?_)
  · rw [gn_upd _ _ e2, gn_upd _ _ e1]
  · constructor
    · intro h; rcases h with h | h | h <;> omega
    · intro h; by_cases q : i = 1
      · exact Or.inl q
      · exact Or.inr (Or.inl (by omega))
  · by_cases q : i = 1
    · rw [if_pos q, q]
    · rw [if_neg q]
      by_cases q' : i = 0
      · rw [if_pos q', q']
      · rw [if_neg q']
def rmL (ks : List Int64) (i : Nat) : List Int64 := (ks.set i (ks.getD (ks.length - 1) 0)).take (ks.length - 1)
theorem rmL_len (ks : List Int64) (i : Nat) : (rmL ks i).length = ks.length - 1 := by rw [rmL, List.length_take, List.length_set]; omega
theorem rmL_get {ks : List Int64} {i j : Nat} (hj : j < ks.length - 1) : (rmL ks i).getD j 0 = if j = i then ks.getD (ks.length - 1) 0 else ks.getD j 0 := by
  rw [rmL]
  simp only [List.getD]
  rw [List.getElem?_take_of_lt hj, List.getElem?_set]
  by_cases q : i = j
  · subst q; rw [if_pos rfl, if_pos (by omega), if_pos rfl]; rfl
  · rw [if_neg q, if_neg (fun e => q e.symm)]
def RemR (ks : List Int64) (k : Int64) (ks' : List Int64) : Prop := (∃ i, i < ks.length ∧ ks.getD i 0 = k ∧ ks' = rmL ks i) ∨ ((∀ i, i < ks.length → ks.getD i 0 ≠ k) ∧ ks' = ks)
theorem rmL_dis {ks : List Int64} {i : Nat} (h : Dis ks) (hi : i < ks.length) : Dis (rmL ks i) := by
  intro a b ha hb e
  rw [rmL_len] at ha hb
  rw [rmL_get ha, rmL_get hb] at e
  by_cases q : a = i <;> by_cases q' : b = i
  · omega
  · rw [if_pos q, if_neg q'] at e; have := h _ _ (by omega) (by omega) e; omega
  · rw [if_neg q, if_pos q'] at e; have := h _ _ (by omega) (by omega) e; omega
  · rw [if_neg q, if_neg q'] at e; exact h _ _ (by omega) (by omega) e
/-- what clear leaves -/
def Cl (S : Nat) (sf : Int32) (sl : Nat → Int32) (kf : Nat → Int64) (P : Nat → Prop) : Prop := (∀ s, s < S → 0 ≤ (sl s).toInt) ∧ Inv S (fun i => hm sf (kf i)) (gn sl) P
/-- the last key goes -/
theorem li_remA {S kn n : Nat} {sf z zv : Int32} {sl sl' : Nat → Int32} {kf : Nat → Int64} {ks : List Int64} {i : Nat} (h : LI S sf z sl kf kn ks) (hn : ks.length = n + 1) (hi : i = n) (hc : Cl S sf sl' kf (fun j => j < ks.length ∧ j ≠ i)) (hz : zv.toInt = (n : Int)) : LI S sf zv sl' kf kn (rmL ks i) := by
  obtain ⟨h1, h2, h3, h4, h5, h6, h7, h8⟩ := h
  refine ⟨h1, h2, by rw [rmL_len, hn]; exact hz, by rw [rmL_len]; omega, fun j hj => ?_, rmL_dis h6 (by omega), hc.1, inv_congr hc.2 (fun _ _ => rfl) (fun j => ?_) (fun _ _ => rfl)⟩
  · rw [rmL_len] at hj
    rw [rmL_get hj, if_neg (by omega)]; exact h5 j (by omega)
  · rw [rmL_len]; constructor
    · intro q; omega
    · intro q; omega
/-- another key goes, the last one takes its place -/
theorem li_remB {S kn n : Nat} {sf z zv iv : Int32} {sl sl' : Nat → Int32} {kf : Nat → Int64} {ks : List Int64} {i r : Nat} (h : LI S sf z sl kf kn ks) (hn : ks.length = n + 1) (hi : i < n) (hc : Cl S sf sl' kf (fun j => j < ks.length ∧ j ≠ i)) (hz : zv.toInt = (n : Int)) (st : Stop S (gn sl') (fun j => updL kf i (kf n) j = kf n) (hm sf (kf n)) r) (hiv : iv.toInt = ((i + 1 : Nat) : Int)) : LI S sf zv (updI sl' r iv) (updL kf i (kf n)) kn (rmL ks i) := by
  obtain ⟨h1, h2, h3, h4, h5, h6, h7, h8⟩ := h
  have ne : ∀ j, j ≠ i → updL kf i (kf n) j = kf j := fun j hj => by rw [updL, if_neg hj]
  have hv : Inv S (fun j => hm sf (updL kf i (kf n) j)) (gn sl') (fun j => j < ks.length ∧ j ≠ i) := inv_congr hc.2 (fun _ _ => rfl) (fun _ => Iff.rfl) (fun j hj => by show hm sf (updL kf i (kf n) j) = hm sf (kf j); rw [ne j hj.2])
  have hg : gn sl' r = n + 1 := stop_hit hv st (i := n) ⟨by omega, by omega⟩ (ne n (by omega)) (fun j hj e => by
    have e' : updL kf i (kf n) j = kf n := e
    rw [ne j hj.2, h5 j hj.1, h5 n (by omega)] at e'
    exact h6 j n hj.1 (by omega) e') (by show hm sf (updL kf i (kf n) n) = _; rw [ne n (by omega)])
  have hr := st.lt
  refine ⟨h1, h2, by rw [rmL_len, hn]; exact hz, by rw [rmL_len]; omega, fun j hj => ?_, rmL_dis h6 (by omega), fun s hs => ?_, ?_⟩
  · rw [rmL_len] at hj
    rw [rmL_get hj]
    by_cases q : j = i
    · rw [if_pos q, updL, if_pos q, h5 n (by omega), show ks.length - 1 = n by omega]
    · rw [if_neg q, ne j q]; exact h5 j (by omega)
  · by_cases q : s = r
    · rw [updI, if_pos q, hiv]; omega
    · rw [updI, if_neg q]; exact hc.1 s hs
  · refine inv_congr (inv_relabel (i := i) hv hr hg (fun q => q.2 rfl) (by omega)) (fun s hs => gn_upd _ _ hiv s) (fun j => ?_) (fun j hj => ?_)
    · rw [rmL_len]; constructor
      · intro q; rcases q with q | q <;> omega
      · intro q; by_cases w : j = i
        · exact Or.inl w
        · exact Or.inr ⟨⟨by omega, w⟩, by omega⟩
    · by_cases q : j = i
      · rw [if_pos q, q, updL, if_pos rfl, ne n (by omega)]
      · rw [if_neg q]
/-- the hole's table beside the array -/
def hol (sl : Nat → Int32) (hole : Nat) (s : Nat) : Nat := if s = hole then 0 else gn sl s
theorem cl_move {S : Nat} (hS : S = 4 ∨ S = 8) {hmm : Nat → Nat} {sl : Nat → Int32} {P : Nat → Prop} {hole K nx : Nat} (h : Part S hmm (hol sl hole) P hole K) (hK : 0 < K) (hKS : K < S) (enx : nx = (hole + K) % S) (h0 : gn sl nx ≠ 0) {d : Nat} (hd : d < S) (hnx : nx = (hmm (gn sl nx - 1) + d) % S) (hge : K ≤ d) : Part S hmm (hol (updI sl hole (sl nx)) nx) P nx 1 := by
  have hne : nx ≠ hole := by have := h.1; rcases hS with rfl | rfl <;> omega
  have e1 : hol sl hole nx = gn sl nx := by rw [hol, if_neg hne]
  have h2 := part_move hS h hK hKS enx (by rw [e1]; exact h0) hd (by rw [e1]; exact hnx) hge
  have e2 : (fun s => if s = nx then 0 else if s = hole then hol sl hole nx else hol sl hole s) = hol (updI sl hole (sl nx)) nx := by
    funext s
    show (if s = nx then 0 else if s = hole then hol sl hole nx else hol sl hole s) = (if s = nx then 0 else gn (updI sl hole (sl nx)) s)
    rw [e1]
    by_cases q : s = nx
    · rw [if_pos q, if_pos q]
    · rw [if_neg q, if_neg q]
      by_cases q' : s = hole
      · rw [if_pos q', gn, gn, updI, if_pos q']
      · rw [if_neg q', gn, updI, if_neg q', hol, if_neg q']; rfl
  rw [e2] at h2
  exact h2
theorem cl_done {S : Nat} (hS : S = 4 ∨ S = 8) {hmm : Nat → Nat} {sl : Nat → Int32} {P : Nat → Prop} {hole K : Nat} (h : Part S hmm (hol sl hole) P hole K) (hK : 0 < K) (hKS : K < S) (h0 : gn sl ((hole + K) % S) = 0) : Inv S hmm (gn (updI sl hole (0 : Int32))) P := by
  have e : ∀ s, gn (updI sl hole (0 : Int32)) s = hol sl hole s := fun s => by
    rw [gn_upd _ _ (show (0 : Int32).toInt = ((0 : Nat) : Int) by decide)]; rfl
  exact inv_congr (part_done hS h hK (by rw [hol]; by_cases q : (hole + K) % S = hole <;> simp [q, h0])) (fun s _ => e s) (fun _ => Iff.rfl) (fun _ _ => rfl)
theorem nxt8 {pp : Int32} {n : Nat} (h : pp.toInt = (n : Int)) (hn : n < 8) : ((pp + (1 : Int32)) &&& (7 : Int32)).toInt = (((n + 1) % 8 : Nat) : Int) := by
  have h1 := c_iadd pp 1
  have h2 := rng32 (pp + 1)
  have h3 : (1 : Int32).toInt = 1 := by decide
  rw [c_mask (pp + 1) 7 3 (by decide) (by decide)]
  omega
theorem z8 : Sz 8 61 := Or.inr ⟨rfl, rfl⟩
theorem rs_ne {p0 p1 : Nat} (h : updI (fun _ => (0 : Int32)) p0 (1 : Int32) p1 = (0 : Int32)) : p1 ≠ p0 := by
  intro e
  rw [updI, if_pos e] at h
  exact absurd h (by decide)
theorem rs_eq {p0 p1 : Nat} (h : ¬ updI (fun _ => (0 : Int32)) p0 (1 : Int32) p1 = (0 : Int32)) : p1 = p0 := by
  refine Classical.byContradiction fun q => h ?_
  rw [updI, if_neg q]
theorem rs_free {p0 p1 : Nat} (hb : p1 < 8) (h : ¬ updI (fun _ => (0 : Int32)) p0 (1 : Int32) p1 = (0 : Int32)) : updI (fun _ => (0 : Int32)) p0 (1 : Int32) ((p1 + 1) % 8) = (0 : Int32) := by
  have := rs_eq h
  rw [updI, if_neg (by omega)]
theorem rs_nn (p0 p1 : Nat) : ∀ s, s < 8 → 0 ≤ (updI (updI (fun _ => (0 : Int32)) p0 (1 : Int32)) p1 (2 : Int32) s).toInt := by
  intro s _
  rw [updI]
  by_cases q : s = p1
  · rw [if_pos q]; decide
  · rw [if_neg q, updI]
    by_cases q' : s = p0
    · rw [if_pos q']; decide
    · rw [if_neg q']; decide
theorem fo_rs {sl : Nat → Int32} {hmm : Nat → Nat} (h1 : ∀ s, s < 8 → 0 ≤ (sl s).toInt) (h2 : Inv 8 hmm (gn sl) (fun i => i < 2)) : Fo 8 61 sl 2 :=
  ⟨z8, by decide, h1, fun s hs hn => h2.1 s hs hn, inv_zero h2 (fun i hi => hi) (by decide)⟩
theorem li_len {S kn : Nat} {sf z : Int32} {sl : Nat → Int32} {kf : Nat → Int64} {ks : List Int64} (h : LI S sf z sl kf kn ks) : z.toInt = (ks.length : Int) ∧ 2 * ks.length ≤ S ∧ 2 * kn = S ∧ (S = 4 ∨ S = 8) := ⟨h.2.2.1, h.2.2.2.1, h.2.1, h.1.or⟩
theorem grow_2 {z : Int32} {n : Nat} (h : z.toInt = (n : Int)) (hn : 2 * n ≤ 4) (hg : (4 : Int32) < ((z + (1 : Int32)) * (2 : Int32))) : z = (2 : Int32) ∧ n = 2 := by
  have h1 := zinc h (by omega)
  have h2 := c_imul (z + (1 : Int32)) 2
  have h3 := rng32 ((z + (1 : Int32)) * 2)
  have h4 : (2 : Int32).toInt = 2 := by decide
  have h5 : (4 : Int32).toInt = 4 := by decide
  rw [Int32.lt_iff_toInt_lt, h5] at hg
  rw [h1, h4] at h2
  have : n = 2 := by omega
  exact ⟨Int32.toInt_inj.mp (by rw [h, h4, this]; rfl), this⟩
theorem grow_n {z : Int32} {n : Nat} (h : z.toInt = (n : Int)) (hn : 2 * n ≤ 4) (hg : ¬ (4 : Int32) < ((z + (1 : Int32)) * (2 : Int32))) : n ≤ 1 := by
  have h1 := zinc h (by omega)
  have h2 := c_imul (z + (1 : Int32)) 2
  have h3 := rng32 ((z + (1 : Int32)) * 2)
  have h4 : (2 : Int32).toInt = 2 := by decide
  have h5 : (4 : Int32).toInt = 4 := by decide
  rw [Int32.lt_iff_toInt_lt, h5] at hg
  rw [h1, h4] at h2
  omega
theorem ne_2 {z : Int32} {n : Nat} (h : z.toInt = (n : Int)) (hn : n ≤ 1) : ¬ z = (2 : Int32) := by
  intro q
  have h4 : (2 : Int32).toInt = 2 := by decide
  rw [q, h4] at h; omega
theorem add_found {S kn : Nat} {sf z : Int32} {sl : Nat → Int32} {kf : Nat → Int64} {ks : List Int64} {k : Int64} {r : Nat} (h : LI S sf z sl kf kn ks) (st : Stop S (gn sl) (fun i => kf i = k) (hm sf k) r) (hz : ¬ sl r = (0 : Int32)) : AddR ks k ks ∧ ∃ i, i < ks.length ∧ ks.getD i 0 = k ∧ gn sl r = i + 1 := by
  rcases mem_or ks k with ⟨i, hi, hk⟩ | hk
  · exact ⟨Or.inl ⟨i, hi, hk, rfl⟩, i, hi, hk, li_hit h st hi hk⟩
  · exact absurd (gn_zero (h.2.2.2.2.2.2.1 r st.lt) (li_miss h st hk)) hz
theorem add_new {S kn : Nat} {sf z : Int32} {sl : Nat → Int32} {kf : Nat → Int64} {ks : List Int64} {k : Int64} {r : Nat} (h : LI S sf z sl kf kn ks) (st : Stop S (gn sl) (fun i => kf i = k) (hm sf k) r) (hz : sl r = (0 : Int32)) : ∀ i, i < ks.length → ks.getD i 0 ≠ k := by
  intro i hi hk
  have := li_hit h st hi hk
  rw [gn_of hz] at this
  omega
theorem li_add4 {z : Int32} {sl : Nat → Int32} {kf : Nat → Int64} {ks : List Int64} {k : Int64} {r : Nat} (h : LI 4 62 z sl kf 2 ks) (st : Stop 4 (gn sl) (fun i => kf i = k) (hm 62 k) r) (hz : sl r = (0 : Int32)) (hn : ks.length ≤ 1) : LI 4 62 (z + (1 : Int32)) (updI sl r (z + (1 : Int32))) (updL kf ks.length k) 2 (ks ++ [k]) := by
  have hw := add_new h st hz
  obtain ⟨h1, h2, h3, h4, h5, h6, h7, h8⟩ := h
  exact li_put h1 h2 (by omega) h5 h6 hw h7 h8 st (zinc h3 (by omega)) (fun i hi => by rw [updL, if_neg (by omega)]) (by rw [updL, if_pos rfl])
theorem li_add8 {z : Int32} {sl sl' : Nat → Int32} {kf : Nat → Int64} {ks : List Int64} {k : Int64} {r r' : Nat} (h : LI 4 62 z sl kf 2 ks) (st : Stop 4 (gn sl) (fun i => kf i = k) (hm 62 k) r) (hz : sl r = (0 : Int32)) (hn : ks.length = 2) (n1 : ∀ s, s < 8 → 0 ≤ (sl' s).toInt) (n2 : Inv 8 (fun i => hm 61 (kf i)) (gn sl') (fun i => i < 2)) (st' : Stop 8 (gn sl') (fun i => kf i = k) (hm 61 k) r') : LI 8 61 (3 : Int32) (updI sl' r' (3 : Int32)) (updL (fun i => if i < 2 then kf i else (0 : Int64)) 2 k) 4 (ks ++ [k]) := by
  have hw := add_new h st hz
  obtain ⟨h1, h2, h3, h4, h5, h6, h7, h8⟩ := h
  exact li_put z8 rfl (by omega) h5 h6 hw n1 (by rw [hn]; exact n2) st' (by rw [hn]; decide) (fun i hi => by rw [updL, if_neg (by omega), if_pos (by omega)]) (by rw [updL, hn, if_pos rfl])
/-- one turn of clear: the entry stays -/
theorem cl_skip {S : Nat} (hS : S = 4 ∨ S = 8) {hmm : Nat → Nat} {sl : Nat → Int32} {P : Nat → Prop} {hole K nx hk : Nat} (h : Part S hmm (hol sl hole) P hole K) (hK : 0 < K) (hKS : K < S) (enx : nx = (hole + K) % S) (h0 : gn sl nx ≠ 0) (hkk : hk = hmm (gn sl nx - 1)) (hkS : hk < S) (hlt : (nx + S - hk) % S < (nx + S - hole) % S) : Part S hmm (hol sl hole) P hole (K + 1) := by
  have hh := h.1
  have hne : nx ≠ hole := by rcases hS with rfl | rfl <;> omega
  have e1 : hol sl hole nx = gn sl nx := by rw [hol, if_neg hne]
  refine part_skip hS h hK hKS (by rw [← enx, e1]; exact h0) (d := (nx + S - hk) % S) (by rcases hS with rfl | rfl <;> omega) ?_ (by rcases hS with rfl | rfl <;> omega)
  rw [← enx, e1, ← hkk]
  rcases hS with rfl | rfl <;> omega
theorem cl_mv {S : Nat} (hS : S = 4 ∨ S = 8) {hmm : Nat → Nat} {sl : Nat → Int32} {P : Nat → Prop} {hole K nx hk : Nat} (h : Part S hmm (hol sl hole) P hole K) (hK : 0 < K) (hKS : K < S) (enx : nx = (hole + K) % S) (h0 : gn sl nx ≠ 0) (hkk : hk = hmm (gn sl nx - 1)) (hkS : hk < S) (hlt : ¬ (nx + S - hk) % S < (nx + S - hole) % S) : Part S hmm (hol (updI sl hole (sl nx)) nx) P nx 1 := by
  have hh := h.1
  refine cl_move hS h hK hKS enx h0 (d := (nx + S - hk) % S) (by rcases hS with rfl | rfl <;> omega) ?_ (by rcases hS with rfl | rfl <;> omega)
  rw [← hkk]
  rcases hS with rfl | rfl <;> omega
theorem nn_upd {S : Nat} {sl : Nat → Int32} {i : Nat} {v : Int32} (h : ∀ s, s < S → 0 ≤ (sl s).toInt) (hv : 0 ≤ v.toInt) : ∀ s, s < S → 0 ≤ (updI sl i v s).toInt := by
  intro s hs
  by_cases q : s = i
  · rw [updI, if_pos q]; exact hv
  · rw [updI, if_neg q]; exact h s hs
theorem gn_ne {sl : Nat → Int32} {i s : Nat} {v : Int32} (h : s ≠ i) : gn (updI sl i v) s = gn sl s := by rw [gn, gn, updI, if_neg h]
theorem bd_upd {S kn : Nat} {sl : Nat → Int32} {i x : Nat} (h : ∀ s, s < S → gn sl s ≠ 0 → gn sl s - 1 < kn) (hx : x < S) : ∀ s, s < S → gn (updI sl i (sl x)) s ≠ 0 → gn (updI sl i (sl x)) s - 1 < kn := by
  intro s hs hn
  by_cases q : s = i
  · have e : gn (updI sl i (sl x)) s = gn sl x := by rw [gn, gn, updI, if_pos q]
    rw [e] at hn ⊢; exact h x hx hn
  · rw [gn_ne q] at hn ⊢; exact h s hs hn
theorem lt_toI {a b : Int32} {x y : Nat} (h1 : a.toInt = (x : Int)) (h2 : b.toInt = (y : Int)) (h : a < b) : x < y := by
  rw [Int32.lt_iff_toInt_lt] at h; omega
theorem ge_toI {a b : Int32} {x y : Nat} (h1 : a.toInt = (x : Int)) (h2 : b.toInt = (y : Int)) (h : ¬ a < b) : ¬ x < y := by
  rw [Int32.lt_iff_toInt_lt] at h; omega
theorem cl_fo {S kn : Nat} {sf z : Int32} {sl sl' : Nat → Int32} {kf kf' : Nat → Int64} {ks : List Int64} {i : Nat} (h : LI S sf z sl kf kn ks) (hc : Cl S sf sl' kf (fun j => j < ks.length ∧ j ≠ i)) : Fo S sf sl' kn := by
  obtain ⟨h1, h2, h3, h4, h5, h6, h7, h8⟩ := h
  have hS := h1.or
  refine ⟨h1, by omega, hc.1, fun s hs hn => ?_, inv_zero hc.2 (fun i hi => hi.1) (by omega)⟩
  have := (hc.2.1 s hs hn).1
  omega
theorem no_shrink {z : Int32} {n S : Nat} (h : z.toInt = (n : Int)) (hn : 1 ≤ n) (hn4 : n ≤ 100) (hS : S = 8) : ¬ (z * (8 : Int32)) < (Int32.ofNat S) := by
  subst hS
  have h2 := c_imul z 8
  have h3 := rng32 (z * 8)
  have h4 : (8 : Int32).toInt = 8 := by decide
  have h5 : (Int32.ofNat 8).toInt = 8 := by decide
  rw [Int32.lt_iff_toInt_lt, h5]
  rw [h, h4] at h2
  omega
theorem is_8 {S : Nat} (hS : S = 4 ∨ S = 8) (h : (4 : Int32) < (Int32.ofNat S)) : S = 8 := by
  rcases hS with rfl | rfl
  · exact absurd h (by decide)
  · rfl
theorem d1_0 : decode prog_25_method_1_code 0 = .ok (.aload_n 0, 1) := by decide +kernel
theorem d1_1 : decode prog_25_method_1_code 1 = .ok (.invokespecial 1, 3) := by decide +kernel
theorem d1_4 : decode prog_25_method_1_code 4 = .ok (.aload_n 0, 1) := by decide +kernel
theorem d1_5 : decode prog_25_method_1_code 5 = .ok (.iconst 2, 1) := by decide +kernel
theorem d1_6 : decode prog_25_method_1_code 6 = .ok (.newarray .long, 2) := by decide +kernel
theorem d1_8 : decode prog_25_method_1_code 8 = .ok (.putfield 9, 3) := by decide +kernel
theorem d1_11 : decode prog_25_method_1_code 11 = .ok (.aload_n 0, 1) := by decide +kernel
theorem d1_12 : decode prog_25_method_1_code 12 = .ok (.iconst 4, 1) := by decide +kernel
theorem d1_13 : decode prog_25_method_1_code 13 = .ok (.newarray .int, 2) := by decide +kernel
theorem d1_15 : decode prog_25_method_1_code 15 = .ok (.putfield 13, 3) := by decide +kernel
theorem d1_18 : decode prog_25_method_1_code 18 = .ok (.aload_n 0, 1) := by decide +kernel
theorem d1_19 : decode prog_25_method_1_code 19 = .ok (.bipush 64, 2) := by decide +kernel
theorem d1_21 : decode prog_25_method_1_code 21 = .ok (.iconst 4, 1) := by decide +kernel
theorem d1_22 : decode prog_25_method_1_code 22 = .ok (.invokestatic 17, 3) := by decide +kernel
theorem d1_25 : decode prog_25_method_1_code 25 = .ok (.isub, 1) := by decide +kernel
theorem d1_26 : decode prog_25_method_1_code 26 = .ok (.putfield 23, 3) := by decide +kernel
theorem d1_29 : decode prog_25_method_1_code 29 = .ok (.return_, 1) := by decide +kernel
theorem pn_1 : plainName "com/example/tristream/tristream/LongIndex" = true := by first | (simp [plainName, overriddenIn]; done) | decide +kernel
theorem ef_1 (m : MethodId) (x0 : Addr) : entryFrame m #[(.ref x0)] 1 = mkF m 0 #[.val (.ref x0)] [] := by first | (simp [entryFrame, mkF, argsToLocals, Value.category]; done) | rfl
def Q_liinit (Z : State) (a : Addr) (h0 : Heap) (n0 : Nat) (r : Option Value) (h : Heap) (L : List Loc) : Prop := r = none ∧ Fr n0 L ∧ Keep h0 h [a] ∧ ∃ kb sb : Addr, (h0.size ≤ kb ∧ h0.size ≤ sb) ∧ (n0 ≤ kb ∧ n0 ≤ sb) ∧ kb ≠ sb ∧ Obj Z h a "com/example/tristream/tristream/LongIndex" sch_li [(.ref kb), (.ref sb), (.int (62 : Int32)), (.int (0 : Int32))] ∧ FA Z h kb .long 2 (fun i => .long ((fun _ => (0 : Int64)) i)) ∧ FA Z h sb .int 4 (fun i => .int ((fun _ => (0 : Int32)) i))
set_option maxRecDepth 65536 in
set_option maxHeartbeats 40000000 in
theorem rm_liinit (l : Launch) (Z : State) (a0 : Array Value) (hw : ∀ d ∈ tables_1, d.before a0 Z = true) (ws : List Jvm.Cond) (a : Addr) (h0 : Heap) (n0 : Nat) (Z0 : n0 ≤ h0.size) (O0 : Obj Z h0 a "com/example/tristream/tristream/LongIndex" sch_li [.null, .null, (.int (0 : Int32)), (.int (0 : Int32))]) (ga : n0 ≤ a) :
    MetFree l (⟨"com/example/tristream/tristream/LongIndex", "<init>", "()V"⟩ : MethodName) (head1 (Jvm.Cond.code (⟨"com/example/tristream/tristream/LongIndex", "<init>", "()V"⟩ : MethodName) prog_25_method_1_code 1 none :: ws) ({ frames := 1, cells := 2, slots := 6, locals := 15 } : Room)) (fun a_ U => a_ = #[(.ref a)] ∧ Z.Warmed39 U.vm ∧ U.heap = h0) (fun _ _ _ _ _ => True) (fun _ U o U' => ∃ v_ L_, o = .returned v_ ∧ Q_liinit Z a h0 n0 v_ U'.heap L_ ∧ FrameEnd U o U' L_ ({ frames := 1, cells := 2, slots := 6, locals := 15 } : Room).cells ({ frames := 1, cells := 2, slots := 6, locals := 15 } : Room).slots) := by
  refine MetFree.of_bodySF (plainFor_of_name pn_1) hisR ?_
  intro p e s m args below meth c s₁ Bd hml0 hP hK
  obtain ⟨rfl, hZ, hh⟩ := hP
  have hx := Bd.exec
  have hby := Bd.bytes
  have hlk : meth.locks = false := Bd.notSynchronized
  have hml : c.maxLocals = 1 := hml0
  have hown : s.vm.findClass "com/example/tristream/tristream/LongIndex" = some m.cls := findClass_of_methodNamed Bd.named
  have hnm := (name_of_methodNamed Bd.named Bd.method).1
  have X0 : Stand p l e ({ frames := 1, cells := 2, slots := 6, locals := 15 } : Room) s m #[(.ref a)] below meth c s₁ [] 0 0 := Stand.of_body Bd
  have e0 : s₁.heap = h0 := by rw [← hh, Bd.state]; rfl
  have N0 := Fr.nil n0
  have K0 : Keep h0 h0 [a] := Keep.refl _ _
  show OEnds p e below s (Q_liinit Z a h0 n0) _ _ _
  refine own_by (fun t k => castTop (ef_1 m a) k) ?_
  show OEnds p e below s _ _ _ (s₁.setTop (mkF m 0 #[.val (.ref a)] []))
  refine own_by (fun _ k => XS.aloadN X0.here hx rfl (hb hby d1_0) rfl rfl k) ?_
  show OEnds p e below s _ _ _ (s₁.setTop (mkF m 1 #[.val (.ref a)] [(.ref a)]))
  obtain ⟨T1, X1, e1, st1⟩ := initO X0 hx hZ hown (hw _ (List.mem_of_getElem? (i := 6) rfl)) (hw _ (List.mem_of_getElem? (i := 7) rfl)) (hw _ (List.mem_of_getElem? (i := 8) rfl)) e0 (g := (mkF m 1 #[.val (.ref a)] [(.ref a)])) rfl (by rw [hml]; rfl) rfl (hb hby d1_1) (by decide) (W := 0) (by show 2 * 0 + _ ≤ _; exact Nat.le_of_eq rfl) (by decide)
  refine own_by (st1) ?_
  show OEnds p e below s _ _ _ (T1.setTop (mkF m 4 #[.val (.ref a)] []))
  refine own_by (fun _ k => XS.aloadN X1.here hx rfl (hb hby d1_4) rfl rfl k) ?_
  show OEnds p e below s _ _ _ (T1.setTop (mkF m 5 #[.val (.ref a)] [(.ref a)]))
  refine own_by (fun _ k => XS.iconst X1.here hx rfl (hb hby d1_5) k) ?_
  show OEnds p e below s _ _ _ (T1.setTop (mkF m 6 #[.val (.ref a)] [(.int (2 : Int32)), (.ref a)]))
  obtain ⟨T2, h2, k2, X2, e2, E2, A2, st2⟩ := newP X1 hx hZ (hw _ (List.mem_of_getElem? (i := 9) rfl)) e1 (g := (mkF m 6 #[.val (.ref a)] [(.int (2 : Int32)), (.ref a)])) rfl (hb hby d1_6) rfl (by decide) (cap := 2) (by decide) (by decide) (by decide) (by decide)
  obtain ⟨nb2, g2⟩ : ∃ z, z = h0.size := ⟨_, rfl⟩
  rw [← g2] at A2 st2
  refine own_by (st2) ?_
  have g_nb2 : n0 ≤ nb2 := Nat.le_trans Z0 (Nat.le_of_eq g2.symm)
  have sz_nb2 : h0.size ≤ nb2 := Nat.le_trans K0.1 (Nat.le_of_eq g2.symm)
  have K2 : Keep h0 h2 [a] := K0.ext E2
  have Z2 : n0 ≤ h2.size := Nat.le_trans Z0 E2.1
  have F2 : FA Z h2 nb2 .long 2 (fun i => .long ((fun _ => (0 : Int64)) i)) := FA.new A2 (by decide) (by decide) rfl
  show OEnds p e below s _ _ _ (T2.setTop (mkF m 8 #[.val (.ref a)] [(.ref nb2), (.ref a)]))
  have O4 : Obj Z h2 a "com/example/tristream/tristream/LongIndex" sch_li [.null, .null, (.int (0 : Int32)), (.int (0 : Int32))] := (O0.ext E2)
  obtain ⟨T3, h3, X3, e3, W3, st3⟩ := putF X2 hx hZ hown (host := "") (Or.inl (hw _ (List.mem_of_getElem? (i := 10) rfl))) Via.refl e2 (O4.fld 0 rfl rfl) O4.exa (Or.inl (hw _ (List.mem_of_getElem? (i := 11) rfl))) (hw _ (List.mem_of_getElem? (i := 1) rfl)) (ty := (.array .long)) (by decide) rfl rfl (g := (mkF m 8 #[.val (.ref a)] [(.ref nb2), (.ref a)])) rfl rfl (hb hby d1_8)
  refine own_by (st3) ?_
  have O3 : Obj Z h3 a "com/example/tristream/tristream/LongIndex" sch_li [(.ref nb2), .null, (.int (0 : Int32)), (.int (0 : Int32))] := O4.set (so_sch_li hw) W3 0 rfl (Nat.le_of_ble_eq_true rfl)
  have N3 := Fr.snoc X3 N0 ga
  have Z3 : n0 ≤ h3.size := Nat.le_trans Z2 (Keep.of_wr W3).1
  have K3 : Keep h0 h3 [a] := K2.wr W3 (Or.inl (List.mem_of_getElem? (i := 0) rfl))
  show OEnds p e below s _ _ _ (T3.setTop (mkF m 11 #[.val (.ref a)] []))
  refine own_by (fun _ k => XS.aloadN X3.here hx rfl (hb hby d1_11) rfl rfl k) ?_
  show OEnds p e below s _ _ _ (T3.setTop (mkF m 12 #[.val (.ref a)] [(.ref a)]))
  refine own_by (fun _ k => XS.iconst X3.here hx rfl (hb hby d1_12) k) ?_
  show OEnds p e below s _ _ _ (T3.setTop (mkF m 13 #[.val (.ref a)] [(.int (4 : Int32)), (.ref a)]))
  obtain ⟨T5, h5, k5, X5, e5, E5, A5, st5⟩ := newP X3 hx hZ (hw _ (List.mem_of_getElem? (i := 12) rfl)) e3 (g := (mkF m 13 #[.val (.ref a)] [(.int (4 : Int32)), (.ref a)])) rfl (hb hby d1_13) rfl (by decide) (cap := 4) (by decide) (by decide) (by decide) (by decide)
  obtain ⟨nb5, g5⟩ : ∃ z, z = h3.size := ⟨_, rfl⟩
  rw [← g5] at A5 st5
  refine own_by (st5) ?_
  have F6 : FA Z h3 nb2 .long 2 (fun i => .long ((fun _ => (0 : Int64)) i)) := (F2.other W3 (Ne.symm (Nat.ne_of_lt (Nat.lt_of_lt_of_le O0.lt (Nat.le_of_eq g2.symm)))))
  have ne_nb5 : nb2 ≠ nb5 := (Nat.ne_of_lt (Nat.lt_of_lt_of_le F6.lt (Nat.le_of_eq g5.symm)))
  have g_nb5 : n0 ≤ nb5 := Nat.le_trans Z3 (Nat.le_of_eq g5.symm)
  have sz_nb5 : h0.size ≤ nb5 := Nat.le_trans K3.1 (Nat.le_of_eq g5.symm)
  have K5 : Keep h0 h5 [a] := K3.ext E5
  have Z5 : n0 ≤ h5.size := Nat.le_trans Z3 E5.1
  have F5 : FA Z h5 nb5 .int 4 (fun i => .int ((fun _ => (0 : Int32)) i)) := FA.new A5 (by decide) (by decide) rfl
  show OEnds p e below s _ _ _ (T5.setTop (mkF m 15 #[.val (.ref a)] [(.ref nb5), (.ref a)]))
  have O8 : Obj Z h5 a "com/example/tristream/tristream/LongIndex" sch_li [(.ref nb2), .null, (.int (0 : Int32)), (.int (0 : Int32))] := (O3.ext E5)
  have F9 : FA Z h5 nb2 .long 2 (fun i => .long ((fun _ => (0 : Int64)) i)) := (F6.ext E5)
  obtain ⟨T7, h7, X7, e7, W7, st7⟩ := putF X5 hx hZ hown (host := "") (Or.inl (hw _ (List.mem_of_getElem? (i := 13) rfl))) Via.refl e5 (O8.fld 1 rfl rfl) O8.exa (Or.inl (hw _ (List.mem_of_getElem? (i := 14) rfl))) (hw _ (List.mem_of_getElem? (i := 1) rfl)) (ty := (.array .int)) (by decide) rfl rfl (g := (mkF m 15 #[.val (.ref a)] [(.ref nb5), (.ref a)])) rfl rfl (hb hby d1_15)
  refine own_by (st7) ?_
  have O7 : Obj Z h7 a "com/example/tristream/tristream/LongIndex" sch_li [(.ref nb2), (.ref nb5), (.int (0 : Int32)), (.int (0 : Int32))] := O8.set (so_sch_li hw) W7 1 rfl (Nat.le_of_ble_eq_true rfl)
  have N7 := Fr.snoc X7 N3 ga
  have Z7 : n0 ≤ h7.size := Nat.le_trans Z5 (Keep.of_wr W7).1
  have K7 : Keep h0 h7 [a] := K5.wr W7 (Or.inl (List.mem_of_getElem? (i := 0) rfl))
  show OEnds p e below s _ _ _ (T7.setTop (mkF m 18 #[.val (.ref a)] []))
  refine own_by (fun _ k => XS.aloadN X7.here hx rfl (hb hby d1_18) rfl rfl k) ?_
  show OEnds p e below s _ _ _ (T7.setTop (mkF m 19 #[.val (.ref a)] [(.ref a)]))
  refine own_by (fun _ k => XS.bipush X7.here hx rfl (hb hby d1_19) k) ?_
  show OEnds p e below s _ _ _ (T7.setTop (mkF m 21 #[.val (.ref a)] [(.int (64 : Int32)), (.ref a)]))
  refine own_by (fun _ k => XS.iconst X7.here hx rfl (hb hby d1_21) k) ?_
  show OEnds p e below s _ _ _ (T7.setTop (mkF m 22 #[.val (.ref a)] [(.int (4 : Int32)), (.int (64 : Int32)), (.ref a)]))
  obtain ⟨T10, X10, e10, st10⟩ := own_callP X7 hx hZ (y := (⟨"java/lang/Integer", "numberOfTrailingZeros", "(I)I"⟩ : MethodName)) hown (hw _ (List.mem_of_getElem? (i := 15) rfl)) (hw _ (List.mem_of_getElem? (i := 16) rfl)) (hw _ (List.mem_of_getElem? (i := 17) rfl)) (hw _ (List.mem_of_getElem? (i := 18) rfl)) (by decide) (rm_ntz l Z a0 hw [] (4 : Int32) h7) e7 (g := (mkF m 22 #[.val (.ref a)] [(.int (4 : Int32)), (.int (64 : Int32)), (.ref a)])) rfl (by rw [hml]; rfl) (argsL := [(.int (4 : Int32))]) (rest := [(.int (64 : Int32)), (.ref a)]) (lenOf pd_pIrI rfl) rfl (W := 2) (by show 2 * 0 + _ ≤ _; exact Nat.le_of_eq rfl) (hb hby d1_22) (by decide) (by decide) (by decide) (by decide)
  refine own_by (st10) ?_
  show OEnds p e below s _ _ _ (T10.setTop (mkF m 25 #[.val (.ref a)] [(.int (ntz (4 : Int32))), (.int (64 : Int32)), (.ref a)]))
  refine own_by (fun _ k => XS.isub X10.here hx rfl (hb hby d1_25) rfl k) ?_
  show OEnds p e below s _ _ _ (T10.setTop (mkF m 26 #[.val (.ref a)] [(.int ((64 : Int32) - (ntz (4 : Int32)))), (.ref a)]))
  rw [show ((64 : Int32) - (ntz (4 : Int32))) = (62 : Int32) by decide]
  show OEnds p e below s _ _ _ (T10.setTop (mkF m 26 #[.val (.ref a)] [(.int (62 : Int32)), (.ref a)]))
  have F12 : FA Z h7 nb2 .long 2 (fun i => .long ((fun _ => (0 : Int64)) i)) := (F9.other W7 (Ne.symm (Nat.ne_of_lt (Nat.lt_of_lt_of_le O0.lt (Nat.le_of_eq g2.symm)))))
  have F13 : FA Z h7 nb5 .int 4 (fun i => .int ((fun _ => (0 : Int32)) i)) := (F5.other W7 (Ne.symm (Nat.ne_of_lt (Nat.lt_of_lt_of_le O3.lt (Nat.le_of_eq g5.symm)))))
  obtain ⟨T11, h11, X11, e11, W11, st11⟩ := putF X10 hx hZ hown (host := "") (Or.inl (hw _ (List.mem_of_getElem? (i := 20) rfl))) Via.refl e10 (O7.fld 2 rfl rfl) O7.exa (Or.inl (hw _ (List.mem_of_getElem? (i := 21) rfl))) (hw _ (List.mem_of_getElem? (i := 1) rfl)) (ty := .int) (by decide) rfl rfl (g := (mkF m 26 #[.val (.ref a)] [(.int (62 : Int32)), (.ref a)])) rfl rfl (hb hby d1_26)
  refine own_by (st11) ?_
  have O11 : Obj Z h11 a "com/example/tristream/tristream/LongIndex" sch_li [(.ref nb2), (.ref nb5), (.int (62 : Int32)), (.int (0 : Int32))] := O7.set (so_sch_li hw) W11 2 rfl (Nat.le_of_ble_eq_true rfl)
  have N11 := Fr.snoc X11 N7 ga
  have Z11 : n0 ≤ h11.size := Nat.le_trans Z7 (Keep.of_wr W11).1
  have K11 : Keep h0 h11 [a] := K7.wr W11 (Or.inl (List.mem_of_getElem? (i := 0) rfl))
  show OEnds p e below s _ _ _ (T11.setTop (mkF m 29 #[.val (.ref a)] []))
  have F14 : FA Z h11 nb2 .long 2 (fun i => .long ((fun _ => (0 : Int64)) i)) := (F12.other W11 (Ne.symm (Nat.ne_of_lt (Nat.lt_of_lt_of_le O0.lt (Nat.le_of_eq g2.symm)))))
  have F15 : FA Z h11 nb5 .int 4 (fun i => .int ((fun _ => (0 : Int32)) i)) := (F13.other W11 (Ne.symm (Nat.ne_of_lt (Nat.lt_of_lt_of_le O3.lt (Nat.le_of_eq g5.symm)))))
  exact own_retV X11 hx hlk Bd.returns (hb hby d1_29) (by rw [e11]; exact ⟨rfl, N11, K11, nb2, nb5, ⟨sz_nb2, sz_nb5⟩, ⟨g_nb2, g_nb5⟩, ne_nb5, O11, F14, F15⟩) (by decide) (by decide)
theorem li_new : LI 4 62 0 (fun _ => (0 : Int32)) (fun _ => (0 : Int64)) 2 [] := ⟨Or.inl ⟨rfl, rfl⟩, rfl, by decide, by decide, fun i hi => absurd hi (Nat.not_lt_zero i), fun i j hi => absurd hi (Nat.not_lt_zero i), fun _ _ => (by decide : 0 ≤ (0 : Int32).toInt), inv0 4 _⟩
theorem nx_mod {S : Nat} (hS : S = 4 ∨ S = 8) {pp : Int32} {hk d : Nat} (h : pp.toInt = (((hk + d) % S : Nat) : Int)) (hn : (hk + d) % S < S) : ((pp + (1 : Int32)) &&& ((Int32.ofNat S) - (1 : Int32))).toInt = (((hk + (d + 1)) % S : Nat) : Int) := by
  rw [nxt hS h hn]
  congr 1
  rcases hS with rfl | rfl <;> omega
theorem pre_snoc {S hk d : Nat} {sl : Nat → Int32} {kf : Nat → Int64} {kk : Int64} (h : ∀ e, e < d → gn sl ((hk + e) % S) ≠ 0 ∧ ¬ kf (gn sl ((hk + e) % S) - 1) = kk) (h1 : gn sl ((hk + d) % S) ≠ 0) (h2 : ¬ kf (gn sl ((hk + d) % S) - 1) = kk) : ∀ e, e < d + 1 → gn sl ((hk + e) % S) ≠ 0 ∧ ¬ kf (gn sl ((hk + e) % S) - 1) = kk := by
  intro e he
  by_cases q : e = d
  · rw [q]; exact ⟨h1, h2⟩
  · exact h e (by omega)
theorem d5_0 : decode prog_25_method_7_code 0 = .ok (.aload_n 0, 1) := by decide +kernel
theorem d5_1 : decode prog_25_method_7_code 1 = .ok (.getfield 13, 3) := by decide +kernel
theorem d5_4 : decode prog_25_method_7_code 4 = .ok (.arraylength, 1) := by decide +kernel
theorem d5_5 : decode prog_25_method_7_code 5 = .ok (.iconst 1, 1) := by decide +kernel
theorem d5_6 : decode prog_25_method_7_code 6 = .ok (.isub, 1) := by decide +kernel
theorem d5_7 : decode prog_25_method_7_code 7 = .ok (.istore_n 3, 1) := by decide +kernel
theorem d5_8 : decode prog_25_method_7_code 8 = .ok (.aload_n 0, 1) := by decide +kernel
theorem d5_9 : decode prog_25_method_7_code 9 = .ok (.lload_n 1, 1) := by decide +kernel
theorem d5_10 : decode prog_25_method_7_code 10 = .ok (.invokevirtual 55, 3) := by decide +kernel
theorem d5_13 : decode prog_25_method_7_code 13 = .ok (.istore 4, 2) := by decide +kernel
theorem d5_15 : decode prog_25_method_7_code 15 = .ok (.aload_n 0, 1) := by decide +kernel
theorem d5_16 : decode prog_25_method_7_code 16 = .ok (.getfield 13, 3) := by decide +kernel
theorem d5_19 : decode prog_25_method_7_code 19 = .ok (.iload 4, 2) := by decide +kernel
theorem d5_21 : decode prog_25_method_7_code 21 = .ok (.iaload, 1) := by decide +kernel
theorem d5_22 : decode prog_25_method_7_code 22 = .ok (.ifCond .eq 33, 3) := by decide +kernel
theorem d5_25 : decode prog_25_method_7_code 25 = .ok (.aload_n 0, 1) := by decide +kernel
theorem d5_26 : decode prog_25_method_7_code 26 = .ok (.getfield 9, 3) := by decide +kernel
theorem d5_29 : decode prog_25_method_7_code 29 = .ok (.aload_n 0, 1) := by decide +kernel
theorem d5_30 : decode prog_25_method_7_code 30 = .ok (.getfield 13, 3) := by decide +kernel
theorem d5_33 : decode prog_25_method_7_code 33 = .ok (.iload 4, 2) := by decide +kernel
theorem d5_35 : decode prog_25_method_7_code 35 = .ok (.iaload, 1) := by decide +kernel
theorem d5_36 : decode prog_25_method_7_code 36 = .ok (.iconst 1, 1) := by decide +kernel
theorem d5_37 : decode prog_25_method_7_code 37 = .ok (.isub, 1) := by decide +kernel
theorem d5_38 : decode prog_25_method_7_code 38 = .ok (.laload, 1) := by decide +kernel
theorem d5_39 : decode prog_25_method_7_code 39 = .ok (.lload_n 1, 1) := by decide +kernel
theorem d5_40 : decode prog_25_method_7_code 40 = .ok (.lcmp, 1) := by decide +kernel
theorem d5_41 : decode prog_25_method_7_code 41 = .ok (.ifCond .eq 14, 3) := by decide +kernel
theorem d5_44 : decode prog_25_method_7_code 44 = .ok (.iload 4, 2) := by decide +kernel
theorem d5_46 : decode prog_25_method_7_code 46 = .ok (.iconst 1, 1) := by decide +kernel
theorem d5_47 : decode prog_25_method_7_code 47 = .ok (.iadd, 1) := by decide +kernel
theorem d5_48 : decode prog_25_method_7_code 48 = .ok (.iload_n 3, 1) := by decide +kernel
theorem d5_49 : decode prog_25_method_7_code 49 = .ok (.iand, 1) := by decide +kernel
theorem d5_50 : decode prog_25_method_7_code 50 = .ok (.istore 4, 2) := by decide +kernel
theorem d5_52 : decode prog_25_method_7_code 52 = .ok (.goto (-37), 3) := by decide +kernel
theorem d5_55 : decode prog_25_method_7_code 55 = .ok (.iload 4, 2) := by decide +kernel
theorem d5_57 : decode prog_25_method_7_code 57 = .ok (.ireturn, 1) := by decide +kernel
theorem pn_5 : plainName "com/example/tristream/tristream/LongIndex" = true := by first | (simp [plainName, overriddenIn]; done) | decide +kernel
theorem ef_5 (m : MethodId) (x0 : Addr) (x1 : Int64) : entryFrame m #[(.ref x0), (.long x1)] 5 = mkF m 0 #[.val (.ref x0), .val (.long x1), .second, .unset, .unset] [] := by first | (simp [entryFrame, mkF, argsToLocals, Value.category]; done) | rfl
def Q_lifind (S : Nat) (sf : Int32) (sl : Nat → Int32) (kf : Nat → Int64) (kk : Int64) (h0 : Heap) (v : Option Value) (h : Heap) (L : List Loc) : Prop := ∃ (r : Int32) (rn : Nat), v = some (.int r) ∧ L = [] ∧ h = h0 ∧ r.toInt = (rn : Int) ∧ Stop S (gn sl) (fun i => kf i = kk) (hm sf kk) rn
set_option maxRecDepth 65536 in
set_option maxHeartbeats 40000000 in
theorem rm_lifind (l : Launch) (Z : State) (a0 : Array Value) (hw : ∀ d ∈ tables_1, d.before a0 Z = true) (ws : List Jvm.Cond) (a : Addr) (kk : Int64) (kb : Addr) (sb : Addr) (z : Int32) (sf : Int32) (kn : Nat) (kf : Nat → Int64) (S : Nat) (sl : Nat → Int32) (h0 : Heap) (n0 : Nat) (Z0 : n0 ≤ h0.size) (O0 : Obj Z h0 a "com/example/tristream/tristream/LongIndex" sch_li [(.ref kb), (.ref sb), (.int sf), (.int z)]) (F_kb : FA Z h0 kb .long kn (fun i => .long (kf i))) (F_sb : FA Z h0 sb .int S (fun i => .int (sl i))) (hFo : Fo S sf sl kn) :
    MetFree l (⟨"com/example/tristream/tristream/LongIndex", "find", "(J)I"⟩ : MethodName) (head1 (Jvm.Cond.code (⟨"com/example/tristream/tristream/LongIndex", "find", "(J)I"⟩ : MethodName) prog_25_method_7_code 5 (some .int) :: ws) ({ frames := 1, cells := 0, slots := 0, locals := 14 } : Room)) (fun a_ U => a_ = #[(.ref a), (.long kk)] ∧ Z.Warmed39 U.vm ∧ U.heap = h0) (fun _ _ _ _ _ => True) (fun _ U o U' => ∃ v_ L_, o = .returned v_ ∧ Q_lifind S sf sl kf kk h0 v_ U'.heap L_ ∧ FrameEnd U o U' L_ ({ frames := 1, cells := 0, slots := 0, locals := 14 } : Room).cells ({ frames := 1, cells := 0, slots := 0, locals := 14 } : Room).slots) := by
  refine MetFree.of_bodySF (plainFor_of_name pn_5) hisR ?_
  intro p e s m args below meth c s₁ Bd hml0 hP hK
  obtain ⟨rfl, hZ, hh⟩ := hP
  have hx := Bd.exec
  have hby := Bd.bytes
  have hlk : meth.locks = false := Bd.notSynchronized
  have hml : c.maxLocals = 5 := hml0
  have hown : s.vm.findClass "com/example/tristream/tristream/LongIndex" = some m.cls := findClass_of_methodNamed Bd.named
  have hnm := (name_of_methodNamed Bd.named Bd.method).1
  have X0 : Stand p l e ({ frames := 1, cells := 0, slots := 0, locals := 14 } : Room) s m #[(.ref a), (.long kk)] below meth c s₁ [] 0 0 := Stand.of_body Bd
  have e0 : s₁.heap = h0 := by rw [← hh, Bd.state]; rfl
  have N0 := Fr.nil n0
  have K0 : Keep h0 h0 [] := Keep.refl _ _
  show OEnds p e below s (Q_lifind S sf sl kf kk h0) _ _ _
  refine own_by (fun t k => castTop (ef_5 m a kk) k) ?_
  show OEnds p e below s _ _ _ (s₁.setTop (mkF m 0 #[.val (.ref a), .val (.long kk), .second, .unset, .unset] []))
  refine own_by (fun _ k => XS.aloadN X0.here hx rfl (hb hby d5_0) rfl rfl k) ?_
  show OEnds p e below s _ _ _ (s₁.setTop (mkF m 1 #[.val (.ref a), .val (.long kk), .second, .unset, .unset] [(.ref a)]))
  obtain ⟨T1, X1, e1, st1⟩ := getF X0 hx hZ hown (host := "") (Or.inl (hw _ (List.mem_of_getElem? (i := 13) rfl))) Via.refl e0 (O0.fld 1 rfl rfl) (g := (mkF m 1 #[.val (.ref a), .val (.long kk), .second, .unset, .unset] [(.ref a)])) rfl rfl (hb hby d5_1)
  refine own_by (st1) ?_
  show OEnds p e below s _ _ _ (T1.setTop (mkF m 4 #[.val (.ref a), .val (.long kk), .second, .unset, .unset] [(.ref sb)]))
  refine own_by (own_len X1 hx hZ e1 F_sb (z := (Int32.ofNat S)) rfl (g := (mkF m 4 #[.val (.ref a), .val (.long kk), .second, .unset, .unset] [(.ref sb)])) rfl rfl (hb hby d5_4)) ?_
  show OEnds p e below s _ _ _ (T1.setTop (mkF m 5 #[.val (.ref a), .val (.long kk), .second, .unset, .unset] [(.int (Int32.ofNat S))]))
  refine own_by (fun _ k => XS.iconst X1.here hx rfl (hb hby d5_5) k) ?_
  show OEnds p e below s _ _ _ (T1.setTop (mkF m 6 #[.val (.ref a), .val (.long kk), .second, .unset, .unset] [(.int (1 : Int32)), (.int (Int32.ofNat S))]))
  refine own_by (fun _ k => XS.isub X1.here hx rfl (hb hby d5_6) rfl k) ?_
  show OEnds p e below s _ _ _ (T1.setTop (mkF m 7 #[.val (.ref a), .val (.long kk), .second, .unset, .unset] [(.int ((Int32.ofNat S) - (1 : Int32)))]))
  refine own_by (fun _ k => XS.istoreN X1.here hx rfl (hb hby d5_7) rfl (l' := #[.val (.ref a), .val (.long kk), .second, .val (.int ((Int32.ofNat S) - (1 : Int32))), .unset]) rfl k) ?_
  show OEnds p e below s _ _ _ (T1.setTop (mkF m 8 #[.val (.ref a), .val (.long kk), .second, .val (.int ((Int32.ofNat S) - (1 : Int32))), .unset] []))
  refine own_by (fun _ k => XS.aloadN X1.here hx rfl (hb hby d5_8) rfl rfl k) ?_
  show OEnds p e below s _ _ _ (T1.setTop (mkF m 9 #[.val (.ref a), .val (.long kk), .second, .val (.int ((Int32.ofNat S) - (1 : Int32))), .unset] [(.ref a)]))
  refine own_by (fun _ k => XS.lloadN X1.here hx rfl (hb hby d5_9) rfl k) ?_
  show OEnds p e below s _ _ _ (T1.setTop (mkF m 10 #[.val (.ref a), .val (.long kk), .second, .val (.int ((Int32.ofNat S) - (1 : Int32))), .unset] [(.long kk), (.ref a)]))
  obtain ⟨T2, X2, e2, st2⟩ := own_callXR X1 hx hZ (y := (⟨"com/example/tristream/tristream/LongIndex", "home", "(J)I"⟩ : MethodName)) hown (hw _ (List.mem_of_getElem? (i := 31) rfl)) (hw _ (List.mem_of_getElem? (i := 32) rfl)) (hw _ (List.mem_of_getElem? (i := 33) rfl)) (hw _ (List.mem_of_getElem? (i := 34) rfl)) (hw _ (List.mem_of_getElem? (i := 2) rfl)) (hw _ (List.mem_of_getElem? (i := 1) rfl)) (by decide) O0.exa (rm_home l Z a0 hw [] a kk kb sb sf z h0 n0 Z0 O0) e1 (g := (mkF m 10 #[.val (.ref a), .val (.long kk), .second, .val (.int ((Int32.ofNat S) - (1 : Int32))), .unset] [(.long kk), (.ref a)])) rfl (by rw [hml]; rfl) (argsL := [(.long kk)]) (rest := []) (lenOf pd_pJrI rfl) rfl (W := 0) (by show 2 * 0 + _ ≤ _; exact Nat.le_of_eq rfl) (hb hby d5_10) (by decide) (by decide) (by decide) (by decide)
  refine own_by (st2) ?_
  show OEnds p e below s _ _ _ (T2.setTop (mkF m 13 #[.val (.ref a), .val (.long kk), .second, .val (.int ((Int32.ofNat S) - (1 : Int32))), .unset] [(.int (home_r kk sf))]))
  refine own_by (fun _ k => XS.istore X2.here hx rfl (hb hby d5_13) rfl (l' := #[.val (.ref a), .val (.long kk), .second, .val (.int ((Int32.ofNat S) - (1 : Int32))), .val (.int (home_r kk sf))]) rfl k) ?_
  show OEnds p e below s _ _ _ (T2.setTop (mkF m 15 #[.val (.ref a), .val (.long kk), .second, .val (.int ((Int32.ofNat S) - (1 : Int32))), .val (.int (home_r kk sf))] []))
  obtain ⟨hSz, hk4, hnn, hbd, s0, hs1, hs0⟩ := hFo
  have hS0 : 0 < S := by omega
  obtain ⟨hh1, hh2⟩ := hm_spec hSz kk
  obtain ⟨d0, hd1, hd0⟩ := far hSz.or hh2 hs1
  have lp : ∀ (j : Nat) (T : State) (lo : List Loc) (pp : Int32) (d : Nat) (X_lp : Stand p l e ({ frames := 1, cells := 0, slots := 0, locals := 14 } : Room) s m #[(.ref a), (.long kk)] below meth c T lo 0 0) (e_lp : T.heap = h0) (N_lp : Fr n0 lo) (hlo : lo = []) (hpp : pp.toInt = ((((hm sf kk + d) % S) : Nat) : Int)) (hpre : ∀ e, e < d → gn sl ((hm sf kk + e) % S) ≠ 0 ∧ ¬ kf (gn sl ((hm sf kk + e) % S) - 1) = kk) (hj : d + j = d0), OEnds p e below s (Q_lifind S sf sl kf kk h0) 0 0 (T.setTop (mkF m 15 #[.val (.ref a), .val (.long kk), .second, .val (.int ((Int32.ofNat S) - (1 : Int32))), .val (.int pp)] [])) := by
    intro j
    induction j with
    | zero =>
      intro T lo pp d X_lp e_lp N_lp hlo hpp hpre hj
      show OEnds p e below s _ _ _ (T.setTop (mkF m 15 #[.val (.ref a), .val (.long kk), .second, .val (.int ((Int32.ofNat S) - (1 : Int32))), .val (.int pp)] []))
      have hlt : ((hm sf kk + d) % S) < S := Nat.mod_lt _ hS0
      have hnn0 := hnn _ hlt
      have hdd : d = d0 := by omega
      have hz0 : sl ((hm sf kk + d) % S) = (0 : Int32) := gn_zero hnn0 (by rw [hdd, hd0]; exact hs0)
      show OEnds p e below s _ _ _ (T.setTop (mkF m 15 #[.val (.ref a), .val (.long kk), .second, .val (.int ((Int32.ofNat S) - (1 : Int32))), .val (.int pp)] []))
      refine own_by (fun _ k => XS.aloadN X_lp.here hx rfl (hb hby d5_15) rfl rfl k) ?_
      show OEnds p e below s _ _ _ (T.setTop (mkF m 16 #[.val (.ref a), .val (.long kk), .second, .val (.int ((Int32.ofNat S) - (1 : Int32))), .val (.int pp)] [(.ref a)]))
      obtain ⟨T3, X3, e3, st3⟩ := getF X_lp hx hZ hown (host := "") (Or.inl (hw _ (List.mem_of_getElem? (i := 13) rfl))) Via.refl e_lp (O0.fld 1 rfl rfl) (g := (mkF m 16 #[.val (.ref a), .val (.long kk), .second, .val (.int ((Int32.ofNat S) - (1 : Int32))), .val (.int pp)] [(.ref a)])) rfl rfl (hb hby d5_16)
      refine own_by (st3) ?_
      show OEnds p e below s _ _ _ (T3.setTop (mkF m 19 #[.val (.ref a), .val (.long kk), .second, .val (.int ((Int32.ofNat S) - (1 : Int32))), .val (.int pp)] [(.ref sb)]))
      refine own_by (fun _ k => XS.iload X3.here hx rfl (hb hby d5_19) rfl k) ?_
      show OEnds p e below s _ _ _ (T3.setTop (mkF m 21 #[.val (.ref a), .val (.long kk), .second, .val (.int ((Int32.ofNat S) - (1 : Int32))), .val (.int pp)] [(.int pp), (.ref sb)]))
      refine own_by (own_iaload X3 hx hZ e3 F_sb ((hm sf kk + d) % S) hpp hlt (v := (.int (sl ((hm sf kk + d) % S)))) rfl (g := (mkF m 21 #[.val (.ref a), .val (.long kk), .second, .val (.int ((Int32.ofNat S) - (1 : Int32))), .val (.int pp)] [(.int pp), (.ref sb)])) rfl rfl (hb hby d5_21)) ?_
      show OEnds p e below s _ _ _ (T3.setTop (mkF m 22 #[.val (.ref a), .val (.long kk), .second, .val (.int ((Int32.ofNat S) - (1 : Int32))), .val (.int pp)] [(.int (sl ((hm sf kk + d) % S)))]))
      refine own_by (fun _ k => XS.ifYes X3.here hx rfl (pc0 := 22) (pc' := 55) rfl (hb hby d5_22) rfl ((if0 _ _).trans (teq hz0).1) (by decide) (by decide) k) ?_
      show OEnds p e below s _ _ _ (T3.setTop (mkF m 55 #[.val (.ref a), .val (.long kk), .second, .val (.int ((Int32.ofNat S) - (1 : Int32))), .val (.int pp)] []))
      refine own_by (fun _ k => XS.iload X3.here hx rfl (hb hby d5_55) rfl k) ?_
      show OEnds p e below s _ _ _ (T3.setTop (mkF m 57 #[.val (.ref a), .val (.long kk), .second, .val (.int ((Int32.ofNat S) - (1 : Int32))), .val (.int pp)] [(.int pp)]))
      exact own_retI X3 hx hlk Bd.returns (hb hby d5_57) ⟨_, _, rfl, hlo, e3, hpp, d, by omega, rfl, Or.inl (gn_of hz0), hpre⟩ (by decide) (by decide)
    | succ j ih_lp =>
      intro T lo pp d X_lp e_lp N_lp hlo hpp hpre hj
      show OEnds p e below s _ _ _ (T.setTop (mkF m 15 #[.val (.ref a), .val (.long kk), .second, .val (.int ((Int32.ofNat S) - (1 : Int32))), .val (.int pp)] []))
      have hlt : ((hm sf kk + d) % S) < S := Nat.mod_lt _ hS0
      have hnn0 := hnn _ hlt
      show OEnds p e below s _ _ _ (T.setTop (mkF m 15 #[.val (.ref a), .val (.long kk), .second, .val (.int ((Int32.ofNat S) - (1 : Int32))), .val (.int pp)] []))
      refine own_by (fun _ k => XS.aloadN X_lp.here hx rfl (hb hby d5_15) rfl rfl k) ?_
      show OEnds p e below s _ _ _ (T.setTop (mkF m 16 #[.val (.ref a), .val (.long kk), .second, .val (.int ((Int32.ofNat S) - (1 : Int32))), .val (.int pp)] [(.ref a)]))
      obtain ⟨T4, X4, e4, st4⟩ := getF X_lp hx hZ hown (host := "") (Or.inl (hw _ (List.mem_of_getElem? (i := 13) rfl))) Via.refl e_lp (O0.fld 1 rfl rfl) (g := (mkF m 16 #[.val (.ref a), .val (.long kk), .second, .val (.int ((Int32.ofNat S) - (1 : Int32))), .val (.int pp)] [(.ref a)])) rfl rfl (hb hby d5_16)
      refine own_by (st4) ?_
      show OEnds p e below s _ _ _ (T4.setTop (mkF m 19 #[.val (.ref a), .val (.long kk), .second, .val (.int ((Int32.ofNat S) - (1 : Int32))), .val (.int pp)] [(.ref sb)]))
      refine own_by (fun _ k => XS.iload X4.here hx rfl (hb hby d5_19) rfl k) ?_
      show OEnds p e below s _ _ _ (T4.setTop (mkF m 21 #[.val (.ref a), .val (.long kk), .second, .val (.int ((Int32.ofNat S) - (1 : Int32))), .val (.int pp)] [(.int pp), (.ref sb)]))
      refine own_by (own_iaload X4 hx hZ e4 F_sb ((hm sf kk + d) % S) hpp hlt (v := (.int (sl ((hm sf kk + d) % S)))) rfl (g := (mkF m 21 #[.val (.ref a), .val (.long kk), .second, .val (.int ((Int32.ofNat S) - (1 : Int32))), .val (.int pp)] [(.int pp), (.ref sb)])) rfl rfl (hb hby d5_21)) ?_
      show OEnds p e below s _ _ _ (T4.setTop (mkF m 22 #[.val (.ref a), .val (.long kk), .second, .val (.int ((Int32.ofNat S) - (1 : Int32))), .val (.int pp)] [(.int (sl ((hm sf kk + d) % S)))]))
      by_cases hc22_5 : (sl ((hm sf kk + d) % S)) = (0 : Int32)
      · refine own_by (fun _ k => XS.ifYes X4.here hx rfl (pc0 := 22) (pc' := 55) rfl (hb hby d5_22) rfl ((if0 _ _).trans (teq hc22_5).1) (by decide) (by decide) k) ?_
        show OEnds p e below s _ _ _ (T4.setTop (mkF m 55 #[.val (.ref a), .val (.long kk), .second, .val (.int ((Int32.ofNat S) - (1 : Int32))), .val (.int pp)] []))
        refine own_by (fun _ k => XS.iload X4.here hx rfl (hb hby d5_55) rfl k) ?_
        show OEnds p e below s _ _ _ (T4.setTop (mkF m 57 #[.val (.ref a), .val (.long kk), .second, .val (.int ((Int32.ofNat S) - (1 : Int32))), .val (.int pp)] [(.int pp)]))
        exact own_retI X4 hx hlk Bd.returns (hb hby d5_57) ⟨_, _, rfl, hlo, e4, hpp, d, by omega, rfl, Or.inl (gn_of hc22_5), hpre⟩ (by decide) (by decide)
      · refine own_by (fun _ k => XS.ifNo X4.here hx rfl (hb hby d5_22) rfl ((if0 _ _).trans (feq hc22_5).1) k) ?_
        show OEnds p e below s _ _ _ (T4.setTop (mkF m 25 #[.val (.ref a), .val (.long kk), .second, .val (.int ((Int32.ofNat S) - (1 : Int32))), .val (.int pp)] []))
        refine own_by (fun _ k => XS.aloadN X4.here hx rfl (hb hby d5_25) rfl rfl k) ?_
        show OEnds p e below s _ _ _ (T4.setTop (mkF m 26 #[.val (.ref a), .val (.long kk), .second, .val (.int ((Int32.ofNat S) - (1 : Int32))), .val (.int pp)] [(.ref a)]))
        obtain ⟨T6, X6, e6, st6⟩ := getF X4 hx hZ hown (host := "") (Or.inl (hw _ (List.mem_of_getElem? (i := 10) rfl))) Via.refl e4 (O0.fld 0 rfl rfl) (g := (mkF m 26 #[.val (.ref a), .val (.long kk), .second, .val (.int ((Int32.ofNat S) - (1 : Int32))), .val (.int pp)] [(.ref a)])) rfl rfl (hb hby d5_26)
        refine own_by (st6) ?_
        show OEnds p e below s _ _ _ (T6.setTop (mkF m 29 #[.val (.ref a), .val (.long kk), .second, .val (.int ((Int32.ofNat S) - (1 : Int32))), .val (.int pp)] [(.ref kb)]))
        refine own_by (fun _ k => XS.aloadN X6.here hx rfl (hb hby d5_29) rfl rfl k) ?_
        show OEnds p e below s _ _ _ (T6.setTop (mkF m 30 #[.val (.ref a), .val (.long kk), .second, .val (.int ((Int32.ofNat S) - (1 : Int32))), .val (.int pp)] [(.ref a), (.ref kb)]))
        obtain ⟨T7, X7, e7, st7⟩ := getF X6 hx hZ hown (host := "") (Or.inl (hw _ (List.mem_of_getElem? (i := 13) rfl))) Via.refl e6 (O0.fld 1 rfl rfl) (g := (mkF m 30 #[.val (.ref a), .val (.long kk), .second, .val (.int ((Int32.ofNat S) - (1 : Int32))), .val (.int pp)] [(.ref a), (.ref kb)])) rfl rfl (hb hby d5_30)
        refine own_by (st7) ?_
        show OEnds p e below s _ _ _ (T7.setTop (mkF m 33 #[.val (.ref a), .val (.long kk), .second, .val (.int ((Int32.ofNat S) - (1 : Int32))), .val (.int pp)] [(.ref sb), (.ref kb)]))
        refine own_by (fun _ k => XS.iload X7.here hx rfl (hb hby d5_33) rfl k) ?_
        show OEnds p e below s _ _ _ (T7.setTop (mkF m 35 #[.val (.ref a), .val (.long kk), .second, .val (.int ((Int32.ofNat S) - (1 : Int32))), .val (.int pp)] [(.int pp), (.ref sb), (.ref kb)]))
        refine own_by (own_iaload X7 hx hZ e7 F_sb ((hm sf kk + d) % S) hpp hlt (v := (.int (sl ((hm sf kk + d) % S)))) rfl (g := (mkF m 35 #[.val (.ref a), .val (.long kk), .second, .val (.int ((Int32.ofNat S) - (1 : Int32))), .val (.int pp)] [(.int pp), (.ref sb), (.ref kb)])) rfl rfl (hb hby d5_35)) ?_
        show OEnds p e below s _ _ _ (T7.setTop (mkF m 36 #[.val (.ref a), .val (.long kk), .second, .val (.int ((Int32.ofNat S) - (1 : Int32))), .val (.int pp)] [(.int (sl ((hm sf kk + d) % S))), (.ref kb)]))
        refine own_by (fun _ k => XS.iconst X7.here hx rfl (hb hby d5_36) k) ?_
        show OEnds p e below s _ _ _ (T7.setTop (mkF m 37 #[.val (.ref a), .val (.long kk), .second, .val (.int ((Int32.ofNat S) - (1 : Int32))), .val (.int pp)] [(.int (1 : Int32)), (.int (sl ((hm sf kk + d) % S))), (.ref kb)]))
        refine own_by (fun _ k => XS.isub X7.here hx rfl (hb hby d5_37) rfl k) ?_
        show OEnds p e below s _ _ _ (T7.setTop (mkF m 38 #[.val (.ref a), .val (.long kk), .second, .val (.int ((Int32.ofNat S) - (1 : Int32))), .val (.int pp)] [(.int ((sl ((hm sf kk + d) % S)) - (1 : Int32))), (.ref kb)]))
        have hgp := gn_pos hnn0 hc22_5
        refine own_by (own_laload X7 hx hZ e7 F_kb (gn sl ((hm sf kk + d) % S) - 1) (idx_of hnn0 hgp) (hbd _ hlt hgp) (v := (.long (kf (gn sl ((hm sf kk + d) % S) - 1)))) rfl (g := (mkF m 38 #[.val (.ref a), .val (.long kk), .second, .val (.int ((Int32.ofNat S) - (1 : Int32))), .val (.int pp)] [(.int ((sl ((hm sf kk + d) % S)) - (1 : Int32))), (.ref kb)])) rfl rfl (hb hby d5_38)) ?_
        show OEnds p e below s _ _ _ (T7.setTop (mkF m 39 #[.val (.ref a), .val (.long kk), .second, .val (.int ((Int32.ofNat S) - (1 : Int32))), .val (.int pp)] [(.long (kf (gn sl ((hm sf kk + d) % S) - 1)))]))
        refine own_by (fun _ k => XS.lloadN X7.here hx rfl (hb hby d5_39) rfl k) ?_
        show OEnds p e below s _ _ _ (T7.setTop (mkF m 40 #[.val (.ref a), .val (.long kk), .second, .val (.int ((Int32.ofNat S) - (1 : Int32))), .val (.int pp)] [(.long kk), (.long (kf (gn sl ((hm sf kk + d) % S) - 1)))]))
        refine own_by (fun _ k => XS.lcmp X7.here hx rfl (hb hby d5_40) rfl k) ?_
        show OEnds p e below s _ _ _ (T7.setTop (mkF m 41 #[.val (.ref a), .val (.long kk), .second, .val (.int ((Int32.ofNat S) - (1 : Int32))), .val (.int pp)] [(.int (lcmpW (kf (gn sl ((hm sf kk + d) % S) - 1)) kk))]))
        by_cases hc41_8 : (kf (gn sl ((hm sf kk + d) % S) - 1)) = kk
        · refine own_by (fun _ k => XS.ifYes X7.here hx rfl (pc0 := 41) (pc' := 55) rfl (hb hby d5_41) rfl ((if0 _ _).trans (teq ((lw_eq _ _).mpr hc41_8)).1) (by decide) (by decide) k) ?_
          show OEnds p e below s _ _ _ (T7.setTop (mkF m 55 #[.val (.ref a), .val (.long kk), .second, .val (.int ((Int32.ofNat S) - (1 : Int32))), .val (.int pp)] []))
          refine own_by (fun _ k => XS.iload X7.here hx rfl (hb hby d5_55) rfl k) ?_
          show OEnds p e below s _ _ _ (T7.setTop (mkF m 57 #[.val (.ref a), .val (.long kk), .second, .val (.int ((Int32.ofNat S) - (1 : Int32))), .val (.int pp)] [(.int pp)]))
          exact own_retI X7 hx hlk Bd.returns (hb hby d5_57) ⟨_, _, rfl, hlo, e7, hpp, d, by omega, rfl, Or.inr hc41_8, hpre⟩ (by decide) (by decide)
        · refine own_by (fun _ k => XS.ifNo X7.here hx rfl (hb hby d5_41) rfl ((if0 _ _).trans (feq (fun q => hc41_8 ((lw_eq _ _).mp q))).1) k) ?_
          show OEnds p e below s _ _ _ (T7.setTop (mkF m 44 #[.val (.ref a), .val (.long kk), .second, .val (.int ((Int32.ofNat S) - (1 : Int32))), .val (.int pp)] []))
          refine own_by (fun _ k => XS.iload X7.here hx rfl (hb hby d5_44) rfl k) ?_
          show OEnds p e below s _ _ _ (T7.setTop (mkF m 46 #[.val (.ref a), .val (.long kk), .second, .val (.int ((Int32.ofNat S) - (1 : Int32))), .val (.int pp)] [(.int pp)]))
          refine own_by (fun _ k => XS.iconst X7.here hx rfl (hb hby d5_46) k) ?_
          show OEnds p e below s _ _ _ (T7.setTop (mkF m 47 #[.val (.ref a), .val (.long kk), .second, .val (.int ((Int32.ofNat S) - (1 : Int32))), .val (.int pp)] [(.int (1 : Int32)), (.int pp)]))
          refine own_by (fun _ k => XS.iadd X7.here hx rfl (hb hby d5_47) rfl k) ?_
          show OEnds p e below s _ _ _ (T7.setTop (mkF m 48 #[.val (.ref a), .val (.long kk), .second, .val (.int ((Int32.ofNat S) - (1 : Int32))), .val (.int pp)] [(.int (pp + (1 : Int32)))]))
          refine own_by (fun _ k => XS.iloadN X7.here hx rfl (hb hby d5_48) rfl k) ?_
          show OEnds p e below s _ _ _ (T7.setTop (mkF m 49 #[.val (.ref a), .val (.long kk), .second, .val (.int ((Int32.ofNat S) - (1 : Int32))), .val (.int pp)] [(.int ((Int32.ofNat S) - (1 : Int32))), (.int (pp + (1 : Int32)))]))
          refine own_by (fun _ k => XS.iand X7.here hx rfl (hb hby d5_49) rfl k) ?_
          show OEnds p e below s _ _ _ (T7.setTop (mkF m 50 #[.val (.ref a), .val (.long kk), .second, .val (.int ((Int32.ofNat S) - (1 : Int32))), .val (.int pp)] [(.int ((pp + (1 : Int32)) &&& ((Int32.ofNat S) - (1 : Int32))))]))
          refine own_by (fun _ k => XS.istore X7.here hx rfl (hb hby d5_50) rfl (l' := #[.val (.ref a), .val (.long kk), .second, .val (.int ((Int32.ofNat S) - (1 : Int32))), .val (.int ((pp + (1 : Int32)) &&& ((Int32.ofNat S) - (1 : Int32))))]) rfl k) ?_
          show OEnds p e below s _ _ _ (T7.setTop (mkF m 52 #[.val (.ref a), .val (.long kk), .second, .val (.int ((Int32.ofNat S) - (1 : Int32))), .val (.int ((pp + (1 : Int32)) &&& ((Int32.ofNat S) - (1 : Int32))))] []))
          refine own_by (fun _ k => XS.goto X7.here hx rfl (pc0 := 52) (pc' := 15) rfl (hb hby d5_52) (by decide) (by decide) k) ?_
          show OEnds p e below s _ _ _ (T7.setTop (mkF m 15 #[.val (.ref a), .val (.long kk), .second, .val (.int ((Int32.ofNat S) - (1 : Int32))), .val (.int ((pp + (1 : Int32)) &&& ((Int32.ofNat S) - (1 : Int32))))] []))
          exact ih_lp T7 _ ((pp + (1 : Int32)) &&& ((Int32.ofNat S) - (1 : Int32))) (d + 1) X7 e7 N_lp hlo (nx_mod hSz.or hpp hlt) (pre_snoc hpre hgp hc41_8) (by omega)
  exact lp d0 T2 _ (home_r kk sf) 0 X2 e2 N0 rfl (by rw [Nat.add_zero, Nat.mod_eq_of_lt hh2]; exact hh1) (fun e he => absurd he (Nat.not_lt_zero e)) (Nat.zero_add d0)
theorem d10_0 : decode prog_25_method_4_code 0 = .ok (.aload_n 0, 1) := by decide +kernel
theorem d10_1 : decode prog_25_method_4_code 1 = .ok (.getfield 13, 3) := by decide +kernel
theorem d10_4 : decode prog_25_method_4_code 4 = .ok (.aload_n 0, 1) := by decide +kernel
theorem d10_5 : decode prog_25_method_4_code 5 = .ok (.lload_n 1, 1) := by decide +kernel
theorem d10_6 : decode prog_25_method_4_code 6 = .ok (.invokevirtual 30, 3) := by decide +kernel
theorem d10_9 : decode prog_25_method_4_code 9 = .ok (.iaload, 1) := by decide +kernel
theorem d10_10 : decode prog_25_method_4_code 10 = .ok (.iconst 1, 1) := by decide +kernel
theorem d10_11 : decode prog_25_method_4_code 11 = .ok (.isub, 1) := by decide +kernel
theorem d10_12 : decode prog_25_method_4_code 12 = .ok (.ireturn, 1) := by decide +kernel
theorem pn_10 : plainName "com/example/tristream/tristream/LongIndex" = true := by first | (simp [plainName, overriddenIn]; done) | decide +kernel
theorem ef_10 (m : MethodId) (x0 : Addr) (x1 : Int64) : entryFrame m #[(.ref x0), (.long x1)] 3 = mkF m 0 #[.val (.ref x0), .val (.long x1), .second] [] := by first | (simp [entryFrame, mkF, argsToLocals, Value.category]; done) | rfl
def Q_liidx (ks : List Int64) (kk : Int64) (h0 : Heap) (v : Option Value) (h : Heap) (L : List Loc) : Prop := ∃ r : Int32, v = some (.int r) ∧ L = [] ∧ h = h0 ∧ IdxR ks kk r
set_option maxRecDepth 65536 in
set_option maxHeartbeats 40000000 in
theorem rm_liidx (l : Launch) (Z : State) (a0 : Array Value) (hw : ∀ d ∈ tables_1, d.before a0 Z = true) (ws : List Jvm.Cond) (a : Addr) (kk : Int64) (kb : Addr) (sb : Addr) (z : Int32) (sf : Int32) (kn : Nat) (kf : Nat → Int64) (S : Nat) (sl : Nat → Int32) (ks : List Int64) (h0 : Heap) (n0 : Nat) (Z0 : n0 ≤ h0.size) (O0 : Obj Z h0 a "com/example/tristream/tristream/LongIndex" sch_li [(.ref kb), (.ref sb), (.int sf), (.int z)]) (F_kb : FA Z h0 kb .long kn (fun i => .long (kf i))) (F_sb : FA Z h0 sb .int S (fun i => .int (sl i))) (hLI : LI S sf z sl kf kn ks) :
    MetFree l (⟨"com/example/tristream/tristream/LongIndex", "indexOf", "(J)I"⟩ : MethodName) (head1 (Jvm.Cond.code (⟨"com/example/tristream/tristream/LongIndex", "indexOf", "(J)I"⟩ : MethodName) prog_25_method_4_code 3 (some .int) :: ws) ({ frames := 2, cells := 0, slots := 0, locals := 31 } : Room)) (fun a_ U => a_ = #[(.ref a), (.long kk)] ∧ Z.Warmed39 U.vm ∧ U.heap = h0) (fun _ _ _ _ _ => True) (fun _ U o U' => ∃ v_ L_, o = .returned v_ ∧ Q_liidx ks kk h0 v_ U'.heap L_ ∧ FrameEnd U o U' L_ ({ frames := 2, cells := 0, slots := 0, locals := 31 } : Room).cells ({ frames := 2, cells := 0, slots := 0, locals := 31 } : Room).slots) := by
  refine MetFree.of_bodySF (plainFor_of_name pn_10) hisR ?_
  intro p e s m args below meth c s₁ Bd hml0 hP hK
  obtain ⟨rfl, hZ, hh⟩ := hP
  have hx := Bd.exec
  have hby := Bd.bytes
  have hlk : meth.locks = false := Bd.notSynchronized
  have hml : c.maxLocals = 3 := hml0
  have hown : s.vm.findClass "com/example/tristream/tristream/LongIndex" = some m.cls := findClass_of_methodNamed Bd.named
  have hnm := (name_of_methodNamed Bd.named Bd.method).1
  have X0 : Stand p l e ({ frames := 2, cells := 0, slots := 0, locals := 31 } : Room) s m #[(.ref a), (.long kk)] below meth c s₁ [] 0 0 := Stand.of_body Bd
  have e0 : s₁.heap = h0 := by rw [← hh, Bd.state]; rfl
  have N0 := Fr.nil n0
  have K0 : Keep h0 h0 [] := Keep.refl _ _
  show OEnds p e below s (Q_liidx ks kk h0) _ _ _
  refine own_by (fun t k => castTop (ef_10 m a kk) k) ?_
  show OEnds p e below s _ _ _ (s₁.setTop (mkF m 0 #[.val (.ref a), .val (.long kk), .second] []))
  refine own_by (fun _ k => XS.aloadN X0.here hx rfl (hb hby d10_0) rfl rfl k) ?_
  show OEnds p e below s _ _ _ (s₁.setTop (mkF m 1 #[.val (.ref a), .val (.long kk), .second] [(.ref a)]))
  obtain ⟨T1, X1, e1, st1⟩ := getF X0 hx hZ hown (host := "") (Or.inl (hw _ (List.mem_of_getElem? (i := 13) rfl))) Via.refl e0 (O0.fld 1 rfl rfl) (g := (mkF m 1 #[.val (.ref a), .val (.long kk), .second] [(.ref a)])) rfl rfl (hb hby d10_1)
  refine own_by (st1) ?_
  show OEnds p e below s _ _ _ (T1.setTop (mkF m 4 #[.val (.ref a), .val (.long kk), .second] [(.ref sb)]))
  refine own_by (fun _ k => XS.aloadN X1.here hx rfl (hb hby d10_4) rfl rfl k) ?_
  show OEnds p e below s _ _ _ (T1.setTop (mkF m 5 #[.val (.ref a), .val (.long kk), .second] [(.ref a), (.ref sb)]))
  refine own_by (fun _ k => XS.lloadN X1.here hx rfl (hb hby d10_5) rfl k) ?_
  show OEnds p e below s _ _ _ (T1.setTop (mkF m 6 #[.val (.ref a), .val (.long kk), .second] [(.long kk), (.ref a), (.ref sb)]))
  obtain ⟨v2, T2, L2, h2, X2, e2, hQ2, st2⟩ := own_callX X1 hx hZ (y := (⟨"com/example/tristream/tristream/LongIndex", "find", "(J)I"⟩ : MethodName)) hown (hw _ (List.mem_of_getElem? (i := 27) rfl)) (hw _ (List.mem_of_getElem? (i := 28) rfl)) (hw _ (List.mem_of_getElem? (i := 29) rfl)) (hw _ (List.mem_of_getElem? (i := 30) rfl)) (hw _ (List.mem_of_getElem? (i := 2) rfl)) (hw _ (List.mem_of_getElem? (i := 1) rfl)) (by decide) O0.exa (rm_lifind l Z a0 hw [] a kk kb sb z sf kn kf S sl h0 n0 Z0 O0 F_kb F_sb hLI.fo) e1 (g := (mkF m 6 #[.val (.ref a), .val (.long kk), .second] [(.long kk), (.ref a), (.ref sb)])) rfl (by rw [hml]; rfl) (argsL := [(.long kk)]) (rest := [(.ref sb)]) (lenOf pd_pJrI rfl) rfl (W := 1) (by show 2 * 0 + _ ≤ _; exact Nat.le_of_eq rfl) (hb hby d10_6) (by decide) (by decide) (by decide) (by decide)
  obtain ⟨r2, rn2, rfl, rfl, hq2, hr2, hst2⟩ := hQ2
  rw [hq2] at e2
  have N2 := Fr.app N0 (Fr.nil n0)
  refine own_tr st2 ?_
  show OEnds p e below s _ _ _ (T2.setTop (mkF m 9 #[.val (.ref a), .val (.long kk), .second] [(.int r2), (.ref sb)]))
  refine own_by (own_iaload X2 hx hZ e2 F_sb rn2 hr2 hst2.lt (v := (.int (sl rn2))) rfl (g := (mkF m 9 #[.val (.ref a), .val (.long kk), .second] [(.int r2), (.ref sb)])) rfl rfl (hb hby d10_9)) ?_
  show OEnds p e below s _ _ _ (T2.setTop (mkF m 10 #[.val (.ref a), .val (.long kk), .second] [(.int (sl rn2))]))
  refine own_by (fun _ k => XS.iconst X2.here hx rfl (hb hby d10_10) k) ?_
  show OEnds p e below s _ _ _ (T2.setTop (mkF m 11 #[.val (.ref a), .val (.long kk), .second] [(.int (1 : Int32)), (.int (sl rn2))]))
  refine own_by (fun _ k => XS.isub X2.here hx rfl (hb hby d10_11) rfl k) ?_
  show OEnds p e below s _ _ _ (T2.setTop (mkF m 12 #[.val (.ref a), .val (.long kk), .second] [(.int ((sl rn2) - (1 : Int32)))]))
  exact own_retI X2 hx hlk Bd.returns (hb hby d10_12) ⟨_, rfl, rfl, e2, li_idx hLI hst2⟩ (by decide) (by decide)
theorem d8_0 : decode jdk_65_method_124_code 0 = .ok (.iload_n 1, 1) := by decide +kernel
theorem d8_1 : decode jdk_65_method_124_code 1 = .ok (.aload_n 0, 1) := by decide +kernel
theorem d8_2 : decode jdk_65_method_124_code 2 = .ok (.arraylength, 1) := by decide +kernel
theorem d8_3 : decode jdk_65_method_124_code 3 = .ok (.if_icmp .ne 11, 3) := by decide +kernel
theorem d8_14 : decode jdk_65_method_124_code 14 = .ok (.iload_n 1, 1) := by decide +kernel
theorem d8_15 : decode jdk_65_method_124_code 15 = .ok (.newarray .long, 2) := by decide +kernel
theorem d8_17 : decode jdk_65_method_124_code 17 = .ok (.astore_n 2, 1) := by decide +kernel
theorem d8_18 : decode jdk_65_method_124_code 18 = .ok (.aload_n 0, 1) := by decide +kernel
theorem d8_19 : decode jdk_65_method_124_code 19 = .ok (.iconst 0, 1) := by decide +kernel
theorem d8_20 : decode jdk_65_method_124_code 20 = .ok (.aload_n 2, 1) := by decide +kernel
theorem d8_21 : decode jdk_65_method_124_code 21 = .ok (.iconst 0, 1) := by decide +kernel
theorem d8_22 : decode jdk_65_method_124_code 22 = .ok (.aload_n 0, 1) := by decide +kernel
theorem d8_23 : decode jdk_65_method_124_code 23 = .ok (.arraylength, 1) := by decide +kernel
theorem d8_24 : decode jdk_65_method_124_code 24 = .ok (.iload_n 1, 1) := by decide +kernel
theorem d8_25 : decode jdk_65_method_124_code 25 = .ok (.invokestatic 304, 3) := by decide +kernel
theorem d8_28 : decode jdk_65_method_124_code 28 = .ok (.invokestatic 150, 3) := by decide +kernel
theorem d8_31 : decode jdk_65_method_124_code 31 = .ok (.aload_n 2, 1) := by decide +kernel
theorem d8_32 : decode jdk_65_method_124_code 32 = .ok (.areturn, 1) := by decide +kernel
theorem pn_8 : plainName "java/util/Arrays" = true := by first | (simp [plainName, overriddenIn]; done) | decide +kernel
theorem ef_8 (m : MethodId) (x0 : Addr) (x1 : Int32) : entryFrame m #[(.ref x0), (.int x1)] 3 = mkF m 0 #[.val (.ref x0), .val (.int x1), .unset] [] := by first | (simp [entryFrame, mkF, argsToLocals, Value.category]; done) | rfl
def Q_cpl (Z : State) (f : Nat → Int64) (h0 : Heap) (n0 : Nat) (r : Option Value) (h : Heap) (L : List Loc) : Prop := ∃ b : Addr, r = some (.ref b) ∧ Fr n0 L ∧ Keep h0 h [] ∧ h0.size ≤ b ∧ n0 ≤ b ∧ FA Z h b .long 4 (fun i => .long ((fun i => if i < 2 then f i else (0 : Int64)) i))
set_option maxRecDepth 65536 in
set_option maxHeartbeats 40000000 in
theorem rm_cpl (l : Launch) (Z : State) (a0 : Array Value) (hw : ∀ d ∈ tables_1, d.before a0 Z = true) (ws : List Jvm.Cond) (b : Addr) (f : Nat → Int64) (h0 : Heap) (n0 : Nat) (Z0 : n0 ≤ h0.size) (F0 : FA Z h0 b .long 2 (fun i => .long (f i))) :
    MetFree l (⟨"java/util/Arrays", "copyOf", "([JI)[J"⟩ : MethodName) (head1 (Jvm.Cond.code (⟨"java/util/Arrays", "copyOf", "([JI)[J"⟩ : MethodName) jdk_65_method_124_code 3 (some (.array .long)) :: ws) ({ frames := 1, cells := 1, slots := 4, locals := 18 } : Room)) (fun a_ U => a_ = #[(.ref b), (.int (4 : Int32))] ∧ Z.Warmed39 U.vm ∧ U.heap = h0) (fun _ _ _ _ _ => True) (fun _ U o U' => ∃ v_ L_, o = .returned v_ ∧ Q_cpl Z f h0 n0 v_ U'.heap L_ ∧ FrameEnd U o U' L_ ({ frames := 1, cells := 1, slots := 4, locals := 18 } : Room).cells ({ frames := 1, cells := 1, slots := 4, locals := 18 } : Room).slots) := by
  refine MetFree.of_bodySF (plainFor_of_name pn_8) hisR ?_
  intro p e s m args below meth c s₁ Bd hml0 hP hK
  obtain ⟨rfl, hZ, hh⟩ := hP
  have hx := Bd.exec
  have hby := Bd.bytes
  have hlk : meth.locks = false := Bd.notSynchronized
  have hml : c.maxLocals = 3 := hml0
  have hown : s.vm.findClass "java/util/Arrays" = some m.cls := findClass_of_methodNamed Bd.named
  have hnm := (name_of_methodNamed Bd.named Bd.method).1
  have X0 : Stand p l e ({ frames := 1, cells := 1, slots := 4, locals := 18 } : Room) s m #[(.ref b), (.int (4 : Int32))] below meth c s₁ [] 0 0 := Stand.of_body Bd
  have e0 : s₁.heap = h0 := by rw [← hh, Bd.state]; rfl
  have N0 := Fr.nil n0
  have K0 : Keep h0 h0 [] := Keep.refl _ _
  show OEnds p e below s (Q_cpl Z f h0 n0) _ _ _
  refine own_by (fun t k => castTop (ef_8 m b (4 : Int32)) k) ?_
  show OEnds p e below s _ _ _ (s₁.setTop (mkF m 0 #[.val (.ref b), .val (.int (4 : Int32)), .unset] []))
  refine own_by (fun _ k => XS.iloadN X0.here hx rfl (hb hby d8_0) rfl k) ?_
  show OEnds p e below s _ _ _ (s₁.setTop (mkF m 1 #[.val (.ref b), .val (.int (4 : Int32)), .unset] [(.int (4 : Int32))]))
  refine own_by (fun _ k => XS.aloadN X0.here hx rfl (hb hby d8_1) rfl rfl k) ?_
  show OEnds p e below s _ _ _ (s₁.setTop (mkF m 2 #[.val (.ref b), .val (.int (4 : Int32)), .unset] [(.ref b), (.int (4 : Int32))]))
  refine own_by (own_len X0 hx hZ e0 F0 (z := (2 : Int32)) (by decide) (g := (mkF m 2 #[.val (.ref b), .val (.int (4 : Int32)), .unset] [(.ref b), (.int (4 : Int32))])) rfl rfl (hb hby d8_2)) ?_
  show OEnds p e below s _ _ _ (s₁.setTop (mkF m 3 #[.val (.ref b), .val (.int (4 : Int32)), .unset] [(.int (2 : Int32)), (.int (4 : Int32))]))
  refine own_by (fun _ k => XS.icmpYes X0.here hx rfl (pc0 := 3) (pc' := 14) rfl (hb hby d8_3) rfl (feq (by decide : ¬ ((4 : Int32) = (2 : Int32)))).2 (by decide) (by decide) k) ?_
  show OEnds p e below s _ _ _ (s₁.setTop (mkF m 14 #[.val (.ref b), .val (.int (4 : Int32)), .unset] []))
  refine own_by (fun _ k => XS.iloadN X0.here hx rfl (hb hby d8_14) rfl k) ?_
  show OEnds p e below s _ _ _ (s₁.setTop (mkF m 15 #[.val (.ref b), .val (.int (4 : Int32)), .unset] [(.int (4 : Int32))]))
  obtain ⟨T1, h1, k1, X1, e1, E1, A1, st1⟩ := newP X0 hx hZ (hw _ (List.mem_of_getElem? (i := 9) rfl)) e0 (g := (mkF m 15 #[.val (.ref b), .val (.int (4 : Int32)), .unset] [(.int (4 : Int32))])) rfl (hb hby d8_15) rfl (by decide) (cap := 4) (by decide) (by decide) (by decide) (by decide)
  obtain ⟨nb1, g1⟩ : ∃ z, z = h0.size := ⟨_, rfl⟩
  rw [← g1] at A1 st1
  refine own_by (st1) ?_
  have g_nb1 : n0 ≤ nb1 := Nat.le_trans Z0 (Nat.le_of_eq g1.symm)
  have sz_nb1 : h0.size ≤ nb1 := Nat.le_trans K0.1 (Nat.le_of_eq g1.symm)
  have K1 : Keep h0 h1 [] := K0.ext E1
  have Z1 : n0 ≤ h1.size := Nat.le_trans Z0 E1.1
  have F1 : FA Z h1 nb1 .long 4 (fun i => .long ((fun _ => (0 : Int64)) i)) := FA.new A1 (by decide) (by decide) rfl
  show OEnds p e below s _ _ _ (T1.setTop (mkF m 17 #[.val (.ref b), .val (.int (4 : Int32)), .unset] [(.ref nb1)]))
  refine own_by (fun _ k => XS.astoreN X1.here hx rfl (hb hby d8_17) rfl rfl (l' := #[.val (.ref b), .val (.int (4 : Int32)), .val (.ref nb1)]) rfl k) ?_
  show OEnds p e below s _ _ _ (T1.setTop (mkF m 18 #[.val (.ref b), .val (.int (4 : Int32)), .val (.ref nb1)] []))
  refine own_by (fun _ k => XS.aloadN X1.here hx rfl (hb hby d8_18) rfl rfl k) ?_
  show OEnds p e below s _ _ _ (T1.setTop (mkF m 19 #[.val (.ref b), .val (.int (4 : Int32)), .val (.ref nb1)] [(.ref b)]))
  refine own_by (fun _ k => XS.iconst X1.here hx rfl (hb hby d8_19) k) ?_
  show OEnds p e below s _ _ _ (T1.setTop (mkF m 20 #[.val (.ref b), .val (.int (4 : Int32)), .val (.ref nb1)] [(.int (0 : Int32)), (.ref b)]))
  refine own_by (fun _ k => XS.aloadN X1.here hx rfl (hb hby d8_20) rfl rfl k) ?_
  show OEnds p e below s _ _ _ (T1.setTop (mkF m 21 #[.val (.ref b), .val (.int (4 : Int32)), .val (.ref nb1)] [(.ref nb1), (.int (0 : Int32)), (.ref b)]))
  refine own_by (fun _ k => XS.iconst X1.here hx rfl (hb hby d8_21) k) ?_
  show OEnds p e below s _ _ _ (T1.setTop (mkF m 22 #[.val (.ref b), .val (.int (4 : Int32)), .val (.ref nb1)] [(.int (0 : Int32)), (.ref nb1), (.int (0 : Int32)), (.ref b)]))
  refine own_by (fun _ k => XS.aloadN X1.here hx rfl (hb hby d8_22) rfl rfl k) ?_
  show OEnds p e below s _ _ _ (T1.setTop (mkF m 23 #[.val (.ref b), .val (.int (4 : Int32)), .val (.ref nb1)] [(.ref b), (.int (0 : Int32)), (.ref nb1), (.int (0 : Int32)), (.ref b)]))
  have F2 : FA Z h1 b .long 2 (fun i => .long (f i)) := (F0.ext E1)
  refine own_by (own_len X1 hx hZ e1 F2 (z := (2 : Int32)) (by decide) (g := (mkF m 23 #[.val (.ref b), .val (.int (4 : Int32)), .val (.ref nb1)] [(.ref b), (.int (0 : Int32)), (.ref nb1), (.int (0 : Int32)), (.ref b)])) rfl rfl (hb hby d8_23)) ?_
  show OEnds p e below s _ _ _ (T1.setTop (mkF m 24 #[.val (.ref b), .val (.int (4 : Int32)), .val (.ref nb1)] [(.int (2 : Int32)), (.int (0 : Int32)), (.ref nb1), (.int (0 : Int32)), (.ref b)]))
  refine own_by (fun _ k => XS.iloadN X1.here hx rfl (hb hby d8_24) rfl k) ?_
  show OEnds p e below s _ _ _ (T1.setTop (mkF m 25 #[.val (.ref b), .val (.int (4 : Int32)), .val (.ref nb1)] [(.int (4 : Int32)), (.int (2 : Int32)), (.int (0 : Int32)), (.ref nb1), (.int (0 : Int32)), (.ref b)]))
  obtain ⟨T3, X3, e3, st3⟩ := own_callP X1 hx hZ (y := (⟨"java/lang/Math", "min", "(II)I"⟩ : MethodName)) hown (hw _ (List.mem_of_getElem? (i := 47) rfl)) (hw _ (List.mem_of_getElem? (i := 48) rfl)) (hw _ (List.mem_of_getElem? (i := 49) rfl)) (hw _ (List.mem_of_getElem? (i := 50) rfl)) (by decide) (rm_jmin l Z a0 hw [] (2 : Int32) (4 : Int32) h1) e1 (g := (mkF m 25 #[.val (.ref b), .val (.int (4 : Int32)), .val (.ref nb1)] [(.int (4 : Int32)), (.int (2 : Int32)), (.int (0 : Int32)), (.ref nb1), (.int (0 : Int32)), (.ref b)])) rfl (by rw [hml]; rfl) (argsL := [(.int (2 : Int32)), (.int (4 : Int32))]) (rest := [(.int (0 : Int32)), (.ref nb1), (.int (0 : Int32)), (.ref b)]) (lenOf pd_pIIrI rfl) rfl (W := 4) (by show 2 * 0 + _ ≤ _; exact Nat.le_of_eq rfl) (hb hby d8_25) (by decide) (by decide) (by decide) (by decide)
  refine own_by (st3) ?_
  show OEnds p e below s _ _ _ (T3.setTop (mkF m 28 #[.val (.ref b), .val (.int (4 : Int32)), .val (.ref nb1)] [(.int (jmin (2 : Int32) (4 : Int32))), (.int (0 : Int32)), (.ref nb1), (.int (0 : Int32)), (.ref b)]))
  obtain ⟨T4, h4, L4, X4, e4, N4, Kq4, F4, st4⟩ := own_arraycopy X3 hx hZ hown (hw _ (List.mem_of_getElem? (i := 51) rfl)) (hw _ (List.mem_of_getElem? (i := 54) rfl)) (hw _ (List.mem_of_getElem? (i := 52) rfl)) (hw _ (List.mem_of_getElem? (i := 53) rfl)) e3 F2 F1 rfl (fun _ _ => rfl) (fun _ _ => rfl) 2 (by decide) (by decide) (by decide) N0 g_nb1 (g := (mkF m 28 #[.val (.ref b), .val (.int (4 : Int32)), .val (.ref nb1)] [(.int (jmin (2 : Int32) (4 : Int32))), (.int (0 : Int32)), (.ref nb1), (.int (0 : Int32)), (.ref b)])) rfl (by rw [hml]; rfl) rfl (hb hby d8_28) (by decide) (W := 0) (by show 2 * 0 + _ ≤ _; exact Nat.le_of_eq rfl) (by decide)
  refine own_by (st4) ?_
  have K4 : Keep h0 h4 [] := K1.trans Kq4 (allS (Or.inr sz_nb1) all0)
  have Z4 : n0 ≤ h4.size := Nat.le_trans Z1 Kq4.1
  have F4c : FA Z h4 nb1 .long 4 (fun i => .long ((fun i => if i < 2 then f i else (fun _ => (0 : Int64)) i) i)) := F4.congr fun i _ => by by_cases q : i < 2 <;> simp [q]
  show OEnds p e below s _ _ _ (T4.setTop (mkF m 31 #[.val (.ref b), .val (.int (4 : Int32)), .val (.ref nb1)] []))
  refine own_by (fun _ k => XS.aloadN X4.here hx rfl (hb hby d8_31) rfl rfl k) ?_
  show OEnds p e below s _ _ _ (T4.setTop (mkF m 32 #[.val (.ref b), .val (.int (4 : Int32)), .val (.ref nb1)] [(.ref nb1)]))
  exact own_retA X4 hx hlk rfl Bd.returns rfl (hb hby d8_32) (by rw [e4]; exact ⟨_, rfl, N4, K4, sz_nb1, g_nb1, F4c⟩) (by decide) (by decide)
theorem d7_0 : decode prog_25_method_10_code 0 = .ok (.aload_n 0, 1) := by decide +kernel
theorem d7_1 : decode prog_25_method_10_code 1 = .ok (.iload_n 1, 1) := by decide +kernel
theorem d7_2 : decode prog_25_method_10_code 2 = .ok (.newarray .int, 2) := by decide +kernel
theorem d7_4 : decode prog_25_method_10_code 4 = .ok (.putfield 13, 3) := by decide +kernel
theorem d7_7 : decode prog_25_method_10_code 7 = .ok (.aload_n 0, 1) := by decide +kernel
theorem d7_8 : decode prog_25_method_10_code 8 = .ok (.bipush 64, 2) := by decide +kernel
theorem d7_10 : decode prog_25_method_10_code 10 = .ok (.iload_n 1, 1) := by decide +kernel
theorem d7_11 : decode prog_25_method_10_code 11 = .ok (.invokestatic 17, 3) := by decide +kernel
theorem d7_14 : decode prog_25_method_10_code 14 = .ok (.isub, 1) := by decide +kernel
theorem d7_15 : decode prog_25_method_10_code 15 = .ok (.putfield 23, 3) := by decide +kernel
theorem d7_18 : decode prog_25_method_10_code 18 = .ok (.iload_n 1, 1) := by decide +kernel
theorem d7_19 : decode prog_25_method_10_code 19 = .ok (.iconst 1, 1) := by decide +kernel
theorem d7_20 : decode prog_25_method_10_code 20 = .ok (.isub, 1) := by decide +kernel
theorem d7_21 : decode prog_25_method_10_code 21 = .ok (.istore_n 2, 1) := by decide +kernel
theorem d7_22 : decode prog_25_method_10_code 22 = .ok (.iconst 0, 1) := by decide +kernel
theorem d7_23 : decode prog_25_method_10_code 23 = .ok (.istore_n 3, 1) := by decide +kernel
theorem d7_24 : decode prog_25_method_10_code 24 = .ok (.iload_n 3, 1) := by decide +kernel
theorem d7_25 : decode prog_25_method_10_code 25 = .ok (.aload_n 0, 1) := by decide +kernel
theorem d7_26 : decode prog_25_method_10_code 26 = .ok (.getfield 27, 3) := by decide +kernel
theorem d7_29 : decode prog_25_method_10_code 29 = .ok (.if_icmp .ge 52, 3) := by decide +kernel
theorem d7_32 : decode prog_25_method_10_code 32 = .ok (.aload_n 0, 1) := by decide +kernel
theorem d7_33 : decode prog_25_method_10_code 33 = .ok (.aload_n 0, 1) := by decide +kernel
theorem d7_34 : decode prog_25_method_10_code 34 = .ok (.getfield 9, 3) := by decide +kernel
theorem d7_37 : decode prog_25_method_10_code 37 = .ok (.iload_n 3, 1) := by decide +kernel
theorem d7_38 : decode prog_25_method_10_code 38 = .ok (.laload, 1) := by decide +kernel
theorem d7_39 : decode prog_25_method_10_code 39 = .ok (.invokevirtual 55, 3) := by decide +kernel
theorem d7_42 : decode prog_25_method_10_code 42 = .ok (.istore 4, 2) := by decide +kernel
theorem d7_44 : decode prog_25_method_10_code 44 = .ok (.aload_n 0, 1) := by decide +kernel
theorem d7_45 : decode prog_25_method_10_code 45 = .ok (.getfield 13, 3) := by decide +kernel
theorem d7_48 : decode prog_25_method_10_code 48 = .ok (.iload 4, 2) := by decide +kernel
theorem d7_50 : decode prog_25_method_10_code 50 = .ok (.iaload, 1) := by decide +kernel
theorem d7_51 : decode prog_25_method_10_code 51 = .ok (.ifCond .eq 14, 3) := by decide +kernel
theorem d7_54 : decode prog_25_method_10_code 54 = .ok (.iload 4, 2) := by decide +kernel
theorem d7_56 : decode prog_25_method_10_code 56 = .ok (.iconst 1, 1) := by decide +kernel
theorem d7_57 : decode prog_25_method_10_code 57 = .ok (.iadd, 1) := by decide +kernel
theorem d7_58 : decode prog_25_method_10_code 58 = .ok (.iload_n 2, 1) := by decide +kernel
theorem d7_59 : decode prog_25_method_10_code 59 = .ok (.iand, 1) := by decide +kernel
theorem d7_60 : decode prog_25_method_10_code 60 = .ok (.istore 4, 2) := by decide +kernel
theorem d7_62 : decode prog_25_method_10_code 62 = .ok (.goto (-18), 3) := by decide +kernel
theorem d7_65 : decode prog_25_method_10_code 65 = .ok (.aload_n 0, 1) := by decide +kernel
theorem d7_66 : decode prog_25_method_10_code 66 = .ok (.getfield 13, 3) := by decide +kernel
theorem d7_69 : decode prog_25_method_10_code 69 = .ok (.iload 4, 2) := by decide +kernel
theorem d7_71 : decode prog_25_method_10_code 71 = .ok (.iload_n 3, 1) := by decide +kernel
theorem d7_72 : decode prog_25_method_10_code 72 = .ok (.iconst 1, 1) := by decide +kernel
theorem d7_73 : decode prog_25_method_10_code 73 = .ok (.iadd, 1) := by decide +kernel
theorem d7_74 : decode prog_25_method_10_code 74 = .ok (.iastore, 1) := by decide +kernel
theorem d7_75 : decode prog_25_method_10_code 75 = .ok (.iinc 3 1, 3) := by decide +kernel
theorem d7_78 : decode prog_25_method_10_code 78 = .ok (.goto (-54), 3) := by decide +kernel
theorem d7_81 : decode prog_25_method_10_code 81 = .ok (.return_, 1) := by decide +kernel
theorem pn_7 : plainName "com/example/tristream/tristream/LongIndex" = true := by first | (simp [plainName, overriddenIn]; done) | decide +kernel
theorem ef_7 (m : MethodId) (x0 : Addr) (x1 : Int32) : entryFrame m #[(.ref x0), (.int x1)] 5 = mkF m 0 #[.val (.ref x0), .val (.int x1), .unset, .unset, .unset] [] := by first | (simp [entryFrame, mkF, argsToLocals, Value.category]; done) | rfl
def Q_rs8 (Z : State) (a kb : Addr) (kf : Nat → Int64) (h0 : Heap) (n0 : Nat) (r : Option Value) (h : Heap) (L : List Loc) : Prop := r = none ∧ Fr n0 L ∧ Keep h0 h [a] ∧ ∃ (sb : Addr) (sl : Nat → Int32), h0.size ≤ sb ∧ n0 ≤ sb ∧ (∀ s, s < 8 → 0 ≤ (sl s).toInt) ∧ Inv 8 (fun i => hm 61 (kf i)) (gn sl) (fun i => i < 2) ∧ Obj Z h a "com/example/tristream/tristream/LongIndex" sch_li [(.ref kb), (.ref sb), (.int (61 : Int32)), (.int (2 : Int32))] ∧ FA Z h sb .int 8 (fun i => .int (sl i))
set_option maxRecDepth 65536 in
set_option maxHeartbeats 40000000 in
theorem rm_rs8 (l : Launch) (Z : State) (a0 : Array Value) (hw : ∀ d ∈ tables_1, d.before a0 Z = true) (ws : List Jvm.Cond) (a : Addr) (kb : Addr) (sb : Addr) (sf : Int32) (kf : Nat → Int64) (h0 : Heap) (n0 : Nat) (Z0 : n0 ≤ h0.size) (O0 : Obj Z h0 a "com/example/tristream/tristream/LongIndex" sch_li [(.ref kb), (.ref sb), (.int sf), (.int (2 : Int32))]) (F_kb : FA Z h0 kb .long 2 (fun i => .long (kf i))) (ga : n0 ≤ a) :
    MetFree l (⟨"com/example/tristream/tristream/LongIndex", "resize", "(I)V"⟩ : MethodName) (head1 (Jvm.Cond.code (⟨"com/example/tristream/tristream/LongIndex", "resize", "(I)V"⟩ : MethodName) prog_25_method_10_code 5 none :: ws) ({ frames := 1, cells := 1, slots := 8, locals := 15 } : Room)) (fun a_ U => a_ = #[(.ref a), (.int (8 : Int32))] ∧ Z.Warmed39 U.vm ∧ U.heap = h0) (fun _ _ _ _ _ => True) (fun _ U o U' => ∃ v_ L_, o = .returned v_ ∧ Q_rs8 Z a kb kf h0 n0 v_ U'.heap L_ ∧ FrameEnd U o U' L_ ({ frames := 1, cells := 1, slots := 8, locals := 15 } : Room).cells ({ frames := 1, cells := 1, slots := 8, locals := 15 } : Room).slots) := by
  refine MetFree.of_bodySF (plainFor_of_name pn_7) hisR ?_
  intro p e s m args below meth c s₁ Bd hml0 hP hK
  obtain ⟨rfl, hZ, hh⟩ := hP
  have hx := Bd.exec
  have hby := Bd.bytes
  have hlk : meth.locks = false := Bd.notSynchronized
  have hml : c.maxLocals = 5 := hml0
  have hown : s.vm.findClass "com/example/tristream/tristream/LongIndex" = some m.cls := findClass_of_methodNamed Bd.named
  have hnm := (name_of_methodNamed Bd.named Bd.method).1
  have X0 : Stand p l e ({ frames := 1, cells := 1, slots := 8, locals := 15 } : Room) s m #[(.ref a), (.int (8 : Int32))] below meth c s₁ [] 0 0 := Stand.of_body Bd
  have e0 : s₁.heap = h0 := by rw [← hh, Bd.state]; rfl
  have N0 := Fr.nil n0
  have K0 : Keep h0 h0 [a] := Keep.refl _ _
  show OEnds p e below s (Q_rs8 Z a kb kf h0 n0) _ _ _
  refine own_by (fun t k => castTop (ef_7 m a (8 : Int32)) k) ?_
  show OEnds p e below s _ _ _ (s₁.setTop (mkF m 0 #[.val (.ref a), .val (.int (8 : Int32)), .unset, .unset, .unset] []))
  refine own_by (fun _ k => XS.aloadN X0.here hx rfl (hb hby d7_0) rfl rfl k) ?_
  show OEnds p e below s _ _ _ (s₁.setTop (mkF m 1 #[.val (.ref a), .val (.int (8 : Int32)), .unset, .unset, .unset] [(.ref a)]))
  refine own_by (fun _ k => XS.iloadN X0.here hx rfl (hb hby d7_1) rfl k) ?_
  show OEnds p e below s _ _ _ (s₁.setTop (mkF m 2 #[.val (.ref a), .val (.int (8 : Int32)), .unset, .unset, .unset] [(.int (8 : Int32)), (.ref a)]))
  obtain ⟨T1, h1, k1, X1, e1, E1, A1, st1⟩ := newP X0 hx hZ (hw _ (List.mem_of_getElem? (i := 12) rfl)) e0 (g := (mkF m 2 #[.val (.ref a), .val (.int (8 : Int32)), .unset, .unset, .unset] [(.int (8 : Int32)), (.ref a)])) rfl (hb hby d7_2) rfl (by decide) (cap := 8) (by decide) (by decide) (by decide) (by decide)
  obtain ⟨nb1, g1⟩ : ∃ z, z = h0.size := ⟨_, rfl⟩
  rw [← g1] at A1 st1
  refine own_by (st1) ?_
  have g_nb1 : n0 ≤ nb1 := Nat.le_trans Z0 (Nat.le_of_eq g1.symm)
  have sz_nb1 : h0.size ≤ nb1 := Nat.le_trans K0.1 (Nat.le_of_eq g1.symm)
  have K1 : Keep h0 h1 [a] := K0.ext E1
  have Z1 : n0 ≤ h1.size := Nat.le_trans Z0 E1.1
  have F1 : FA Z h1 nb1 .int 8 (fun i => .int ((fun _ => (0 : Int32)) i)) := FA.new A1 (by decide) (by decide) rfl
  show OEnds p e below s _ _ _ (T1.setTop (mkF m 4 #[.val (.ref a), .val (.int (8 : Int32)), .unset, .unset, .unset] [(.ref nb1), (.ref a)]))
  have O3 : Obj Z h1 a "com/example/tristream/tristream/LongIndex" sch_li [(.ref kb), (.ref sb), (.int sf), (.int (2 : Int32))] := (O0.ext E1)
  have F4 : FA Z h1 kb .long 2 (fun i => .long (kf i)) := (F_kb.ext E1)
  obtain ⟨T2, h2, X2, e2, W2, st2⟩ := putF X1 hx hZ hown (host := "") (Or.inl (hw _ (List.mem_of_getElem? (i := 13) rfl))) Via.refl e1 (O3.fld 1 rfl rfl) O3.exa (Or.inl (hw _ (List.mem_of_getElem? (i := 14) rfl))) (hw _ (List.mem_of_getElem? (i := 1) rfl)) (ty := (.array .int)) (by decide) rfl rfl (g := (mkF m 4 #[.val (.ref a), .val (.int (8 : Int32)), .unset, .unset, .unset] [(.ref nb1), (.ref a)])) rfl rfl (hb hby d7_4)
  refine own_by (st2) ?_
  have O2 : Obj Z h2 a "com/example/tristream/tristream/LongIndex" sch_li [(.ref kb), (.ref nb1), (.int sf), (.int (2 : Int32))] := O3.set (so_sch_li hw) W2 1 rfl (Nat.le_of_ble_eq_true rfl)
  have N2 := Fr.snoc X2 N0 ga
  have Z2 : n0 ≤ h2.size := Nat.le_trans Z1 (Keep.of_wr W2).1
  have K2 : Keep h0 h2 [a] := K1.wr W2 (Or.inl (List.mem_of_getElem? (i := 0) rfl))
  show OEnds p e below s _ _ _ (T2.setTop (mkF m 7 #[.val (.ref a), .val (.int (8 : Int32)), .unset, .unset, .unset] []))
  refine own_by (fun _ k => XS.aloadN X2.here hx rfl (hb hby d7_7) rfl rfl k) ?_
  show OEnds p e below s _ _ _ (T2.setTop (mkF m 8 #[.val (.ref a), .val (.int (8 : Int32)), .unset, .unset, .unset] [(.ref a)]))
  refine own_by (fun _ k => XS.bipush X2.here hx rfl (hb hby d7_8) k) ?_
  show OEnds p e below s _ _ _ (T2.setTop (mkF m 10 #[.val (.ref a), .val (.int (8 : Int32)), .unset, .unset, .unset] [(.int (64 : Int32)), (.ref a)]))
  refine own_by (fun _ k => XS.iloadN X2.here hx rfl (hb hby d7_10) rfl k) ?_
  show OEnds p e below s _ _ _ (T2.setTop (mkF m 11 #[.val (.ref a), .val (.int (8 : Int32)), .unset, .unset, .unset] [(.int (8 : Int32)), (.int (64 : Int32)), (.ref a)]))
  obtain ⟨T5, X5, e5, st5⟩ := own_callP X2 hx hZ (y := (⟨"java/lang/Integer", "numberOfTrailingZeros", "(I)I"⟩ : MethodName)) hown (hw _ (List.mem_of_getElem? (i := 15) rfl)) (hw _ (List.mem_of_getElem? (i := 16) rfl)) (hw _ (List.mem_of_getElem? (i := 17) rfl)) (hw _ (List.mem_of_getElem? (i := 18) rfl)) (by decide) (rm_ntz l Z a0 hw [] (8 : Int32) h2) e2 (g := (mkF m 11 #[.val (.ref a), .val (.int (8 : Int32)), .unset, .unset, .unset] [(.int (8 : Int32)), (.int (64 : Int32)), (.ref a)])) rfl (by rw [hml]; rfl) (argsL := [(.int (8 : Int32))]) (rest := [(.int (64 : Int32)), (.ref a)]) (lenOf pd_pIrI rfl) rfl (W := 2) (by show 2 * 0 + _ ≤ _; exact Nat.le_of_eq rfl) (hb hby d7_11) (by decide) (by decide) (by decide) (by decide)
  refine own_by (st5) ?_
  show OEnds p e below s _ _ _ (T5.setTop (mkF m 14 #[.val (.ref a), .val (.int (8 : Int32)), .unset, .unset, .unset] [(.int (ntz (8 : Int32))), (.int (64 : Int32)), (.ref a)]))
  refine own_by (fun _ k => XS.isub X5.here hx rfl (hb hby d7_14) rfl k) ?_
  show OEnds p e below s _ _ _ (T5.setTop (mkF m 15 #[.val (.ref a), .val (.int (8 : Int32)), .unset, .unset, .unset] [(.int ((64 : Int32) - (ntz (8 : Int32)))), (.ref a)]))
  rw [show ((64 : Int32) - (ntz (8 : Int32))) = (61 : Int32) by decide]
  show OEnds p e below s _ _ _ (T5.setTop (mkF m 15 #[.val (.ref a), .val (.int (8 : Int32)), .unset, .unset, .unset] [(.int (61 : Int32)), (.ref a)]))
  have F7 : FA Z h2 kb .long 2 (fun i => .long (kf i)) := (F4.other W2 (Ne.symm (O3.ne_fa (hw _ (List.mem_of_getElem? (i := 1) rfl)) F4)))
  have F8 : FA Z h2 nb1 .int 8 (fun i => .int ((fun _ => (0 : Int32)) i)) := (F1.other W2 (Ne.symm (Nat.ne_of_lt (Nat.lt_of_lt_of_le O0.lt (Nat.le_of_eq g1.symm)))))
  obtain ⟨T6, h6, X6, e6, W6, st6⟩ := putF X5 hx hZ hown (host := "") (Or.inl (hw _ (List.mem_of_getElem? (i := 20) rfl))) Via.refl e5 (O2.fld 2 rfl rfl) O2.exa (Or.inl (hw _ (List.mem_of_getElem? (i := 21) rfl))) (hw _ (List.mem_of_getElem? (i := 1) rfl)) (ty := .int) (by decide) rfl rfl (g := (mkF m 15 #[.val (.ref a), .val (.int (8 : Int32)), .unset, .unset, .unset] [(.int (61 : Int32)), (.ref a)])) rfl rfl (hb hby d7_15)
  refine own_by (st6) ?_
  have O6 : Obj Z h6 a "com/example/tristream/tristream/LongIndex" sch_li [(.ref kb), (.ref nb1), (.int (61 : Int32)), (.int (2 : Int32))] := O2.set (so_sch_li hw) W6 2 rfl (Nat.le_of_ble_eq_true rfl)
  have N6 := Fr.snoc X6 N2 ga
  have Z6 : n0 ≤ h6.size := Nat.le_trans Z2 (Keep.of_wr W6).1
  have K6 : Keep h0 h6 [a] := K2.wr W6 (Or.inl (List.mem_of_getElem? (i := 0) rfl))
  show OEnds p e below s _ _ _ (T6.setTop (mkF m 18 #[.val (.ref a), .val (.int (8 : Int32)), .unset, .unset, .unset] []))
  refine own_by (fun _ k => XS.iloadN X6.here hx rfl (hb hby d7_18) rfl k) ?_
  show OEnds p e below s _ _ _ (T6.setTop (mkF m 19 #[.val (.ref a), .val (.int (8 : Int32)), .unset, .unset, .unset] [(.int (8 : Int32))]))
  refine own_by (fun _ k => XS.iconst X6.here hx rfl (hb hby d7_19) k) ?_
  show OEnds p e below s _ _ _ (T6.setTop (mkF m 20 #[.val (.ref a), .val (.int (8 : Int32)), .unset, .unset, .unset] [(.int (1 : Int32)), (.int (8 : Int32))]))
  refine own_by (fun _ k => XS.isub X6.here hx rfl (hb hby d7_20) rfl k) ?_
  show OEnds p e below s _ _ _ (T6.setTop (mkF m 21 #[.val (.ref a), .val (.int (8 : Int32)), .unset, .unset, .unset] [(.int (7 : Int32))]))
  refine own_by (fun _ k => XS.istoreN X6.here hx rfl (hb hby d7_21) rfl (l' := #[.val (.ref a), .val (.int (8 : Int32)), .val (.int (7 : Int32)), .unset, .unset]) rfl k) ?_
  show OEnds p e below s _ _ _ (T6.setTop (mkF m 22 #[.val (.ref a), .val (.int (8 : Int32)), .val (.int (7 : Int32)), .unset, .unset] []))
  refine own_by (fun _ k => XS.iconst X6.here hx rfl (hb hby d7_22) k) ?_
  show OEnds p e below s _ _ _ (T6.setTop (mkF m 23 #[.val (.ref a), .val (.int (8 : Int32)), .val (.int (7 : Int32)), .unset, .unset] [(.int (0 : Int32))]))
  refine own_by (fun _ k => XS.istoreN X6.here hx rfl (hb hby d7_23) rfl (l' := #[.val (.ref a), .val (.int (8 : Int32)), .val (.int (7 : Int32)), .val (.int (0 : Int32)), .unset]) rfl k) ?_
  show OEnds p e below s _ _ _ (T6.setTop (mkF m 24 #[.val (.ref a), .val (.int (8 : Int32)), .val (.int (7 : Int32)), .val (.int (0 : Int32)), .unset] []))
  refine own_by (fun _ k => XS.iloadN X6.here hx rfl (hb hby d7_24) rfl k) ?_
  show OEnds p e below s _ _ _ (T6.setTop (mkF m 25 #[.val (.ref a), .val (.int (8 : Int32)), .val (.int (7 : Int32)), .val (.int (0 : Int32)), .unset] [(.int (0 : Int32))]))
  refine own_by (fun _ k => XS.aloadN X6.here hx rfl (hb hby d7_25) rfl rfl k) ?_
  show OEnds p e below s _ _ _ (T6.setTop (mkF m 26 #[.val (.ref a), .val (.int (8 : Int32)), .val (.int (7 : Int32)), .val (.int (0 : Int32)), .unset] [(.ref a), (.int (0 : Int32))]))
  obtain ⟨T9, X9, e9, st9⟩ := getF X6 hx hZ hown (host := "") (Or.inl (hw _ (List.mem_of_getElem? (i := 36) rfl))) Via.refl e6 (O6.fld 3 rfl rfl) (g := (mkF m 26 #[.val (.ref a), .val (.int (8 : Int32)), .val (.int (7 : Int32)), .val (.int (0 : Int32)), .unset] [(.ref a), (.int (0 : Int32))])) rfl rfl (hb hby d7_26)
  refine own_by (st9) ?_
  show OEnds p e below s _ _ _ (T9.setTop (mkF m 29 #[.val (.ref a), .val (.int (8 : Int32)), .val (.int (7 : Int32)), .val (.int (0 : Int32)), .unset] [(.int (2 : Int32)), (.int (0 : Int32))]))
  refine own_by (fun _ k => XS.icmpNo X9.here hx rfl (hb hby d7_29) rfl (tlt (by decide : (0 : Int32) < (2 : Int32))).2.1 k) ?_
  show OEnds p e below s _ _ _ (T9.setTop (mkF m 32 #[.val (.ref a), .val (.int (8 : Int32)), .val (.int (7 : Int32)), .val (.int (0 : Int32)), .unset] []))
  refine own_by (fun _ k => XS.aloadN X9.here hx rfl (hb hby d7_32) rfl rfl k) ?_
  show OEnds p e below s _ _ _ (T9.setTop (mkF m 33 #[.val (.ref a), .val (.int (8 : Int32)), .val (.int (7 : Int32)), .val (.int (0 : Int32)), .unset] [(.ref a)]))
  refine own_by (fun _ k => XS.aloadN X9.here hx rfl (hb hby d7_33) rfl rfl k) ?_
  show OEnds p e below s _ _ _ (T9.setTop (mkF m 34 #[.val (.ref a), .val (.int (8 : Int32)), .val (.int (7 : Int32)), .val (.int (0 : Int32)), .unset] [(.ref a), (.ref a)]))
  obtain ⟨T10, X10, e10, st10⟩ := getF X9 hx hZ hown (host := "") (Or.inl (hw _ (List.mem_of_getElem? (i := 10) rfl))) Via.refl e9 (O6.fld 0 rfl rfl) (g := (mkF m 34 #[.val (.ref a), .val (.int (8 : Int32)), .val (.int (7 : Int32)), .val (.int (0 : Int32)), .unset] [(.ref a), (.ref a)])) rfl rfl (hb hby d7_34)
  refine own_by (st10) ?_
  show OEnds p e below s _ _ _ (T10.setTop (mkF m 37 #[.val (.ref a), .val (.int (8 : Int32)), .val (.int (7 : Int32)), .val (.int (0 : Int32)), .unset] [(.ref kb), (.ref a)]))
  refine own_by (fun _ k => XS.iloadN X10.here hx rfl (hb hby d7_37) rfl k) ?_
  show OEnds p e below s _ _ _ (T10.setTop (mkF m 38 #[.val (.ref a), .val (.int (8 : Int32)), .val (.int (7 : Int32)), .val (.int (0 : Int32)), .unset] [(.int (0 : Int32)), (.ref kb), (.ref a)]))
  have F11 : FA Z h6 kb .long 2 (fun i => .long (kf i)) := (F7.other W6 (Ne.symm (O2.ne_fa (hw _ (List.mem_of_getElem? (i := 1) rfl)) F7)))
  refine own_by (own_laload X10 hx hZ e10 F11 0 (by decide) (by decide) (v := (.long (kf 0))) rfl (g := (mkF m 38 #[.val (.ref a), .val (.int (8 : Int32)), .val (.int (7 : Int32)), .val (.int (0 : Int32)), .unset] [(.int (0 : Int32)), (.ref kb), (.ref a)])) rfl rfl (hb hby d7_38)) ?_
  show OEnds p e below s _ _ _ (T10.setTop (mkF m 39 #[.val (.ref a), .val (.int (8 : Int32)), .val (.int (7 : Int32)), .val (.int (0 : Int32)), .unset] [(.long (kf 0)), (.ref a)]))
  obtain ⟨T12, X12, e12, st12⟩ := own_callXR X10 hx hZ (y := (⟨"com/example/tristream/tristream/LongIndex", "home", "(J)I"⟩ : MethodName)) hown (hw _ (List.mem_of_getElem? (i := 31) rfl)) (hw _ (List.mem_of_getElem? (i := 32) rfl)) (hw _ (List.mem_of_getElem? (i := 33) rfl)) (hw _ (List.mem_of_getElem? (i := 34) rfl)) (hw _ (List.mem_of_getElem? (i := 2) rfl)) (hw _ (List.mem_of_getElem? (i := 1) rfl)) (by decide) O6.exa (rm_home l Z a0 hw [] a (kf 0) kb nb1 (61 : Int32) (2 : Int32) h6 n0 Z6 O6) e10 (g := (mkF m 39 #[.val (.ref a), .val (.int (8 : Int32)), .val (.int (7 : Int32)), .val (.int (0 : Int32)), .unset] [(.long (kf 0)), (.ref a)])) rfl (by rw [hml]; rfl) (argsL := [(.long (kf 0))]) (rest := []) (lenOf pd_pJrI rfl) rfl (W := 0) (by show 2 * 0 + _ ≤ _; exact Nat.le_of_eq rfl) (hb hby d7_39) (by decide) (by decide) (by decide) (by decide)
  refine own_by (st12) ?_
  show OEnds p e below s _ _ _ (T12.setTop (mkF m 42 #[.val (.ref a), .val (.int (8 : Int32)), .val (.int (7 : Int32)), .val (.int (0 : Int32)), .unset] [(.int (home_r (kf 0) (61 : Int32)))]))
  refine own_by (fun _ k => XS.istore X12.here hx rfl (hb hby d7_42) rfl (l' := #[.val (.ref a), .val (.int (8 : Int32)), .val (.int (7 : Int32)), .val (.int (0 : Int32)), .val (.int (home_r (kf 0) (61 : Int32)))]) rfl k) ?_
  show OEnds p e below s _ _ _ (T12.setTop (mkF m 44 #[.val (.ref a), .val (.int (8 : Int32)), .val (.int (7 : Int32)), .val (.int (0 : Int32)), .val (.int (home_r (kf 0) (61 : Int32)))] []))
  refine own_by (fun _ k => XS.aloadN X12.here hx rfl (hb hby d7_44) rfl rfl k) ?_
  show OEnds p e below s _ _ _ (T12.setTop (mkF m 45 #[.val (.ref a), .val (.int (8 : Int32)), .val (.int (7 : Int32)), .val (.int (0 : Int32)), .val (.int (home_r (kf 0) (61 : Int32)))] [(.ref a)]))
  obtain ⟨T13, X13, e13, st13⟩ := getF X12 hx hZ hown (host := "") (Or.inl (hw _ (List.mem_of_getElem? (i := 13) rfl))) Via.refl e12 (O6.fld 1 rfl rfl) (g := (mkF m 45 #[.val (.ref a), .val (.int (8 : Int32)), .val (.int (7 : Int32)), .val (.int (0 : Int32)), .val (.int (home_r (kf 0) (61 : Int32)))] [(.ref a)])) rfl rfl (hb hby d7_45)
  refine own_by (st13) ?_
  show OEnds p e below s _ _ _ (T13.setTop (mkF m 48 #[.val (.ref a), .val (.int (8 : Int32)), .val (.int (7 : Int32)), .val (.int (0 : Int32)), .val (.int (home_r (kf 0) (61 : Int32)))] [(.ref nb1)]))
  refine own_by (fun _ k => XS.iload X13.here hx rfl (hb hby d7_48) rfl k) ?_
  show OEnds p e below s _ _ _ (T13.setTop (mkF m 50 #[.val (.ref a), .val (.int (8 : Int32)), .val (.int (7 : Int32)), .val (.int (0 : Int32)), .val (.int (home_r (kf 0) (61 : Int32)))] [(.int (home_r (kf 0) (61 : Int32))), (.ref nb1)]))
  have F14 : FA Z h6 nb1 .int 8 (fun i => .int ((fun _ => (0 : Int32)) i)) := (F8.other W6 (Ne.symm (Nat.ne_of_lt (Nat.lt_of_lt_of_le O0.lt (Nat.le_of_eq g1.symm)))))
  refine own_by (own_iaload X13 hx hZ e13 F14 (hm 61 (kf 0)) (hm_spec z8 (kf 0)).1 (hm_spec z8 (kf 0)).2 (v := (.int (0 : Int32))) rfl (g := (mkF m 50 #[.val (.ref a), .val (.int (8 : Int32)), .val (.int (7 : Int32)), .val (.int (0 : Int32)), .val (.int (home_r (kf 0) (61 : Int32)))] [(.int (home_r (kf 0) (61 : Int32))), (.ref nb1)])) rfl rfl (hb hby d7_50)) ?_
  show OEnds p e below s _ _ _ (T13.setTop (mkF m 51 #[.val (.ref a), .val (.int (8 : Int32)), .val (.int (7 : Int32)), .val (.int (0 : Int32)), .val (.int (home_r (kf 0) (61 : Int32)))] [(.int (0 : Int32))]))
  refine own_by (fun _ k => XS.ifYes X13.here hx rfl (pc0 := 51) (pc' := 65) rfl (hb hby d7_51) rfl ((if0 _ _).trans (teq (by decide : (0 : Int32) = (0 : Int32))).1) (by decide) (by decide) k) ?_
  show OEnds p e below s _ _ _ (T13.setTop (mkF m 65 #[.val (.ref a), .val (.int (8 : Int32)), .val (.int (7 : Int32)), .val (.int (0 : Int32)), .val (.int (home_r (kf 0) (61 : Int32)))] []))
  refine own_by (fun _ k => XS.aloadN X13.here hx rfl (hb hby d7_65) rfl rfl k) ?_
  show OEnds p e below s _ _ _ (T13.setTop (mkF m 66 #[.val (.ref a), .val (.int (8 : Int32)), .val (.int (7 : Int32)), .val (.int (0 : Int32)), .val (.int (home_r (kf 0) (61 : Int32)))] [(.ref a)]))
  obtain ⟨T15, X15, e15, st15⟩ := getF X13 hx hZ hown (host := "") (Or.inl (hw _ (List.mem_of_getElem? (i := 13) rfl))) Via.refl e13 (O6.fld 1 rfl rfl) (g := (mkF m 66 #[.val (.ref a), .val (.int (8 : Int32)), .val (.int (7 : Int32)), .val (.int (0 : Int32)), .val (.int (home_r (kf 0) (61 : Int32)))] [(.ref a)])) rfl rfl (hb hby d7_66)
  refine own_by (st15) ?_
  show OEnds p e below s _ _ _ (T15.setTop (mkF m 69 #[.val (.ref a), .val (.int (8 : Int32)), .val (.int (7 : Int32)), .val (.int (0 : Int32)), .val (.int (home_r (kf 0) (61 : Int32)))] [(.ref nb1)]))
  refine own_by (fun _ k => XS.iload X15.here hx rfl (hb hby d7_69) rfl k) ?_
  show OEnds p e below s _ _ _ (T15.setTop (mkF m 71 #[.val (.ref a), .val (.int (8 : Int32)), .val (.int (7 : Int32)), .val (.int (0 : Int32)), .val (.int (home_r (kf 0) (61 : Int32)))] [(.int (home_r (kf 0) (61 : Int32))), (.ref nb1)]))
  refine own_by (fun _ k => XS.iloadN X15.here hx rfl (hb hby d7_71) rfl k) ?_
  show OEnds p e below s _ _ _ (T15.setTop (mkF m 72 #[.val (.ref a), .val (.int (8 : Int32)), .val (.int (7 : Int32)), .val (.int (0 : Int32)), .val (.int (home_r (kf 0) (61 : Int32)))] [(.int (0 : Int32)), (.int (home_r (kf 0) (61 : Int32))), (.ref nb1)]))
  refine own_by (fun _ k => XS.iconst X15.here hx rfl (hb hby d7_72) k) ?_
  show OEnds p e below s _ _ _ (T15.setTop (mkF m 73 #[.val (.ref a), .val (.int (8 : Int32)), .val (.int (7 : Int32)), .val (.int (0 : Int32)), .val (.int (home_r (kf 0) (61 : Int32)))] [(.int (1 : Int32)), (.int (0 : Int32)), (.int (home_r (kf 0) (61 : Int32))), (.ref nb1)]))
  refine own_by (fun _ k => XS.iadd X15.here hx rfl (hb hby d7_73) rfl k) ?_
  show OEnds p e below s _ _ _ (T15.setTop (mkF m 74 #[.val (.ref a), .val (.int (8 : Int32)), .val (.int (7 : Int32)), .val (.int (0 : Int32)), .val (.int (home_r (kf 0) (61 : Int32)))] [(.int (1 : Int32)), (.int (home_r (kf 0) (61 : Int32))), (.ref nb1)]))
  obtain ⟨T16, h16, X16, e16, W16, st16⟩ := own_iastore X15 hx hZ e15 F14 (hm 61 (kf 0)) (hm_spec z8 (kf 0)).1 (hm_spec z8 (kf 0)).2 (g := (mkF m 74 #[.val (.ref a), .val (.int (8 : Int32)), .val (.int (7 : Int32)), .val (.int (0 : Int32)), .val (.int (home_r (kf 0) (61 : Int32)))] [(.int (1 : Int32)), (.int (home_r (kf 0) (61 : Int32))), (.ref nb1)])) rfl rfl (hb hby d7_74)
  refine own_by (st16) ?_
  have F16 : FA Z h16 nb1 .int 8 (fun i => .int ((updI (fun _ => (0 : Int32)) (hm 61 (kf 0)) (1 : Int32)) i)) := F14.setI W16
  have N16 := Fr.snoc X16 N6 g_nb1
  have Z16 : n0 ≤ h16.size := Nat.le_trans Z6 (Keep.of_wr W16).1
  have K16 : Keep h0 h16 [a] := K6.wr W16 (Or.inr sz_nb1)
  show OEnds p e below s _ _ _ (T16.setTop (mkF m 75 #[.val (.ref a), .val (.int (8 : Int32)), .val (.int (7 : Int32)), .val (.int (0 : Int32)), .val (.int (home_r (kf 0) (61 : Int32)))] []))
  refine own_by (fun _ k => XS.iinc X16.here hx rfl (hb hby d7_75) rfl (l' := #[.val (.ref a), .val (.int (8 : Int32)), .val (.int (7 : Int32)), .val (.int (1 : Int32)), .val (.int (home_r (kf 0) (61 : Int32)))]) rfl k) ?_
  show OEnds p e below s _ _ _ (T16.setTop (mkF m 78 #[.val (.ref a), .val (.int (8 : Int32)), .val (.int (7 : Int32)), .val (.int (1 : Int32)), .val (.int (home_r (kf 0) (61 : Int32)))] []))
  refine own_by (fun _ k => XS.goto X16.here hx rfl (pc0 := 78) (pc' := 24) rfl (hb hby d7_78) (by decide) (by decide) k) ?_
  show OEnds p e below s _ _ _ (T16.setTop (mkF m 24 #[.val (.ref a), .val (.int (8 : Int32)), .val (.int (7 : Int32)), .val (.int (1 : Int32)), .val (.int (home_r (kf 0) (61 : Int32)))] []))
  refine own_by (fun _ k => XS.iloadN X16.here hx rfl (hb hby d7_24) rfl k) ?_
  show OEnds p e below s _ _ _ (T16.setTop (mkF m 25 #[.val (.ref a), .val (.int (8 : Int32)), .val (.int (7 : Int32)), .val (.int (1 : Int32)), .val (.int (home_r (kf 0) (61 : Int32)))] [(.int (1 : Int32))]))
  refine own_by (fun _ k => XS.aloadN X16.here hx rfl (hb hby d7_25) rfl rfl k) ?_
  show OEnds p e below s _ _ _ (T16.setTop (mkF m 26 #[.val (.ref a), .val (.int (8 : Int32)), .val (.int (7 : Int32)), .val (.int (1 : Int32)), .val (.int (home_r (kf 0) (61 : Int32)))] [(.ref a), (.int (1 : Int32))]))
  have O18 : Obj Z h16 a "com/example/tristream/tristream/LongIndex" sch_li [(.ref kb), (.ref nb1), (.int (61 : Int32)), (.int (2 : Int32))] := (O6.other W16 (Nat.ne_of_lt (Nat.lt_of_lt_of_le O0.lt (Nat.le_of_eq g1.symm))))
  obtain ⟨T17, X17, e17, st17⟩ := getF X16 hx hZ hown (host := "") (Or.inl (hw _ (List.mem_of_getElem? (i := 36) rfl))) Via.refl e16 (O18.fld 3 rfl rfl) (g := (mkF m 26 #[.val (.ref a), .val (.int (8 : Int32)), .val (.int (7 : Int32)), .val (.int (1 : Int32)), .val (.int (home_r (kf 0) (61 : Int32)))] [(.ref a), (.int (1 : Int32))])) rfl rfl (hb hby d7_26)
  refine own_by (st17) ?_
  show OEnds p e below s _ _ _ (T17.setTop (mkF m 29 #[.val (.ref a), .val (.int (8 : Int32)), .val (.int (7 : Int32)), .val (.int (1 : Int32)), .val (.int (home_r (kf 0) (61 : Int32)))] [(.int (2 : Int32)), (.int (1 : Int32))]))
  refine own_by (fun _ k => XS.icmpNo X17.here hx rfl (hb hby d7_29) rfl (tlt (by decide : (1 : Int32) < (2 : Int32))).2.1 k) ?_
  show OEnds p e below s _ _ _ (T17.setTop (mkF m 32 #[.val (.ref a), .val (.int (8 : Int32)), .val (.int (7 : Int32)), .val (.int (1 : Int32)), .val (.int (home_r (kf 0) (61 : Int32)))] []))
  refine own_by (fun _ k => XS.aloadN X17.here hx rfl (hb hby d7_32) rfl rfl k) ?_
  show OEnds p e below s _ _ _ (T17.setTop (mkF m 33 #[.val (.ref a), .val (.int (8 : Int32)), .val (.int (7 : Int32)), .val (.int (1 : Int32)), .val (.int (home_r (kf 0) (61 : Int32)))] [(.ref a)]))
  refine own_by (fun _ k => XS.aloadN X17.here hx rfl (hb hby d7_33) rfl rfl k) ?_
  show OEnds p e below s _ _ _ (T17.setTop (mkF m 34 #[.val (.ref a), .val (.int (8 : Int32)), .val (.int (7 : Int32)), .val (.int (1 : Int32)), .val (.int (home_r (kf 0) (61 : Int32)))] [(.ref a), (.ref a)]))
  obtain ⟨T19, X19, e19, st19⟩ := getF X17 hx hZ hown (host := "") (Or.inl (hw _ (List.mem_of_getElem? (i := 10) rfl))) Via.refl e17 (O18.fld 0 rfl rfl) (g := (mkF m 34 #[.val (.ref a), .val (.int (8 : Int32)), .val (.int (7 : Int32)), .val (.int (1 : Int32)), .val (.int (home_r (kf 0) (61 : Int32)))] [(.ref a), (.ref a)])) rfl rfl (hb hby d7_34)
  refine own_by (st19) ?_
  show OEnds p e below s _ _ _ (T19.setTop (mkF m 37 #[.val (.ref a), .val (.int (8 : Int32)), .val (.int (7 : Int32)), .val (.int (1 : Int32)), .val (.int (home_r (kf 0) (61 : Int32)))] [(.ref kb), (.ref a)]))
  refine own_by (fun _ k => XS.iloadN X19.here hx rfl (hb hby d7_37) rfl k) ?_
  show OEnds p e below s _ _ _ (T19.setTop (mkF m 38 #[.val (.ref a), .val (.int (8 : Int32)), .val (.int (7 : Int32)), .val (.int (1 : Int32)), .val (.int (home_r (kf 0) (61 : Int32)))] [(.int (1 : Int32)), (.ref kb), (.ref a)]))
  have F20 : FA Z h16 kb .long 2 (fun i => .long (kf i)) := (F11.other W16 (Nat.ne_of_lt (Nat.lt_of_lt_of_le F_kb.lt (Nat.le_of_eq g1.symm))))
  refine own_by (own_laload X19 hx hZ e19 F20 1 (by decide) (by decide) (v := (.long (kf 1))) rfl (g := (mkF m 38 #[.val (.ref a), .val (.int (8 : Int32)), .val (.int (7 : Int32)), .val (.int (1 : Int32)), .val (.int (home_r (kf 0) (61 : Int32)))] [(.int (1 : Int32)), (.ref kb), (.ref a)])) rfl rfl (hb hby d7_38)) ?_
  show OEnds p e below s _ _ _ (T19.setTop (mkF m 39 #[.val (.ref a), .val (.int (8 : Int32)), .val (.int (7 : Int32)), .val (.int (1 : Int32)), .val (.int (home_r (kf 0) (61 : Int32)))] [(.long (kf 1)), (.ref a)]))
  obtain ⟨T21, X21, e21, st21⟩ := own_callXR X19 hx hZ (y := (⟨"com/example/tristream/tristream/LongIndex", "home", "(J)I"⟩ : MethodName)) hown (hw _ (List.mem_of_getElem? (i := 31) rfl)) (hw _ (List.mem_of_getElem? (i := 32) rfl)) (hw _ (List.mem_of_getElem? (i := 33) rfl)) (hw _ (List.mem_of_getElem? (i := 34) rfl)) (hw _ (List.mem_of_getElem? (i := 2) rfl)) (hw _ (List.mem_of_getElem? (i := 1) rfl)) (by decide) O18.exa (rm_home l Z a0 hw [] a (kf 1) kb nb1 (61 : Int32) (2 : Int32) h16 n0 Z16 O18) e19 (g := (mkF m 39 #[.val (.ref a), .val (.int (8 : Int32)), .val (.int (7 : Int32)), .val (.int (1 : Int32)), .val (.int (home_r (kf 0) (61 : Int32)))] [(.long (kf 1)), (.ref a)])) rfl (by rw [hml]; rfl) (argsL := [(.long (kf 1))]) (rest := []) (lenOf pd_pJrI rfl) rfl (W := 0) (by show 2 * 0 + _ ≤ _; exact Nat.le_of_eq rfl) (hb hby d7_39) (by decide) (by decide) (by decide) (by decide)
  refine own_by (st21) ?_
  show OEnds p e below s _ _ _ (T21.setTop (mkF m 42 #[.val (.ref a), .val (.int (8 : Int32)), .val (.int (7 : Int32)), .val (.int (1 : Int32)), .val (.int (home_r (kf 0) (61 : Int32)))] [(.int (home_r (kf 1) (61 : Int32)))]))
  refine own_by (fun _ k => XS.istore X21.here hx rfl (hb hby d7_42) rfl (l' := #[.val (.ref a), .val (.int (8 : Int32)), .val (.int (7 : Int32)), .val (.int (1 : Int32)), .val (.int (home_r (kf 1) (61 : Int32)))]) rfl k) ?_
  show OEnds p e below s _ _ _ (T21.setTop (mkF m 44 #[.val (.ref a), .val (.int (8 : Int32)), .val (.int (7 : Int32)), .val (.int (1 : Int32)), .val (.int (home_r (kf 1) (61 : Int32)))] []))
  refine own_by (fun _ k => XS.aloadN X21.here hx rfl (hb hby d7_44) rfl rfl k) ?_
  show OEnds p e below s _ _ _ (T21.setTop (mkF m 45 #[.val (.ref a), .val (.int (8 : Int32)), .val (.int (7 : Int32)), .val (.int (1 : Int32)), .val (.int (home_r (kf 1) (61 : Int32)))] [(.ref a)]))
  obtain ⟨T22, X22, e22, st22⟩ := getF X21 hx hZ hown (host := "") (Or.inl (hw _ (List.mem_of_getElem? (i := 13) rfl))) Via.refl e21 (O18.fld 1 rfl rfl) (g := (mkF m 45 #[.val (.ref a), .val (.int (8 : Int32)), .val (.int (7 : Int32)), .val (.int (1 : Int32)), .val (.int (home_r (kf 1) (61 : Int32)))] [(.ref a)])) rfl rfl (hb hby d7_45)
  refine own_by (st22) ?_
  show OEnds p e below s _ _ _ (T22.setTop (mkF m 48 #[.val (.ref a), .val (.int (8 : Int32)), .val (.int (7 : Int32)), .val (.int (1 : Int32)), .val (.int (home_r (kf 1) (61 : Int32)))] [(.ref nb1)]))
  refine own_by (fun _ k => XS.iload X22.here hx rfl (hb hby d7_48) rfl k) ?_
  show OEnds p e below s _ _ _ (T22.setTop (mkF m 50 #[.val (.ref a), .val (.int (8 : Int32)), .val (.int (7 : Int32)), .val (.int (1 : Int32)), .val (.int (home_r (kf 1) (61 : Int32)))] [(.int (home_r (kf 1) (61 : Int32))), (.ref nb1)]))
  refine own_by (own_iaload X22 hx hZ e22 F16 (hm 61 (kf 1)) (hm_spec z8 (kf 1)).1 (hm_spec z8 (kf 1)).2 (v := (.int ((updI (fun _ => (0 : Int32)) (hm 61 (kf 0)) (1 : Int32)) (hm 61 (kf 1))))) rfl (g := (mkF m 50 #[.val (.ref a), .val (.int (8 : Int32)), .val (.int (7 : Int32)), .val (.int (1 : Int32)), .val (.int (home_r (kf 1) (61 : Int32)))] [(.int (home_r (kf 1) (61 : Int32))), (.ref nb1)])) rfl rfl (hb hby d7_50)) ?_
  show OEnds p e below s _ _ _ (T22.setTop (mkF m 51 #[.val (.ref a), .val (.int (8 : Int32)), .val (.int (7 : Int32)), .val (.int (1 : Int32)), .val (.int (home_r (kf 1) (61 : Int32)))] [(.int ((updI (fun _ => (0 : Int32)) (hm 61 (kf 0)) (1 : Int32)) (hm 61 (kf 1))))]))
  by_cases hc51_23 : ((updI (fun _ => (0 : Int32)) (hm 61 (kf 0)) (1 : Int32)) (hm 61 (kf 1))) = (0 : Int32)
  · refine own_by (fun _ k => XS.ifYes X22.here hx rfl (pc0 := 51) (pc' := 65) rfl (hb hby d7_51) rfl ((if0 _ _).trans (teq hc51_23).1) (by decide) (by decide) k) ?_
    show OEnds p e below s _ _ _ (T22.setTop (mkF m 65 #[.val (.ref a), .val (.int (8 : Int32)), .val (.int (7 : Int32)), .val (.int (1 : Int32)), .val (.int (home_r (kf 1) (61 : Int32)))] []))
    refine own_by (fun _ k => XS.aloadN X22.here hx rfl (hb hby d7_65) rfl rfl k) ?_
    show OEnds p e below s _ _ _ (T22.setTop (mkF m 66 #[.val (.ref a), .val (.int (8 : Int32)), .val (.int (7 : Int32)), .val (.int (1 : Int32)), .val (.int (home_r (kf 1) (61 : Int32)))] [(.ref a)]))
    obtain ⟨T24, X24, e24, st24⟩ := getF X22 hx hZ hown (host := "") (Or.inl (hw _ (List.mem_of_getElem? (i := 13) rfl))) Via.refl e22 (O18.fld 1 rfl rfl) (g := (mkF m 66 #[.val (.ref a), .val (.int (8 : Int32)), .val (.int (7 : Int32)), .val (.int (1 : Int32)), .val (.int (home_r (kf 1) (61 : Int32)))] [(.ref a)])) rfl rfl (hb hby d7_66)
    refine own_by (st24) ?_
    show OEnds p e below s _ _ _ (T24.setTop (mkF m 69 #[.val (.ref a), .val (.int (8 : Int32)), .val (.int (7 : Int32)), .val (.int (1 : Int32)), .val (.int (home_r (kf 1) (61 : Int32)))] [(.ref nb1)]))
    refine own_by (fun _ k => XS.iload X24.here hx rfl (hb hby d7_69) rfl k) ?_
    show OEnds p e below s _ _ _ (T24.setTop (mkF m 71 #[.val (.ref a), .val (.int (8 : Int32)), .val (.int (7 : Int32)), .val (.int (1 : Int32)), .val (.int (home_r (kf 1) (61 : Int32)))] [(.int (home_r (kf 1) (61 : Int32))), (.ref nb1)]))
    refine own_by (fun _ k => XS.iloadN X24.here hx rfl (hb hby d7_71) rfl k) ?_
    show OEnds p e below s _ _ _ (T24.setTop (mkF m 72 #[.val (.ref a), .val (.int (8 : Int32)), .val (.int (7 : Int32)), .val (.int (1 : Int32)), .val (.int (home_r (kf 1) (61 : Int32)))] [(.int (1 : Int32)), (.int (home_r (kf 1) (61 : Int32))), (.ref nb1)]))
    refine own_by (fun _ k => XS.iconst X24.here hx rfl (hb hby d7_72) k) ?_
    show OEnds p e below s _ _ _ (T24.setTop (mkF m 73 #[.val (.ref a), .val (.int (8 : Int32)), .val (.int (7 : Int32)), .val (.int (1 : Int32)), .val (.int (home_r (kf 1) (61 : Int32)))] [(.int (1 : Int32)), (.int (1 : Int32)), (.int (home_r (kf 1) (61 : Int32))), (.ref nb1)]))
    refine own_by (fun _ k => XS.iadd X24.here hx rfl (hb hby d7_73) rfl k) ?_
    show OEnds p e below s _ _ _ (T24.setTop (mkF m 74 #[.val (.ref a), .val (.int (8 : Int32)), .val (.int (7 : Int32)), .val (.int (1 : Int32)), .val (.int (home_r (kf 1) (61 : Int32)))] [(.int (2 : Int32)), (.int (home_r (kf 1) (61 : Int32))), (.ref nb1)]))
    obtain ⟨T25, h25, X25, e25, W25, st25⟩ := own_iastore X24 hx hZ e24 F16 (hm 61 (kf 1)) (hm_spec z8 (kf 1)).1 (hm_spec z8 (kf 1)).2 (g := (mkF m 74 #[.val (.ref a), .val (.int (8 : Int32)), .val (.int (7 : Int32)), .val (.int (1 : Int32)), .val (.int (home_r (kf 1) (61 : Int32)))] [(.int (2 : Int32)), (.int (home_r (kf 1) (61 : Int32))), (.ref nb1)])) rfl rfl (hb hby d7_74)
    refine own_by (st25) ?_
    have F25 : FA Z h25 nb1 .int 8 (fun i => .int ((updI (updI (fun _ => (0 : Int32)) (hm 61 (kf 0)) (1 : Int32)) (hm 61 (kf 1)) (2 : Int32)) i)) := F16.setI W25
    obtain ⟨f25, ef25⟩ : ∃ fz_ : Nat → Int32, fz_ = (updI (updI (fun _ => (0 : Int32)) (hm 61 (kf 0)) (1 : Int32)) (hm 61 (kf 1)) (2 : Int32)) := ⟨_, rfl⟩
    rw [← ef25] at F25
    have N25 := Fr.snoc X25 N16 g_nb1
    have Z25 : n0 ≤ h25.size := Nat.le_trans Z16 (Keep.of_wr W25).1
    have K25 : Keep h0 h25 [a] := K16.wr W25 (Or.inr sz_nb1)
    show OEnds p e below s _ _ _ (T25.setTop (mkF m 75 #[.val (.ref a), .val (.int (8 : Int32)), .val (.int (7 : Int32)), .val (.int (1 : Int32)), .val (.int (home_r (kf 1) (61 : Int32)))] []))
    refine own_by (fun _ k => XS.iinc X25.here hx rfl (hb hby d7_75) rfl (l' := #[.val (.ref a), .val (.int (8 : Int32)), .val (.int (7 : Int32)), .val (.int (2 : Int32)), .val (.int (home_r (kf 1) (61 : Int32)))]) rfl k) ?_
    show OEnds p e below s _ _ _ (T25.setTop (mkF m 78 #[.val (.ref a), .val (.int (8 : Int32)), .val (.int (7 : Int32)), .val (.int (2 : Int32)), .val (.int (home_r (kf 1) (61 : Int32)))] []))
    refine own_by (fun _ k => XS.goto X25.here hx rfl (pc0 := 78) (pc' := 24) rfl (hb hby d7_78) (by decide) (by decide) k) ?_
    show OEnds p e below s _ _ _ (T25.setTop (mkF m 24 #[.val (.ref a), .val (.int (8 : Int32)), .val (.int (7 : Int32)), .val (.int (2 : Int32)), .val (.int (home_r (kf 1) (61 : Int32)))] []))
    refine own_by (fun _ k => XS.iloadN X25.here hx rfl (hb hby d7_24) rfl k) ?_
    show OEnds p e below s _ _ _ (T25.setTop (mkF m 25 #[.val (.ref a), .val (.int (8 : Int32)), .val (.int (7 : Int32)), .val (.int (2 : Int32)), .val (.int (home_r (kf 1) (61 : Int32)))] [(.int (2 : Int32))]))
    refine own_by (fun _ k => XS.aloadN X25.here hx rfl (hb hby d7_25) rfl rfl k) ?_
    show OEnds p e below s _ _ _ (T25.setTop (mkF m 26 #[.val (.ref a), .val (.int (8 : Int32)), .val (.int (7 : Int32)), .val (.int (2 : Int32)), .val (.int (home_r (kf 1) (61 : Int32)))] [(.ref a), (.int (2 : Int32))]))
    have O27 : Obj Z h25 a "com/example/tristream/tristream/LongIndex" sch_li [(.ref kb), (.ref nb1), (.int (61 : Int32)), (.int (2 : Int32))] := (O18.other W25 (Nat.ne_of_lt (Nat.lt_of_lt_of_le O0.lt (Nat.le_of_eq g1.symm))))
    obtain ⟨T26, X26, e26, st26⟩ := getF X25 hx hZ hown (host := "") (Or.inl (hw _ (List.mem_of_getElem? (i := 36) rfl))) Via.refl e25 (O27.fld 3 rfl rfl) (g := (mkF m 26 #[.val (.ref a), .val (.int (8 : Int32)), .val (.int (7 : Int32)), .val (.int (2 : Int32)), .val (.int (home_r (kf 1) (61 : Int32)))] [(.ref a), (.int (2 : Int32))])) rfl rfl (hb hby d7_26)
    refine own_by (st26) ?_
    show OEnds p e below s _ _ _ (T26.setTop (mkF m 29 #[.val (.ref a), .val (.int (8 : Int32)), .val (.int (7 : Int32)), .val (.int (2 : Int32)), .val (.int (home_r (kf 1) (61 : Int32)))] [(.int (2 : Int32)), (.int (2 : Int32))]))
    refine own_by (fun _ k => XS.icmpYes X26.here hx rfl (pc0 := 29) (pc' := 81) rfl (hb hby d7_29) rfl (flt (by decide : ¬ ((2 : Int32) < (2 : Int32)))).2.1 (by decide) (by decide) k) ?_
    show OEnds p e below s _ _ _ (T26.setTop (mkF m 81 #[.val (.ref a), .val (.int (8 : Int32)), .val (.int (7 : Int32)), .val (.int (2 : Int32)), .val (.int (home_r (kf 1) (61 : Int32)))] []))
    exact own_retV X26 hx hlk Bd.returns (hb hby d7_81) (by rw [e26]; subst ef25; exact ⟨rfl, N25, K25, nb1, _, sz_nb1, g_nb1, rs_nn _ _, (rs8 (d := 0) rfl (Or.inl ⟨rfl, rfl, rs_ne hc51_23⟩)), O27, F25⟩) (by decide) (by decide)
  · refine own_by (fun _ k => XS.ifNo X22.here hx rfl (hb hby d7_51) rfl ((if0 _ _).trans (feq hc51_23).1) k) ?_
    show OEnds p e below s _ _ _ (T22.setTop (mkF m 54 #[.val (.ref a), .val (.int (8 : Int32)), .val (.int (7 : Int32)), .val (.int (1 : Int32)), .val (.int (home_r (kf 1) (61 : Int32)))] []))
    refine own_by (fun _ k => XS.iload X22.here hx rfl (hb hby d7_54) rfl k) ?_
    show OEnds p e below s _ _ _ (T22.setTop (mkF m 56 #[.val (.ref a), .val (.int (8 : Int32)), .val (.int (7 : Int32)), .val (.int (1 : Int32)), .val (.int (home_r (kf 1) (61 : Int32)))] [(.int (home_r (kf 1) (61 : Int32)))]))
    refine own_by (fun _ k => XS.iconst X22.here hx rfl (hb hby d7_56) k) ?_
    show OEnds p e below s _ _ _ (T22.setTop (mkF m 57 #[.val (.ref a), .val (.int (8 : Int32)), .val (.int (7 : Int32)), .val (.int (1 : Int32)), .val (.int (home_r (kf 1) (61 : Int32)))] [(.int (1 : Int32)), (.int (home_r (kf 1) (61 : Int32)))]))
    refine own_by (fun _ k => XS.iadd X22.here hx rfl (hb hby d7_57) rfl k) ?_
    show OEnds p e below s _ _ _ (T22.setTop (mkF m 58 #[.val (.ref a), .val (.int (8 : Int32)), .val (.int (7 : Int32)), .val (.int (1 : Int32)), .val (.int (home_r (kf 1) (61 : Int32)))] [(.int ((home_r (kf 1) (61 : Int32)) + (1 : Int32)))]))
    refine own_by (fun _ k => XS.iloadN X22.here hx rfl (hb hby d7_58) rfl k) ?_
    show OEnds p e below s _ _ _ (T22.setTop (mkF m 59 #[.val (.ref a), .val (.int (8 : Int32)), .val (.int (7 : Int32)), .val (.int (1 : Int32)), .val (.int (home_r (kf 1) (61 : Int32)))] [(.int (7 : Int32)), (.int ((home_r (kf 1) (61 : Int32)) + (1 : Int32)))]))
    refine own_by (fun _ k => XS.iand X22.here hx rfl (hb hby d7_59) rfl k) ?_
    show OEnds p e below s _ _ _ (T22.setTop (mkF m 60 #[.val (.ref a), .val (.int (8 : Int32)), .val (.int (7 : Int32)), .val (.int (1 : Int32)), .val (.int (home_r (kf 1) (61 : Int32)))] [(.int (((home_r (kf 1) (61 : Int32)) + (1 : Int32)) &&& (7 : Int32)))]))
    refine own_by (fun _ k => XS.istore X22.here hx rfl (hb hby d7_60) rfl (l' := #[.val (.ref a), .val (.int (8 : Int32)), .val (.int (7 : Int32)), .val (.int (1 : Int32)), .val (.int (((home_r (kf 1) (61 : Int32)) + (1 : Int32)) &&& (7 : Int32)))]) rfl k) ?_
    show OEnds p e below s _ _ _ (T22.setTop (mkF m 62 #[.val (.ref a), .val (.int (8 : Int32)), .val (.int (7 : Int32)), .val (.int (1 : Int32)), .val (.int (((home_r (kf 1) (61 : Int32)) + (1 : Int32)) &&& (7 : Int32)))] []))
    refine own_by (fun _ k => XS.goto X22.here hx rfl (pc0 := 62) (pc' := 44) rfl (hb hby d7_62) (by decide) (by decide) k) ?_
    show OEnds p e below s _ _ _ (T22.setTop (mkF m 44 #[.val (.ref a), .val (.int (8 : Int32)), .val (.int (7 : Int32)), .val (.int (1 : Int32)), .val (.int (((home_r (kf 1) (61 : Int32)) + (1 : Int32)) &&& (7 : Int32)))] []))
    refine own_by (fun _ k => XS.aloadN X22.here hx rfl (hb hby d7_44) rfl rfl k) ?_
    show OEnds p e below s _ _ _ (T22.setTop (mkF m 45 #[.val (.ref a), .val (.int (8 : Int32)), .val (.int (7 : Int32)), .val (.int (1 : Int32)), .val (.int (((home_r (kf 1) (61 : Int32)) + (1 : Int32)) &&& (7 : Int32)))] [(.ref a)]))
    obtain ⟨T28, X28, e28, st28⟩ := getF X22 hx hZ hown (host := "") (Or.inl (hw _ (List.mem_of_getElem? (i := 13) rfl))) Via.refl e22 (O18.fld 1 rfl rfl) (g := (mkF m 45 #[.val (.ref a), .val (.int (8 : Int32)), .val (.int (7 : Int32)), .val (.int (1 : Int32)), .val (.int (((home_r (kf 1) (61 : Int32)) + (1 : Int32)) &&& (7 : Int32)))] [(.ref a)])) rfl rfl (hb hby d7_45)
    refine own_by (st28) ?_
    show OEnds p e below s _ _ _ (T28.setTop (mkF m 48 #[.val (.ref a), .val (.int (8 : Int32)), .val (.int (7 : Int32)), .val (.int (1 : Int32)), .val (.int (((home_r (kf 1) (61 : Int32)) + (1 : Int32)) &&& (7 : Int32)))] [(.ref nb1)]))
    refine own_by (fun _ k => XS.iload X28.here hx rfl (hb hby d7_48) rfl k) ?_
    show OEnds p e below s _ _ _ (T28.setTop (mkF m 50 #[.val (.ref a), .val (.int (8 : Int32)), .val (.int (7 : Int32)), .val (.int (1 : Int32)), .val (.int (((home_r (kf 1) (61 : Int32)) + (1 : Int32)) &&& (7 : Int32)))] [(.int (((home_r (kf 1) (61 : Int32)) + (1 : Int32)) &&& (7 : Int32))), (.ref nb1)]))
    refine own_by (own_iaload X28 hx hZ e28 F16 (((hm 61 (kf 1)) + 1) % 8) (nxt8 (hm_spec z8 (kf 1)).1 (hm_spec z8 (kf 1)).2) (Nat.mod_lt _ (by decide)) (v := (.int ((updI (fun _ => (0 : Int32)) (hm 61 (kf 0)) (1 : Int32)) (((hm 61 (kf 1)) + 1) % 8)))) rfl (g := (mkF m 50 #[.val (.ref a), .val (.int (8 : Int32)), .val (.int (7 : Int32)), .val (.int (1 : Int32)), .val (.int (((home_r (kf 1) (61 : Int32)) + (1 : Int32)) &&& (7 : Int32)))] [(.int (((home_r (kf 1) (61 : Int32)) + (1 : Int32)) &&& (7 : Int32))), (.ref nb1)])) rfl rfl (hb hby d7_50)) ?_
    show OEnds p e below s _ _ _ (T28.setTop (mkF m 51 #[.val (.ref a), .val (.int (8 : Int32)), .val (.int (7 : Int32)), .val (.int (1 : Int32)), .val (.int (((home_r (kf 1) (61 : Int32)) + (1 : Int32)) &&& (7 : Int32)))] [(.int ((updI (fun _ => (0 : Int32)) (hm 61 (kf 0)) (1 : Int32)) (((hm 61 (kf 1)) + 1) % 8)))]))
    refine own_by (fun _ k => XS.ifYes X28.here hx rfl (pc0 := 51) (pc' := 65) rfl (hb hby d7_51) rfl ((if0 _ _).trans (teq (rs_free (hm_spec z8 (kf 1)).2 hc51_23)).1) (by decide) (by decide) k) ?_
    show OEnds p e below s _ _ _ (T28.setTop (mkF m 65 #[.val (.ref a), .val (.int (8 : Int32)), .val (.int (7 : Int32)), .val (.int (1 : Int32)), .val (.int (((home_r (kf 1) (61 : Int32)) + (1 : Int32)) &&& (7 : Int32)))] []))
    refine own_by (fun _ k => XS.aloadN X28.here hx rfl (hb hby d7_65) rfl rfl k) ?_
    show OEnds p e below s _ _ _ (T28.setTop (mkF m 66 #[.val (.ref a), .val (.int (8 : Int32)), .val (.int (7 : Int32)), .val (.int (1 : Int32)), .val (.int (((home_r (kf 1) (61 : Int32)) + (1 : Int32)) &&& (7 : Int32)))] [(.ref a)]))
    obtain ⟨T29, X29, e29, st29⟩ := getF X28 hx hZ hown (host := "") (Or.inl (hw _ (List.mem_of_getElem? (i := 13) rfl))) Via.refl e28 (O18.fld 1 rfl rfl) (g := (mkF m 66 #[.val (.ref a), .val (.int (8 : Int32)), .val (.int (7 : Int32)), .val (.int (1 : Int32)), .val (.int (((home_r (kf 1) (61 : Int32)) + (1 : Int32)) &&& (7 : Int32)))] [(.ref a)])) rfl rfl (hb hby d7_66)
    refine own_by (st29) ?_
    show OEnds p e below s _ _ _ (T29.setTop (mkF m 69 #[.val (.ref a), .val (.int (8 : Int32)), .val (.int (7 : Int32)), .val (.int (1 : Int32)), .val (.int (((home_r (kf 1) (61 : Int32)) + (1 : Int32)) &&& (7 : Int32)))] [(.ref nb1)]))
    refine own_by (fun _ k => XS.iload X29.here hx rfl (hb hby d7_69) rfl k) ?_
    show OEnds p e below s _ _ _ (T29.setTop (mkF m 71 #[.val (.ref a), .val (.int (8 : Int32)), .val (.int (7 : Int32)), .val (.int (1 : Int32)), .val (.int (((home_r (kf 1) (61 : Int32)) + (1 : Int32)) &&& (7 : Int32)))] [(.int (((home_r (kf 1) (61 : Int32)) + (1 : Int32)) &&& (7 : Int32))), (.ref nb1)]))
    refine own_by (fun _ k => XS.iloadN X29.here hx rfl (hb hby d7_71) rfl k) ?_
    show OEnds p e below s _ _ _ (T29.setTop (mkF m 72 #[.val (.ref a), .val (.int (8 : Int32)), .val (.int (7 : Int32)), .val (.int (1 : Int32)), .val (.int (((home_r (kf 1) (61 : Int32)) + (1 : Int32)) &&& (7 : Int32)))] [(.int (1 : Int32)), (.int (((home_r (kf 1) (61 : Int32)) + (1 : Int32)) &&& (7 : Int32))), (.ref nb1)]))
    refine own_by (fun _ k => XS.iconst X29.here hx rfl (hb hby d7_72) k) ?_
    show OEnds p e below s _ _ _ (T29.setTop (mkF m 73 #[.val (.ref a), .val (.int (8 : Int32)), .val (.int (7 : Int32)), .val (.int (1 : Int32)), .val (.int (((home_r (kf 1) (61 : Int32)) + (1 : Int32)) &&& (7 : Int32)))] [(.int (1 : Int32)), (.int (1 : Int32)), (.int (((home_r (kf 1) (61 : Int32)) + (1 : Int32)) &&& (7 : Int32))), (.ref nb1)]))
    refine own_by (fun _ k => XS.iadd X29.here hx rfl (hb hby d7_73) rfl k) ?_
    show OEnds p e below s _ _ _ (T29.setTop (mkF m 74 #[.val (.ref a), .val (.int (8 : Int32)), .val (.int (7 : Int32)), .val (.int (1 : Int32)), .val (.int (((home_r (kf 1) (61 : Int32)) + (1 : Int32)) &&& (7 : Int32)))] [(.int (2 : Int32)), (.int (((home_r (kf 1) (61 : Int32)) + (1 : Int32)) &&& (7 : Int32))), (.ref nb1)]))
    obtain ⟨T30, h30, X30, e30, W30, st30⟩ := own_iastore X29 hx hZ e29 F16 (((hm 61 (kf 1)) + 1) % 8) (nxt8 (hm_spec z8 (kf 1)).1 (hm_spec z8 (kf 1)).2) (Nat.mod_lt _ (by decide)) (g := (mkF m 74 #[.val (.ref a), .val (.int (8 : Int32)), .val (.int (7 : Int32)), .val (.int (1 : Int32)), .val (.int (((home_r (kf 1) (61 : Int32)) + (1 : Int32)) &&& (7 : Int32)))] [(.int (2 : Int32)), (.int (((home_r (kf 1) (61 : Int32)) + (1 : Int32)) &&& (7 : Int32))), (.ref nb1)])) rfl rfl (hb hby d7_74)
    refine own_by (st30) ?_
    have F30 : FA Z h30 nb1 .int 8 (fun i => .int ((updI (updI (fun _ => (0 : Int32)) (hm 61 (kf 0)) (1 : Int32)) (((hm 61 (kf 1)) + 1) % 8) (2 : Int32)) i)) := F16.setI W30
    obtain ⟨f30, ef30⟩ : ∃ fz_ : Nat → Int32, fz_ = (updI (updI (fun _ => (0 : Int32)) (hm 61 (kf 0)) (1 : Int32)) (((hm 61 (kf 1)) + 1) % 8) (2 : Int32)) := ⟨_, rfl⟩
    rw [← ef30] at F30
    have N30 := Fr.snoc X30 N16 g_nb1
    have Z30 : n0 ≤ h30.size := Nat.le_trans Z16 (Keep.of_wr W30).1
    have K30 : Keep h0 h30 [a] := K16.wr W30 (Or.inr sz_nb1)
    show OEnds p e below s _ _ _ (T30.setTop (mkF m 75 #[.val (.ref a), .val (.int (8 : Int32)), .val (.int (7 : Int32)), .val (.int (1 : Int32)), .val (.int (((home_r (kf 1) (61 : Int32)) + (1 : Int32)) &&& (7 : Int32)))] []))
    refine own_by (fun _ k => XS.iinc X30.here hx rfl (hb hby d7_75) rfl (l' := #[.val (.ref a), .val (.int (8 : Int32)), .val (.int (7 : Int32)), .val (.int (2 : Int32)), .val (.int (((home_r (kf 1) (61 : Int32)) + (1 : Int32)) &&& (7 : Int32)))]) rfl k) ?_
    show OEnds p e below s _ _ _ (T30.setTop (mkF m 78 #[.val (.ref a), .val (.int (8 : Int32)), .val (.int (7 : Int32)), .val (.int (2 : Int32)), .val (.int (((home_r (kf 1) (61 : Int32)) + (1 : Int32)) &&& (7 : Int32)))] []))
    refine own_by (fun _ k => XS.goto X30.here hx rfl (pc0 := 78) (pc' := 24) rfl (hb hby d7_78) (by decide) (by decide) k) ?_
    show OEnds p e below s _ _ _ (T30.setTop (mkF m 24 #[.val (.ref a), .val (.int (8 : Int32)), .val (.int (7 : Int32)), .val (.int (2 : Int32)), .val (.int (((home_r (kf 1) (61 : Int32)) + (1 : Int32)) &&& (7 : Int32)))] []))
    refine own_by (fun _ k => XS.iloadN X30.here hx rfl (hb hby d7_24) rfl k) ?_
    show OEnds p e below s _ _ _ (T30.setTop (mkF m 25 #[.val (.ref a), .val (.int (8 : Int32)), .val (.int (7 : Int32)), .val (.int (2 : Int32)), .val (.int (((home_r (kf 1) (61 : Int32)) + (1 : Int32)) &&& (7 : Int32)))] [(.int (2 : Int32))]))
    refine own_by (fun _ k => XS.aloadN X30.here hx rfl (hb hby d7_25) rfl rfl k) ?_
    show OEnds p e below s _ _ _ (T30.setTop (mkF m 26 #[.val (.ref a), .val (.int (8 : Int32)), .val (.int (7 : Int32)), .val (.int (2 : Int32)), .val (.int (((home_r (kf 1) (61 : Int32)) + (1 : Int32)) &&& (7 : Int32)))] [(.ref a), (.int (2 : Int32))]))
    have O32 : Obj Z h30 a "com/example/tristream/tristream/LongIndex" sch_li [(.ref kb), (.ref nb1), (.int (61 : Int32)), (.int (2 : Int32))] := (O18.other W30 (Nat.ne_of_lt (Nat.lt_of_lt_of_le O0.lt (Nat.le_of_eq g1.symm))))
    obtain ⟨T31, X31, e31, st31⟩ := getF X30 hx hZ hown (host := "") (Or.inl (hw _ (List.mem_of_getElem? (i := 36) rfl))) Via.refl e30 (O32.fld 3 rfl rfl) (g := (mkF m 26 #[.val (.ref a), .val (.int (8 : Int32)), .val (.int (7 : Int32)), .val (.int (2 : Int32)), .val (.int (((home_r (kf 1) (61 : Int32)) + (1 : Int32)) &&& (7 : Int32)))] [(.ref a), (.int (2 : Int32))])) rfl rfl (hb hby d7_26)
    refine own_by (st31) ?_
    show OEnds p e below s _ _ _ (T31.setTop (mkF m 29 #[.val (.ref a), .val (.int (8 : Int32)), .val (.int (7 : Int32)), .val (.int (2 : Int32)), .val (.int (((home_r (kf 1) (61 : Int32)) + (1 : Int32)) &&& (7 : Int32)))] [(.int (2 : Int32)), (.int (2 : Int32))]))
    refine own_by (fun _ k => XS.icmpYes X31.here hx rfl (pc0 := 29) (pc' := 81) rfl (hb hby d7_29) rfl (flt (by decide : ¬ ((2 : Int32) < (2 : Int32)))).2.1 (by decide) (by decide) k) ?_
    show OEnds p e below s _ _ _ (T31.setTop (mkF m 81 #[.val (.ref a), .val (.int (8 : Int32)), .val (.int (7 : Int32)), .val (.int (2 : Int32)), .val (.int (((home_r (kf 1) (61 : Int32)) + (1 : Int32)) &&& (7 : Int32)))] []))
    exact own_retV X31 hx hlk Bd.returns (hb hby d7_81) (by rw [e31]; subst ef30; exact ⟨rfl, N30, K30, nb1, _, sz_nb1, g_nb1, rs_nn _ _, (rs8 (d := 1) rfl (Or.inr ⟨rfl, (rs_eq hc51_23).symm, by rw [rs_eq hc51_23]⟩)), O32, F30⟩) (by decide) (by decide)
theorem d4_0 : decode prog_25_method_5_code 0 = .ok (.aload_n 0, 1) := by decide +kernel
theorem d4_1 : decode prog_25_method_5_code 1 = .ok (.lload_n 1, 1) := by decide +kernel
theorem d4_2 : decode prog_25_method_5_code 2 = .ok (.invokevirtual 30, 3) := by decide +kernel
theorem d4_5 : decode prog_25_method_5_code 5 = .ok (.istore_n 3, 1) := by decide +kernel
theorem d4_6 : decode prog_25_method_5_code 6 = .ok (.aload_n 0, 1) := by decide +kernel
theorem d4_7 : decode prog_25_method_5_code 7 = .ok (.getfield 13, 3) := by decide +kernel
theorem d4_10 : decode prog_25_method_5_code 10 = .ok (.iload_n 3, 1) := by decide +kernel
theorem d4_11 : decode prog_25_method_5_code 11 = .ok (.iaload, 1) := by decide +kernel
theorem d4_12 : decode prog_25_method_5_code 12 = .ok (.ifCond .eq 12, 3) := by decide +kernel
theorem d4_15 : decode prog_25_method_5_code 15 = .ok (.aload_n 0, 1) := by decide +kernel
theorem d4_16 : decode prog_25_method_5_code 16 = .ok (.getfield 13, 3) := by decide +kernel
theorem d4_19 : decode prog_25_method_5_code 19 = .ok (.iload_n 3, 1) := by decide +kernel
theorem d4_20 : decode prog_25_method_5_code 20 = .ok (.iaload, 1) := by decide +kernel
theorem d4_21 : decode prog_25_method_5_code 21 = .ok (.iconst 1, 1) := by decide +kernel
theorem d4_22 : decode prog_25_method_5_code 22 = .ok (.isub, 1) := by decide +kernel
theorem d4_23 : decode prog_25_method_5_code 23 = .ok (.ireturn, 1) := by decide +kernel
theorem d4_24 : decode prog_25_method_5_code 24 = .ok (.aload_n 0, 1) := by decide +kernel
theorem d4_25 : decode prog_25_method_5_code 25 = .ok (.getfield 27, 3) := by decide +kernel
theorem d4_28 : decode prog_25_method_5_code 28 = .ok (.iconst 1, 1) := by decide +kernel
theorem d4_29 : decode prog_25_method_5_code 29 = .ok (.iadd, 1) := by decide +kernel
theorem d4_30 : decode prog_25_method_5_code 30 = .ok (.iconst 2, 1) := by decide +kernel
theorem d4_31 : decode prog_25_method_5_code 31 = .ok (.imul, 1) := by decide +kernel
theorem d4_32 : decode prog_25_method_5_code 32 = .ok (.aload_n 0, 1) := by decide +kernel
theorem d4_33 : decode prog_25_method_5_code 33 = .ok (.getfield 13, 3) := by decide +kernel
theorem d4_36 : decode prog_25_method_5_code 36 = .ok (.arraylength, 1) := by decide +kernel
theorem d4_37 : decode prog_25_method_5_code 37 = .ok (.if_icmp .le 40, 3) := by decide +kernel
theorem d4_40 : decode prog_25_method_5_code 40 = .ok (.aload_n 0, 1) := by decide +kernel
theorem d4_41 : decode prog_25_method_5_code 41 = .ok (.getfield 13, 3) := by decide +kernel
theorem d4_44 : decode prog_25_method_5_code 44 = .ok (.arraylength, 1) := by decide +kernel
theorem d4_45 : decode prog_25_method_5_code 45 = .ok (.ldc 34, 2) := by decide +kernel
theorem d4_47 : decode prog_25_method_5_code 47 = .ok (.if_icmp .ne 13, 3) := by decide +kernel
theorem d4_60 : decode prog_25_method_5_code 60 = .ok (.aload_n 0, 1) := by decide +kernel
theorem d4_61 : decode prog_25_method_5_code 61 = .ok (.aload_n 0, 1) := by decide +kernel
theorem d4_62 : decode prog_25_method_5_code 62 = .ok (.getfield 13, 3) := by decide +kernel
theorem d4_65 : decode prog_25_method_5_code 65 = .ok (.arraylength, 1) := by decide +kernel
theorem d4_66 : decode prog_25_method_5_code 66 = .ok (.iconst 2, 1) := by decide +kernel
theorem d4_67 : decode prog_25_method_5_code 67 = .ok (.imul, 1) := by decide +kernel
theorem d4_68 : decode prog_25_method_5_code 68 = .ok (.invokevirtual 42, 3) := by decide +kernel
theorem d4_71 : decode prog_25_method_5_code 71 = .ok (.aload_n 0, 1) := by decide +kernel
theorem d4_72 : decode prog_25_method_5_code 72 = .ok (.lload_n 1, 1) := by decide +kernel
theorem d4_73 : decode prog_25_method_5_code 73 = .ok (.invokevirtual 30, 3) := by decide +kernel
theorem d4_76 : decode prog_25_method_5_code 76 = .ok (.istore_n 3, 1) := by decide +kernel
theorem d4_77 : decode prog_25_method_5_code 77 = .ok (.aload_n 0, 1) := by decide +kernel
theorem d4_78 : decode prog_25_method_5_code 78 = .ok (.getfield 27, 3) := by decide +kernel
theorem d4_81 : decode prog_25_method_5_code 81 = .ok (.aload_n 0, 1) := by decide +kernel
theorem d4_82 : decode prog_25_method_5_code 82 = .ok (.getfield 9, 3) := by decide +kernel
theorem d4_85 : decode prog_25_method_5_code 85 = .ok (.arraylength, 1) := by decide +kernel
theorem d4_86 : decode prog_25_method_5_code 86 = .ok (.if_icmp .ne 20, 3) := by decide +kernel
theorem d4_89 : decode prog_25_method_5_code 89 = .ok (.aload_n 0, 1) := by decide +kernel
theorem d4_90 : decode prog_25_method_5_code 90 = .ok (.aload_n 0, 1) := by decide +kernel
theorem d4_91 : decode prog_25_method_5_code 91 = .ok (.getfield 9, 3) := by decide +kernel
theorem d4_94 : decode prog_25_method_5_code 94 = .ok (.aload_n 0, 1) := by decide +kernel
theorem d4_95 : decode prog_25_method_5_code 95 = .ok (.getfield 27, 3) := by decide +kernel
theorem d4_98 : decode prog_25_method_5_code 98 = .ok (.iconst 2, 1) := by decide +kernel
theorem d4_99 : decode prog_25_method_5_code 99 = .ok (.imul, 1) := by decide +kernel
theorem d4_100 : decode prog_25_method_5_code 100 = .ok (.invokestatic 46, 3) := by decide +kernel
theorem d4_103 : decode prog_25_method_5_code 103 = .ok (.putfield 9, 3) := by decide +kernel
theorem d4_106 : decode prog_25_method_5_code 106 = .ok (.aload_n 0, 1) := by decide +kernel
theorem d4_107 : decode prog_25_method_5_code 107 = .ok (.getfield 9, 3) := by decide +kernel
theorem d4_110 : decode prog_25_method_5_code 110 = .ok (.aload_n 0, 1) := by decide +kernel
theorem d4_111 : decode prog_25_method_5_code 111 = .ok (.getfield 27, 3) := by decide +kernel
theorem d4_114 : decode prog_25_method_5_code 114 = .ok (.lload_n 1, 1) := by decide +kernel
theorem d4_115 : decode prog_25_method_5_code 115 = .ok (.lastore, 1) := by decide +kernel
theorem d4_116 : decode prog_25_method_5_code 116 = .ok (.aload_n 0, 1) := by decide +kernel
theorem d4_117 : decode prog_25_method_5_code 117 = .ok (.dup, 1) := by decide +kernel
theorem d4_118 : decode prog_25_method_5_code 118 = .ok (.getfield 27, 3) := by decide +kernel
theorem d4_121 : decode prog_25_method_5_code 121 = .ok (.iconst 1, 1) := by decide +kernel
theorem d4_122 : decode prog_25_method_5_code 122 = .ok (.iadd, 1) := by decide +kernel
theorem d4_123 : decode prog_25_method_5_code 123 = .ok (.putfield 27, 3) := by decide +kernel
theorem d4_126 : decode prog_25_method_5_code 126 = .ok (.aload_n 0, 1) := by decide +kernel
theorem d4_127 : decode prog_25_method_5_code 127 = .ok (.getfield 13, 3) := by decide +kernel
theorem d4_130 : decode prog_25_method_5_code 130 = .ok (.iload_n 3, 1) := by decide +kernel
theorem d4_131 : decode prog_25_method_5_code 131 = .ok (.aload_n 0, 1) := by decide +kernel
theorem d4_132 : decode prog_25_method_5_code 132 = .ok (.getfield 27, 3) := by decide +kernel
theorem d4_135 : decode prog_25_method_5_code 135 = .ok (.iastore, 1) := by decide +kernel
theorem d4_136 : decode prog_25_method_5_code 136 = .ok (.aload_n 0, 1) := by decide +kernel
theorem d4_137 : decode prog_25_method_5_code 137 = .ok (.getfield 27, 3) := by decide +kernel
theorem d4_140 : decode prog_25_method_5_code 140 = .ok (.iconst 1, 1) := by decide +kernel
theorem d4_141 : decode prog_25_method_5_code 141 = .ok (.isub, 1) := by decide +kernel
theorem d4_142 : decode prog_25_method_5_code 142 = .ok (.ireturn, 1) := by decide +kernel
theorem pn_4 : plainName "com/example/tristream/tristream/LongIndex" = true := by first | (simp [plainName, overriddenIn]; done) | decide +kernel
theorem ef_4 (m : MethodId) (x0 : Addr) (x1 : Int64) : entryFrame m #[(.ref x0), (.long x1)] 4 = mkF m 0 #[.val (.ref x0), .val (.long x1), .second, .unset] [] := by first | (simp [entryFrame, mkF, argsToLocals, Value.category]; done) | rfl
def Q_liadd (Z : State) (a kb sb : Addr) (kk : Int64) (ks : List Int64) (h0 : Heap) (n0 : Nat) (r : Option Value) (h : Heap) (L : List Loc) : Prop := ∃ rv : Int32, r = some (.int rv) ∧ Fr n0 L ∧ Keep h0 h [a, kb, sb] ∧ ∃ (kb' sb' : Addr) (z' sf' : Int32) (kn' : Nat) (kf' : Nat → Int64) (S' : Nat) (sl' : Nat → Int32) (ks' : List Int64), (kb' = kb ∨ h0.size ≤ kb') ∧ (sb' = sb ∨ h0.size ≤ sb') ∧ n0 ≤ kb' ∧ n0 ≤ sb' ∧ AddR ks kk ks' ∧ IdxR ks' kk rv ∧ (ks'.length ≤ 2 → S' = 4 ∧ sf' = 62 ∧ kn' = 2) ∧ LI S' sf' z' sl' kf' kn' ks' ∧ Obj Z h a "com/example/tristream/tristream/LongIndex" sch_li [(.ref kb'), (.ref sb'), (.int sf'), (.int z')] ∧ FA Z h kb' .long kn' (fun i => .long (kf' i)) ∧ FA Z h sb' .int S' (fun i => .int (sl' i))
set_option maxRecDepth 65536 in
set_option maxHeartbeats 40000000 in
theorem rm_liadd (l : Launch) (Z : State) (a0 : Array Value) (hw : ∀ d ∈ tables_1, d.before a0 Z = true) (ws : List Jvm.Cond) (a : Addr) (kk : Int64) (kb : Addr) (sb : Addr) (z : Int32) (kf : Nat → Int64) (sl : Nat → Int32) (ks : List Int64) (h0 : Heap) (n0 : Nat) (Z0 : n0 ≤ h0.size) (O0 : Obj Z h0 a "com/example/tristream/tristream/LongIndex" sch_li [(.ref kb), (.ref sb), (.int (62 : Int32)), (.int z)]) (F_kb : FA Z h0 kb .long 2 (fun i => .long (kf i))) (F_sb : FA Z h0 sb .int 4 (fun i => .int (sl i))) (g_a : n0 ≤ a) (g_kb : n0 ≤ kb) (g_sb : n0 ≤ sb) (hLI : LI 4 62 z sl kf 2 ks) :
    MetFree l (⟨"com/example/tristream/tristream/LongIndex", "add", "(J)I"⟩ : MethodName) (head1 (Jvm.Cond.code (⟨"com/example/tristream/tristream/LongIndex", "add", "(J)I"⟩ : MethodName) prog_25_method_5_code 4 (some .int) :: ws) ({ frames := 2, cells := 2, slots := 12, locals := 33 } : Room)) (fun a_ U => a_ = #[(.ref a), (.long kk)] ∧ Z.Warmed39 U.vm ∧ U.heap = h0) (fun _ _ _ _ _ => True) (fun _ U o U' => ∃ v_ L_, o = .returned v_ ∧ Q_liadd Z a kb sb kk ks h0 n0 v_ U'.heap L_ ∧ FrameEnd U o U' L_ ({ frames := 2, cells := 2, slots := 12, locals := 33 } : Room).cells ({ frames := 2, cells := 2, slots := 12, locals := 33 } : Room).slots) := by
  refine MetFree.of_bodySF (plainFor_of_name pn_4) hisR ?_
  intro p e s m args below meth c s₁ Bd hml0 hP hK
  obtain ⟨rfl, hZ, hh⟩ := hP
  have hx := Bd.exec
  have hby := Bd.bytes
  have hlk : meth.locks = false := Bd.notSynchronized
  have hml : c.maxLocals = 4 := hml0
  have hown : s.vm.findClass "com/example/tristream/tristream/LongIndex" = some m.cls := findClass_of_methodNamed Bd.named
  have hnm := (name_of_methodNamed Bd.named Bd.method).1
  have X0 : Stand p l e ({ frames := 2, cells := 2, slots := 12, locals := 33 } : Room) s m #[(.ref a), (.long kk)] below meth c s₁ [] 0 0 := Stand.of_body Bd
  have e0 : s₁.heap = h0 := by rw [← hh, Bd.state]; rfl
  have N0 := Fr.nil n0
  have K0 : Keep h0 h0 [a, kb, sb] := Keep.refl _ _
  show OEnds p e below s (Q_liadd Z a kb sb kk ks h0 n0) _ _ _
  refine own_by (fun t k => castTop (ef_4 m a kk) k) ?_
  show OEnds p e below s _ _ _ (s₁.setTop (mkF m 0 #[.val (.ref a), .val (.long kk), .second, .unset] []))
  obtain ⟨hz, hz2, -, -⟩ := li_len hLI
  refine own_by (fun _ k => XS.aloadN X0.here hx rfl (hb hby d4_0) rfl rfl k) ?_
  show OEnds p e below s _ _ _ (s₁.setTop (mkF m 1 #[.val (.ref a), .val (.long kk), .second, .unset] [(.ref a)]))
  refine own_by (fun _ k => XS.lloadN X0.here hx rfl (hb hby d4_1) rfl k) ?_
  show OEnds p e below s _ _ _ (s₁.setTop (mkF m 2 #[.val (.ref a), .val (.long kk), .second, .unset] [(.long kk), (.ref a)]))
  obtain ⟨v1, T1, L1, h1, X1, e1, hQ1, st1⟩ := own_callX X0 hx hZ (y := (⟨"com/example/tristream/tristream/LongIndex", "find", "(J)I"⟩ : MethodName)) hown (hw _ (List.mem_of_getElem? (i := 27) rfl)) (hw _ (List.mem_of_getElem? (i := 28) rfl)) (hw _ (List.mem_of_getElem? (i := 29) rfl)) (hw _ (List.mem_of_getElem? (i := 30) rfl)) (hw _ (List.mem_of_getElem? (i := 2) rfl)) (hw _ (List.mem_of_getElem? (i := 1) rfl)) (by decide) O0.exa (rm_lifind l Z a0 hw [] a kk kb sb z (62 : Int32) 2 kf 4 sl h0 n0 Z0 O0 F_kb F_sb hLI.fo) e0 (g := (mkF m 2 #[.val (.ref a), .val (.long kk), .second, .unset] [(.long kk), (.ref a)])) rfl (by rw [hml]; rfl) (argsL := [(.long kk)]) (rest := []) (lenOf pd_pJrI rfl) rfl (W := 0) (by show 2 * 0 + _ ≤ _; exact Nat.le_of_eq rfl) (hb hby d4_2) (by decide) (by decide) (by decide) (by decide)
  obtain ⟨r1, rn1, rfl, rfl, hq1, hr1, hst1⟩ := hQ1
  rw [hq1] at e1
  have N1 := Fr.app N0 (Fr.nil n0)
  refine own_tr st1 ?_
  show OEnds p e below s _ _ _ (T1.setTop (mkF m 5 #[.val (.ref a), .val (.long kk), .second, .unset] [(.int r1)]))
  refine own_by (fun _ k => XS.istoreN X1.here hx rfl (hb hby d4_5) rfl (l' := #[.val (.ref a), .val (.long kk), .second, .val (.int r1)]) rfl k) ?_
  show OEnds p e below s _ _ _ (T1.setTop (mkF m 6 #[.val (.ref a), .val (.long kk), .second, .val (.int r1)] []))
  refine own_by (fun _ k => XS.aloadN X1.here hx rfl (hb hby d4_6) rfl rfl k) ?_
  show OEnds p e below s _ _ _ (T1.setTop (mkF m 7 #[.val (.ref a), .val (.long kk), .second, .val (.int r1)] [(.ref a)]))
  obtain ⟨T2, X2, e2, st2⟩ := getF X1 hx hZ hown (host := "") (Or.inl (hw _ (List.mem_of_getElem? (i := 13) rfl))) Via.refl e1 (O0.fld 1 rfl rfl) (g := (mkF m 7 #[.val (.ref a), .val (.long kk), .second, .val (.int r1)] [(.ref a)])) rfl rfl (hb hby d4_7)
  refine own_by (st2) ?_
  show OEnds p e below s _ _ _ (T2.setTop (mkF m 10 #[.val (.ref a), .val (.long kk), .second, .val (.int r1)] [(.ref sb)]))
  refine own_by (fun _ k => XS.iloadN X2.here hx rfl (hb hby d4_10) rfl k) ?_
  show OEnds p e below s _ _ _ (T2.setTop (mkF m 11 #[.val (.ref a), .val (.long kk), .second, .val (.int r1)] [(.int r1), (.ref sb)]))
  refine own_by (own_iaload X2 hx hZ e2 F_sb rn1 hr1 hst1.lt (v := (.int (sl rn1))) rfl (g := (mkF m 11 #[.val (.ref a), .val (.long kk), .second, .val (.int r1)] [(.int r1), (.ref sb)])) rfl rfl (hb hby d4_11)) ?_
  show OEnds p e below s _ _ _ (T2.setTop (mkF m 12 #[.val (.ref a), .val (.long kk), .second, .val (.int r1)] [(.int (sl rn1))]))
  by_cases hc12_3 : (sl rn1) = (0 : Int32)
  · refine own_by (fun _ k => XS.ifYes X2.here hx rfl (pc0 := 12) (pc' := 24) rfl (hb hby d4_12) rfl ((if0 _ _).trans (teq hc12_3).1) (by decide) (by decide) k) ?_
    show OEnds p e below s _ _ _ (T2.setTop (mkF m 24 #[.val (.ref a), .val (.long kk), .second, .val (.int r1)] []))
    refine own_by (fun _ k => XS.aloadN X2.here hx rfl (hb hby d4_24) rfl rfl k) ?_
    show OEnds p e below s _ _ _ (T2.setTop (mkF m 25 #[.val (.ref a), .val (.long kk), .second, .val (.int r1)] [(.ref a)]))
    obtain ⟨T4, X4, e4, st4⟩ := getF X2 hx hZ hown (host := "") (Or.inl (hw _ (List.mem_of_getElem? (i := 36) rfl))) Via.refl e2 (O0.fld 3 rfl rfl) (g := (mkF m 25 #[.val (.ref a), .val (.long kk), .second, .val (.int r1)] [(.ref a)])) rfl rfl (hb hby d4_25)
    refine own_by (st4) ?_
    show OEnds p e below s _ _ _ (T4.setTop (mkF m 28 #[.val (.ref a), .val (.long kk), .second, .val (.int r1)] [(.int z)]))
    refine own_by (fun _ k => XS.iconst X4.here hx rfl (hb hby d4_28) k) ?_
    show OEnds p e below s _ _ _ (T4.setTop (mkF m 29 #[.val (.ref a), .val (.long kk), .second, .val (.int r1)] [(.int (1 : Int32)), (.int z)]))
    refine own_by (fun _ k => XS.iadd X4.here hx rfl (hb hby d4_29) rfl k) ?_
    show OEnds p e below s _ _ _ (T4.setTop (mkF m 30 #[.val (.ref a), .val (.long kk), .second, .val (.int r1)] [(.int (z + (1 : Int32)))]))
    refine own_by (fun _ k => XS.iconst X4.here hx rfl (hb hby d4_30) k) ?_
    show OEnds p e below s _ _ _ (T4.setTop (mkF m 31 #[.val (.ref a), .val (.long kk), .second, .val (.int r1)] [(.int (2 : Int32)), (.int (z + (1 : Int32)))]))
    refine own_by (fun _ k => XS.imul X4.here hx rfl (hb hby d4_31) rfl k) ?_
    show OEnds p e below s _ _ _ (T4.setTop (mkF m 32 #[.val (.ref a), .val (.long kk), .second, .val (.int r1)] [(.int ((z + (1 : Int32)) * (2 : Int32)))]))
    refine own_by (fun _ k => XS.aloadN X4.here hx rfl (hb hby d4_32) rfl rfl k) ?_
    show OEnds p e below s _ _ _ (T4.setTop (mkF m 33 #[.val (.ref a), .val (.long kk), .second, .val (.int r1)] [(.ref a), (.int ((z + (1 : Int32)) * (2 : Int32)))]))
    obtain ⟨T5, X5, e5, st5⟩ := getF X4 hx hZ hown (host := "") (Or.inl (hw _ (List.mem_of_getElem? (i := 13) rfl))) Via.refl e4 (O0.fld 1 rfl rfl) (g := (mkF m 33 #[.val (.ref a), .val (.long kk), .second, .val (.int r1)] [(.ref a), (.int ((z + (1 : Int32)) * (2 : Int32)))])) rfl rfl (hb hby d4_33)
    refine own_by (st5) ?_
    show OEnds p e below s _ _ _ (T5.setTop (mkF m 36 #[.val (.ref a), .val (.long kk), .second, .val (.int r1)] [(.ref sb), (.int ((z + (1 : Int32)) * (2 : Int32)))]))
    refine own_by (own_len X5 hx hZ e5 F_sb (z := (4 : Int32)) (by decide) (g := (mkF m 36 #[.val (.ref a), .val (.long kk), .second, .val (.int r1)] [(.ref sb), (.int ((z + (1 : Int32)) * (2 : Int32)))])) rfl rfl (hb hby d4_36)) ?_
    show OEnds p e below s _ _ _ (T5.setTop (mkF m 37 #[.val (.ref a), .val (.long kk), .second, .val (.int r1)] [(.int (4 : Int32)), (.int ((z + (1 : Int32)) * (2 : Int32)))]))
    by_cases hc37_6 : (4 : Int32) < ((z + (1 : Int32)) * (2 : Int32))
    · refine own_by (fun _ k => XS.icmpNo X5.here hx rfl (hb hby d4_37) rfl (tlt hc37_6).2.2.2 k) ?_
      show OEnds p e below s _ _ _ (T5.setTop (mkF m 40 #[.val (.ref a), .val (.long kk), .second, .val (.int r1)] []))
      obtain ⟨rfl, hk2⟩ := grow_2 hz hz2 hc37_6
      show OEnds p e below s _ _ _ (T5.setTop (mkF m 40 #[.val (.ref a), .val (.long kk), .second, .val (.int r1)] []))
      refine own_by (fun _ k => XS.aloadN X5.here hx rfl (hb hby d4_40) rfl rfl k) ?_
      show OEnds p e below s _ _ _ (T5.setTop (mkF m 41 #[.val (.ref a), .val (.long kk), .second, .val (.int r1)] [(.ref a)]))
      obtain ⟨T7, X7, e7, st7⟩ := getF X5 hx hZ hown (host := "") (Or.inl (hw _ (List.mem_of_getElem? (i := 13) rfl))) Via.refl e5 (O0.fld 1 rfl rfl) (g := (mkF m 41 #[.val (.ref a), .val (.long kk), .second, .val (.int r1)] [(.ref a)])) rfl rfl (hb hby d4_41)
      refine own_by (st7) ?_
      show OEnds p e below s _ _ _ (T7.setTop (mkF m 44 #[.val (.ref a), .val (.long kk), .second, .val (.int r1)] [(.ref sb)]))
      refine own_by (own_len X7 hx hZ e7 F_sb (z := (4 : Int32)) (by decide) (g := (mkF m 44 #[.val (.ref a), .val (.long kk), .second, .val (.int r1)] [(.ref sb)])) rfl rfl (hb hby d4_44)) ?_
      show OEnds p e below s _ _ _ (T7.setTop (mkF m 45 #[.val (.ref a), .val (.long kk), .second, .val (.int r1)] [(.int (4 : Int32))]))
      refine own_by (X7.ldcInt hx hown (mvT hZ (hw _ (List.mem_of_getElem? (i := 38) rfl))) (g := (mkF m 45 #[.val (.ref a), .val (.long kk), .second, .val (.int r1)] [(.int (4 : Int32))])) rfl (hb hby d4_45)) ?_
      show OEnds p e below s _ _ _ (T7.setTop (mkF m 47 #[.val (.ref a), .val (.long kk), .second, .val (.int r1)] [(.int (1073741824 : Int32)), (.int (4 : Int32))]))
      refine own_by (fun _ k => XS.icmpYes X7.here hx rfl (pc0 := 47) (pc' := 60) rfl (hb hby d4_47) rfl (feq (by decide : ¬ ((4 : Int32) = (1073741824 : Int32)))).2 (by decide) (by decide) k) ?_
      show OEnds p e below s _ _ _ (T7.setTop (mkF m 60 #[.val (.ref a), .val (.long kk), .second, .val (.int r1)] []))
      refine own_by (fun _ k => XS.aloadN X7.here hx rfl (hb hby d4_60) rfl rfl k) ?_
      show OEnds p e below s _ _ _ (T7.setTop (mkF m 61 #[.val (.ref a), .val (.long kk), .second, .val (.int r1)] [(.ref a)]))
      refine own_by (fun _ k => XS.aloadN X7.here hx rfl (hb hby d4_61) rfl rfl k) ?_
      show OEnds p e below s _ _ _ (T7.setTop (mkF m 62 #[.val (.ref a), .val (.long kk), .second, .val (.int r1)] [(.ref a), (.ref a)]))
      obtain ⟨T8, X8, e8, st8⟩ := getF X7 hx hZ hown (host := "") (Or.inl (hw _ (List.mem_of_getElem? (i := 13) rfl))) Via.refl e7 (O0.fld 1 rfl rfl) (g := (mkF m 62 #[.val (.ref a), .val (.long kk), .second, .val (.int r1)] [(.ref a), (.ref a)])) rfl rfl (hb hby d4_62)
      refine own_by (st8) ?_
      show OEnds p e below s _ _ _ (T8.setTop (mkF m 65 #[.val (.ref a), .val (.long kk), .second, .val (.int r1)] [(.ref sb), (.ref a)]))
      refine own_by (own_len X8 hx hZ e8 F_sb (z := (4 : Int32)) (by decide) (g := (mkF m 65 #[.val (.ref a), .val (.long kk), .second, .val (.int r1)] [(.ref sb), (.ref a)])) rfl rfl (hb hby d4_65)) ?_
      show OEnds p e below s _ _ _ (T8.setTop (mkF m 66 #[.val (.ref a), .val (.long kk), .second, .val (.int r1)] [(.int (4 : Int32)), (.ref a)]))
      refine own_by (fun _ k => XS.iconst X8.here hx rfl (hb hby d4_66) k) ?_
      show OEnds p e below s _ _ _ (T8.setTop (mkF m 67 #[.val (.ref a), .val (.long kk), .second, .val (.int r1)] [(.int (2 : Int32)), (.int (4 : Int32)), (.ref a)]))
      refine own_by (fun _ k => XS.imul X8.here hx rfl (hb hby d4_67) rfl k) ?_
      show OEnds p e below s _ _ _ (T8.setTop (mkF m 68 #[.val (.ref a), .val (.long kk), .second, .val (.int r1)] [(.int (8 : Int32)), (.ref a)]))
      obtain ⟨v9, T9, L9, h9, X9, e9, hQ9, st9⟩ := own_callX X8 hx hZ (y := (⟨"com/example/tristream/tristream/LongIndex", "resize", "(I)V"⟩ : MethodName)) hown (hw _ (List.mem_of_getElem? (i := 39) rfl)) (hw _ (List.mem_of_getElem? (i := 40) rfl)) (hw _ (List.mem_of_getElem? (i := 41) rfl)) (hw _ (List.mem_of_getElem? (i := 42) rfl)) (hw _ (List.mem_of_getElem? (i := 2) rfl)) (hw _ (List.mem_of_getElem? (i := 1) rfl)) (by decide) O0.exa (rm_rs8 l Z a0 hw [] a kb sb (62 : Int32) kf h0 n0 Z0 O0 F_kb g_a) e8 (g := (mkF m 68 #[.val (.ref a), .val (.long kk), .second, .val (.int r1)] [(.int (8 : Int32)), (.ref a)])) rfl (by rw [hml]; rfl) (argsL := [(.int (8 : Int32))]) (rest := []) (lenOf pd_pIrV rfl) rfl (W := 0) (by show 2 * 0 + _ ≤ _; exact Nat.le_of_eq rfl) (hb hby d4_68) (by decide) (by decide) (by decide) (by decide)
      obtain ⟨rfl, Nq9, Kq9, nb9, sl9, sq9, gq9, hnn9, hiv9, O9, F9⟩ := hQ9
      have N9 := Fr.app N1 Nq9
      have K9 : Keep h0 h9 [a, kb, sb] := K0.trans Kq9 (allS (Or.inl (List.mem_of_getElem? (i := 0) rfl)) all0)
      have Z9 : n0 ≤ h9.size := Nat.le_trans Z0 Kq9.1
      refine own_tr st9 ?_
      show OEnds p e below s _ _ _ (T9.setTop (mkF m 71 #[.val (.ref a), .val (.long kk), .second, .val (.int r1)] []))
      refine own_by (fun _ k => XS.aloadN X9.here hx rfl (hb hby d4_71) rfl rfl k) ?_
      show OEnds p e below s _ _ _ (T9.setTop (mkF m 72 #[.val (.ref a), .val (.long kk), .second, .val (.int r1)] [(.ref a)]))
      refine own_by (fun _ k => XS.lloadN X9.here hx rfl (hb hby d4_72) rfl k) ?_
      show OEnds p e below s _ _ _ (T9.setTop (mkF m 73 #[.val (.ref a), .val (.long kk), .second, .val (.int r1)] [(.long kk), (.ref a)]))
      have F11 : FA Z h9 kb .long 2 (fun i => .long (kf i)) := (F_kb.keep Kq9 (ninS (Ne.symm (O0.ne_fa (hw _ (List.mem_of_getElem? (i := 1) rfl)) F_kb)) nin0))
      obtain ⟨v10, T10, L10, h10, X10, e10, hQ10, st10⟩ := own_callX X9 hx hZ (y := (⟨"com/example/tristream/tristream/LongIndex", "find", "(J)I"⟩ : MethodName)) hown (hw _ (List.mem_of_getElem? (i := 27) rfl)) (hw _ (List.mem_of_getElem? (i := 28) rfl)) (hw _ (List.mem_of_getElem? (i := 29) rfl)) (hw _ (List.mem_of_getElem? (i := 30) rfl)) (hw _ (List.mem_of_getElem? (i := 2) rfl)) (hw _ (List.mem_of_getElem? (i := 1) rfl)) (by decide) O9.exa (rm_lifind l Z a0 hw [] a kk kb nb9 (2 : Int32) (61 : Int32) 2 kf 8 sl9 h9 n0 Z9 O9 F11 F9 (fo_rs hnn9 hiv9)) e9 (g := (mkF m 73 #[.val (.ref a), .val (.long kk), .second, .val (.int r1)] [(.long kk), (.ref a)])) rfl (by rw [hml]; rfl) (argsL := [(.long kk)]) (rest := []) (lenOf pd_pJrI rfl) rfl (W := 0) (by show 2 * 0 + _ ≤ _; exact Nat.le_of_eq rfl) (hb hby d4_73) (by decide) (by decide) (by decide) (by decide)
      obtain ⟨r10, rn10, rfl, rfl, hq10, hr10, hst10⟩ := hQ10
      rw [hq10] at e10
      have N10 := Fr.app N9 (Fr.nil n0)
      refine own_tr st10 ?_
      show OEnds p e below s _ _ _ (T10.setTop (mkF m 76 #[.val (.ref a), .val (.long kk), .second, .val (.int r1)] [(.int r10)]))
      refine own_by (fun _ k => XS.istoreN X10.here hx rfl (hb hby d4_76) rfl (l' := #[.val (.ref a), .val (.long kk), .second, .val (.int r10)]) rfl k) ?_
      show OEnds p e below s _ _ _ (T10.setTop (mkF m 77 #[.val (.ref a), .val (.long kk), .second, .val (.int r10)] []))
      refine own_by (fun _ k => XS.aloadN X10.here hx rfl (hb hby d4_77) rfl rfl k) ?_
      show OEnds p e below s _ _ _ (T10.setTop (mkF m 78 #[.val (.ref a), .val (.long kk), .second, .val (.int r10)] [(.ref a)]))
      obtain ⟨T12, X12, e12, st12⟩ := getF X10 hx hZ hown (host := "") (Or.inl (hw _ (List.mem_of_getElem? (i := 36) rfl))) Via.refl e10 (O9.fld 3 rfl rfl) (g := (mkF m 78 #[.val (.ref a), .val (.long kk), .second, .val (.int r10)] [(.ref a)])) rfl rfl (hb hby d4_78)
      refine own_by (st12) ?_
      show OEnds p e below s _ _ _ (T12.setTop (mkF m 81 #[.val (.ref a), .val (.long kk), .second, .val (.int r10)] [(.int (2 : Int32))]))
      refine own_by (fun _ k => XS.aloadN X12.here hx rfl (hb hby d4_81) rfl rfl k) ?_
      show OEnds p e below s _ _ _ (T12.setTop (mkF m 82 #[.val (.ref a), .val (.long kk), .second, .val (.int r10)] [(.ref a), (.int (2 : Int32))]))
      obtain ⟨T13, X13, e13, st13⟩ := getF X12 hx hZ hown (host := "") (Or.inl (hw _ (List.mem_of_getElem? (i := 10) rfl))) Via.refl e12 (O9.fld 0 rfl rfl) (g := (mkF m 82 #[.val (.ref a), .val (.long kk), .second, .val (.int r10)] [(.ref a), (.int (2 : Int32))])) rfl rfl (hb hby d4_82)
      refine own_by (st13) ?_
      show OEnds p e below s _ _ _ (T13.setTop (mkF m 85 #[.val (.ref a), .val (.long kk), .second, .val (.int r10)] [(.ref kb), (.int (2 : Int32))]))
      refine own_by (own_len X13 hx hZ e13 F11 (z := (2 : Int32)) (by decide) (g := (mkF m 85 #[.val (.ref a), .val (.long kk), .second, .val (.int r10)] [(.ref kb), (.int (2 : Int32))])) rfl rfl (hb hby d4_85)) ?_
      show OEnds p e below s _ _ _ (T13.setTop (mkF m 86 #[.val (.ref a), .val (.long kk), .second, .val (.int r10)] [(.int (2 : Int32)), (.int (2 : Int32))]))
      refine own_by (fun _ k => XS.icmpNo X13.here hx rfl (hb hby d4_86) rfl (teq (by decide : (2 : Int32) = (2 : Int32))).2 k) ?_
      show OEnds p e below s _ _ _ (T13.setTop (mkF m 89 #[.val (.ref a), .val (.long kk), .second, .val (.int r10)] []))
      refine own_by (fun _ k => XS.aloadN X13.here hx rfl (hb hby d4_89) rfl rfl k) ?_
      show OEnds p e below s _ _ _ (T13.setTop (mkF m 90 #[.val (.ref a), .val (.long kk), .second, .val (.int r10)] [(.ref a)]))
      refine own_by (fun _ k => XS.aloadN X13.here hx rfl (hb hby d4_90) rfl rfl k) ?_
      show OEnds p e below s _ _ _ (T13.setTop (mkF m 91 #[.val (.ref a), .val (.long kk), .second, .val (.int r10)] [(.ref a), (.ref a)]))
      obtain ⟨T14, X14, e14, st14⟩ := getF X13 hx hZ hown (host := "") (Or.inl (hw _ (List.mem_of_getElem? (i := 10) rfl))) Via.refl e13 (O9.fld 0 rfl rfl) (g := (mkF m 91 #[.val (.ref a), .val (.long kk), .second, .val (.int r10)] [(.ref a), (.ref a)])) rfl rfl (hb hby d4_91)
      refine own_by (st14) ?_
      show OEnds p e below s _ _ _ (T14.setTop (mkF m 94 #[.val (.ref a), .val (.long kk), .second, .val (.int r10)] [(.ref kb), (.ref a)]))
      refine own_by (fun _ k => XS.aloadN X14.here hx rfl (hb hby d4_94) rfl rfl k) ?_
      show OEnds p e below s _ _ _ (T14.setTop (mkF m 95 #[.val (.ref a), .val (.long kk), .second, .val (.int r10)] [(.ref a), (.ref kb), (.ref a)]))
      obtain ⟨T15, X15, e15, st15⟩ := getF X14 hx hZ hown (host := "") (Or.inl (hw _ (List.mem_of_getElem? (i := 36) rfl))) Via.refl e14 (O9.fld 3 rfl rfl) (g := (mkF m 95 #[.val (.ref a), .val (.long kk), .second, .val (.int r10)] [(.ref a), (.ref kb), (.ref a)])) rfl rfl (hb hby d4_95)
      refine own_by (st15) ?_
      show OEnds p e below s _ _ _ (T15.setTop (mkF m 98 #[.val (.ref a), .val (.long kk), .second, .val (.int r10)] [(.int (2 : Int32)), (.ref kb), (.ref a)]))
      refine own_by (fun _ k => XS.iconst X15.here hx rfl (hb hby d4_98) k) ?_
      show OEnds p e below s _ _ _ (T15.setTop (mkF m 99 #[.val (.ref a), .val (.long kk), .second, .val (.int r10)] [(.int (2 : Int32)), (.int (2 : Int32)), (.ref kb), (.ref a)]))
      refine own_by (fun _ k => XS.imul X15.here hx rfl (hb hby d4_99) rfl k) ?_
      show OEnds p e below s _ _ _ (T15.setTop (mkF m 100 #[.val (.ref a), .val (.long kk), .second, .val (.int r10)] [(.int (4 : Int32)), (.ref kb), (.ref a)]))
      obtain ⟨v16, T16, L16, h16, X16, e16, hQ16, st16⟩ := own_callS X15 hx hZ (y := (⟨"java/util/Arrays", "copyOf", "([JI)[J"⟩ : MethodName)) hown (hw _ (List.mem_of_getElem? (i := 43) rfl)) (hw _ (List.mem_of_getElem? (i := 44) rfl)) (hw _ (List.mem_of_getElem? (i := 45) rfl)) (hw _ (List.mem_of_getElem? (i := 46) rfl)) (by decide) (rm_cpl l Z a0 hw [] kb kf h9 n0 Z9 F11) e15 (g := (mkF m 100 #[.val (.ref a), .val (.long kk), .second, .val (.int r10)] [(.int (4 : Int32)), (.ref kb), (.ref a)])) rfl (by rw [hml]; rfl) (argsL := [(.ref kb), (.int (4 : Int32))]) (rest := [(.ref a)]) (lenOf pd_paJIraJ rfl) rfl (W := 1) (by show 2 * 0 + _ ≤ _; exact Nat.le_of_eq rfl) (hb hby d4_100) (by decide) (by decide) (by decide) (by decide)
      obtain ⟨nc16, rfl, Nq16, Kq16, sq16, gq16, F16⟩ := hQ16
      have N16 := Fr.app N10 Nq16
      have K16 : Keep h0 h16 [a, kb, sb] := K9.trans Kq16 all0
      have Z16 : n0 ≤ h16.size := Nat.le_trans Z9 Kq16.1
      refine own_tr st16 ?_
      show OEnds p e below s _ _ _ (T16.setTop (mkF m 103 #[.val (.ref a), .val (.long kk), .second, .val (.int r10)] [(.ref nc16), (.ref a)]))
      have O18 : Obj Z h16 a "com/example/tristream/tristream/LongIndex" sch_li [(.ref kb), (.ref nb9), (.int (61 : Int32)), (.int (2 : Int32))] := (O9.keep Kq16 nin0)
      have F19 : FA Z h16 kb .long 2 (fun i => .long (kf i)) := (F11.keep Kq16 nin0)
      have F20 : FA Z h16 nb9 .int 8 (fun i => .int (sl9 i)) := (F9.keep Kq16 nin0)
      obtain ⟨T17, h17, X17, e17, W17, st17⟩ := putF X16 hx hZ hown (host := "") (Or.inl (hw _ (List.mem_of_getElem? (i := 10) rfl))) Via.refl e16 (O18.fld 0 rfl rfl) O18.exa (Or.inl (hw _ (List.mem_of_getElem? (i := 11) rfl))) (hw _ (List.mem_of_getElem? (i := 1) rfl)) (ty := (.array .long)) (by decide) rfl rfl (g := (mkF m 103 #[.val (.ref a), .val (.long kk), .second, .val (.int r10)] [(.ref nc16), (.ref a)])) rfl rfl (hb hby d4_103)
      refine own_by (st17) ?_
      have O17 : Obj Z h17 a "com/example/tristream/tristream/LongIndex" sch_li [(.ref nc16), (.ref nb9), (.int (61 : Int32)), (.int (2 : Int32))] := O18.set (so_sch_li hw) W17 0 rfl (Nat.le_of_ble_eq_true rfl)
      have N17 := Fr.snoc X17 N16 g_a
      have Z17 : n0 ≤ h17.size := Nat.le_trans Z16 (Keep.of_wr W17).1
      have K17 : Keep h0 h17 [a, kb, sb] := K16.wr W17 (Or.inl (List.mem_of_getElem? (i := 0) rfl))
      show OEnds p e below s _ _ _ (T17.setTop (mkF m 106 #[.val (.ref a), .val (.long kk), .second, .val (.int r10)] []))
      refine own_by (fun _ k => XS.aloadN X17.here hx rfl (hb hby d4_106) rfl rfl k) ?_
      show OEnds p e below s _ _ _ (T17.setTop (mkF m 107 #[.val (.ref a), .val (.long kk), .second, .val (.int r10)] [(.ref a)]))
      obtain ⟨T21, X21, e21, st21⟩ := getF X17 hx hZ hown (host := "") (Or.inl (hw _ (List.mem_of_getElem? (i := 10) rfl))) Via.refl e17 (O17.fld 0 rfl rfl) (g := (mkF m 107 #[.val (.ref a), .val (.long kk), .second, .val (.int r10)] [(.ref a)])) rfl rfl (hb hby d4_107)
      refine own_by (st21) ?_
      show OEnds p e below s _ _ _ (T21.setTop (mkF m 110 #[.val (.ref a), .val (.long kk), .second, .val (.int r10)] [(.ref nc16)]))
      refine own_by (fun _ k => XS.aloadN X21.here hx rfl (hb hby d4_110) rfl rfl k) ?_
      show OEnds p e below s _ _ _ (T21.setTop (mkF m 111 #[.val (.ref a), .val (.long kk), .second, .val (.int r10)] [(.ref a), (.ref nc16)]))
      obtain ⟨T22, X22, e22, st22⟩ := getF X21 hx hZ hown (host := "") (Or.inl (hw _ (List.mem_of_getElem? (i := 36) rfl))) Via.refl e21 (O17.fld 3 rfl rfl) (g := (mkF m 111 #[.val (.ref a), .val (.long kk), .second, .val (.int r10)] [(.ref a), (.ref nc16)])) rfl rfl (hb hby d4_111)
      refine own_by (st22) ?_
      show OEnds p e below s _ _ _ (T22.setTop (mkF m 114 #[.val (.ref a), .val (.long kk), .second, .val (.int r10)] [(.int (2 : Int32)), (.ref nc16)]))
      refine own_by (fun _ k => XS.lloadN X22.here hx rfl (hb hby d4_114) rfl k) ?_
      show OEnds p e below s _ _ _ (T22.setTop (mkF m 115 #[.val (.ref a), .val (.long kk), .second, .val (.int r10)] [(.long kk), (.int (2 : Int32)), (.ref nc16)]))
      have F24 : FA Z h17 kb .long 2 (fun i => .long (kf i)) := (F19.other W17 (Ne.symm (O18.ne_fa (hw _ (List.mem_of_getElem? (i := 1) rfl)) F19)))
      have F25 : FA Z h17 nb9 .int 8 (fun i => .int (sl9 i)) := (F20.other W17 (Ne.symm (O18.ne_fa (hw _ (List.mem_of_getElem? (i := 1) rfl)) F20)))
      have F26 : FA Z h17 nc16 .long 4 (fun i => .long ((fun i => if i < 2 then kf i else (0 : Int64)) i)) := (F16.other W17 (Ne.symm (Nat.ne_of_lt (Nat.lt_of_lt_of_le O9.lt sq16))))
      obtain ⟨T23, h23, X23, e23, W23, st23⟩ := own_lastore X22 hx hZ e22 F26 2 (by decide) (by decide) (g := (mkF m 115 #[.val (.ref a), .val (.long kk), .second, .val (.int r10)] [(.long kk), (.int (2 : Int32)), (.ref nc16)])) rfl rfl (hb hby d4_115)
      refine own_by (st23) ?_
      have F23 : FA Z h23 nc16 .long 4 (fun i => .long ((updL (fun i => if i < 2 then kf i else (0 : Int64)) 2 kk) i)) := F26.setL W23
      have N23 := Fr.snoc X23 N17 gq16
      have Z23 : n0 ≤ h23.size := Nat.le_trans Z17 (Keep.of_wr W23).1
      have K23 : Keep h0 h23 [a, kb, sb] := K17.wr W23 (Or.inr (Nat.le_trans K9.1 sq16))
      show OEnds p e below s _ _ _ (T23.setTop (mkF m 116 #[.val (.ref a), .val (.long kk), .second, .val (.int r10)] []))
      refine own_by (fun _ k => XS.aloadN X23.here hx rfl (hb hby d4_116) rfl rfl k) ?_
      show OEnds p e below s _ _ _ (T23.setTop (mkF m 117 #[.val (.ref a), .val (.long kk), .second, .val (.int r10)] [(.ref a)]))
      refine own_by (fun _ k => XS.dup X23.here hx rfl (hb hby d4_117) rfl rfl k) ?_
      show OEnds p e below s _ _ _ (T23.setTop (mkF m 118 #[.val (.ref a), .val (.long kk), .second, .val (.int r10)] [(.ref a), (.ref a)]))
      have O28 : Obj Z h23 a "com/example/tristream/tristream/LongIndex" sch_li [(.ref nc16), (.ref nb9), (.int (61 : Int32)), (.int (2 : Int32))] := (O17.other W23 (Nat.ne_of_lt (Nat.lt_of_lt_of_le O9.lt sq16)))
      obtain ⟨T27, X27, e27, st27⟩ := getF X23 hx hZ hown (host := "") (Or.inl (hw _ (List.mem_of_getElem? (i := 36) rfl))) Via.refl e23 (O28.fld 3 rfl rfl) (g := (mkF m 118 #[.val (.ref a), .val (.long kk), .second, .val (.int r10)] [(.ref a), (.ref a)])) rfl rfl (hb hby d4_118)
      refine own_by (st27) ?_
      show OEnds p e below s _ _ _ (T27.setTop (mkF m 121 #[.val (.ref a), .val (.long kk), .second, .val (.int r10)] [(.int (2 : Int32)), (.ref a)]))
      refine own_by (fun _ k => XS.iconst X27.here hx rfl (hb hby d4_121) k) ?_
      show OEnds p e below s _ _ _ (T27.setTop (mkF m 122 #[.val (.ref a), .val (.long kk), .second, .val (.int r10)] [(.int (1 : Int32)), (.int (2 : Int32)), (.ref a)]))
      refine own_by (fun _ k => XS.iadd X27.here hx rfl (hb hby d4_122) rfl k) ?_
      show OEnds p e below s _ _ _ (T27.setTop (mkF m 123 #[.val (.ref a), .val (.long kk), .second, .val (.int r10)] [(.int (3 : Int32)), (.ref a)]))
      have F30 : FA Z h23 kb .long 2 (fun i => .long (kf i)) := (F24.other W23 (Nat.ne_of_lt (Nat.lt_of_lt_of_le F11.lt sq16)))
      have F31 : FA Z h23 nb9 .int 8 (fun i => .int (sl9 i)) := (F25.other W23 (Nat.ne_of_lt (Nat.lt_of_lt_of_le F9.lt sq16)))
      obtain ⟨T29, h29, X29, e29, W29, st29⟩ := putF X27 hx hZ hown (host := "") (Or.inl (hw _ (List.mem_of_getElem? (i := 36) rfl))) Via.refl e27 (O28.fld 3 rfl rfl) O28.exa (Or.inl (hw _ (List.mem_of_getElem? (i := 37) rfl))) (hw _ (List.mem_of_getElem? (i := 1) rfl)) (ty := .int) (by decide) rfl rfl (g := (mkF m 123 #[.val (.ref a), .val (.long kk), .second, .val (.int r10)] [(.int (3 : Int32)), (.ref a)])) rfl rfl (hb hby d4_123)
      refine own_by (st29) ?_
      have O29 : Obj Z h29 a "com/example/tristream/tristream/LongIndex" sch_li [(.ref nc16), (.ref nb9), (.int (61 : Int32)), (.int (3 : Int32))] := O28.set (so_sch_li hw) W29 3 rfl (Nat.le_of_ble_eq_true rfl)
      have N29 := Fr.snoc X29 N23 g_a
      have Z29 : n0 ≤ h29.size := Nat.le_trans Z23 (Keep.of_wr W29).1
      have K29 : Keep h0 h29 [a, kb, sb] := K23.wr W29 (Or.inl (List.mem_of_getElem? (i := 0) rfl))
      show OEnds p e below s _ _ _ (T29.setTop (mkF m 126 #[.val (.ref a), .val (.long kk), .second, .val (.int r10)] []))
      refine own_by (fun _ k => XS.aloadN X29.here hx rfl (hb hby d4_126) rfl rfl k) ?_
      show OEnds p e below s _ _ _ (T29.setTop (mkF m 127 #[.val (.ref a), .val (.long kk), .second, .val (.int r10)] [(.ref a)]))
      obtain ⟨T32, X32, e32, st32⟩ := getF X29 hx hZ hown (host := "") (Or.inl (hw _ (List.mem_of_getElem? (i := 13) rfl))) Via.refl e29 (O29.fld 1 rfl rfl) (g := (mkF m 127 #[.val (.ref a), .val (.long kk), .second, .val (.int r10)] [(.ref a)])) rfl rfl (hb hby d4_127)
      refine own_by (st32) ?_
      show OEnds p e below s _ _ _ (T32.setTop (mkF m 130 #[.val (.ref a), .val (.long kk), .second, .val (.int r10)] [(.ref nb9)]))
      refine own_by (fun _ k => XS.iloadN X32.here hx rfl (hb hby d4_130) rfl k) ?_
      show OEnds p e below s _ _ _ (T32.setTop (mkF m 131 #[.val (.ref a), .val (.long kk), .second, .val (.int r10)] [(.int r10), (.ref nb9)]))
      refine own_by (fun _ k => XS.aloadN X32.here hx rfl (hb hby d4_131) rfl rfl k) ?_
      show OEnds p e below s _ _ _ (T32.setTop (mkF m 132 #[.val (.ref a), .val (.long kk), .second, .val (.int r10)] [(.ref a), (.int r10), (.ref nb9)]))
      obtain ⟨T33, X33, e33, st33⟩ := getF X32 hx hZ hown (host := "") (Or.inl (hw _ (List.mem_of_getElem? (i := 36) rfl))) Via.refl e32 (O29.fld 3 rfl rfl) (g := (mkF m 132 #[.val (.ref a), .val (.long kk), .second, .val (.int r10)] [(.ref a), (.int r10), (.ref nb9)])) rfl rfl (hb hby d4_132)
      refine own_by (st33) ?_
      show OEnds p e below s _ _ _ (T33.setTop (mkF m 135 #[.val (.ref a), .val (.long kk), .second, .val (.int r10)] [(.int (3 : Int32)), (.int r10), (.ref nb9)]))
      have F35 : FA Z h29 kb .long 2 (fun i => .long (kf i)) := (F30.other W29 (Ne.symm (O28.ne_fa (hw _ (List.mem_of_getElem? (i := 1) rfl)) F30)))
      have F36 : FA Z h29 nb9 .int 8 (fun i => .int (sl9 i)) := (F31.other W29 (Ne.symm (O28.ne_fa (hw _ (List.mem_of_getElem? (i := 1) rfl)) F31)))
      have F37 : FA Z h29 nc16 .long 4 (fun i => .long ((updL (fun i => if i < 2 then kf i else (0 : Int64)) 2 kk) i)) := (F23.other W29 (Ne.symm (Nat.ne_of_lt (Nat.lt_of_lt_of_le O9.lt sq16))))
      obtain ⟨T34, h34, X34, e34, W34, st34⟩ := own_iastore X33 hx hZ e33 F36 rn10 hr10 hst10.lt (g := (mkF m 135 #[.val (.ref a), .val (.long kk), .second, .val (.int r10)] [(.int (3 : Int32)), (.int r10), (.ref nb9)])) rfl rfl (hb hby d4_135)
      refine own_by (st34) ?_
      have F34 : FA Z h34 nb9 .int 8 (fun i => .int ((updI sl9 rn10 (3 : Int32)) i)) := F36.setI W34
      have N34 := Fr.snoc X34 N29 gq9
      have Z34 : n0 ≤ h34.size := Nat.le_trans Z29 (Keep.of_wr W34).1
      have K34 : Keep h0 h34 [a, kb, sb] := K29.wr W34 (Or.inr (Nat.le_trans K0.1 sq9))
      show OEnds p e below s _ _ _ (T34.setTop (mkF m 136 #[.val (.ref a), .val (.long kk), .second, .val (.int r10)] []))
      refine own_by (fun _ k => XS.aloadN X34.here hx rfl (hb hby d4_136) rfl rfl k) ?_
      show OEnds p e below s _ _ _ (T34.setTop (mkF m 137 #[.val (.ref a), .val (.long kk), .second, .val (.int r10)] [(.ref a)]))
      have O39 : Obj Z h34 a "com/example/tristream/tristream/LongIndex" sch_li [(.ref nc16), (.ref nb9), (.int (61 : Int32)), (.int (3 : Int32))] := (O29.other W34 (O29.ne_fa (hw _ (List.mem_of_getElem? (i := 1) rfl)) F36))
      obtain ⟨T38, X38, e38, st38⟩ := getF X34 hx hZ hown (host := "") (Or.inl (hw _ (List.mem_of_getElem? (i := 36) rfl))) Via.refl e34 (O39.fld 3 rfl rfl) (g := (mkF m 137 #[.val (.ref a), .val (.long kk), .second, .val (.int r10)] [(.ref a)])) rfl rfl (hb hby d4_137)
      refine own_by (st38) ?_
      show OEnds p e below s _ _ _ (T38.setTop (mkF m 140 #[.val (.ref a), .val (.long kk), .second, .val (.int r10)] [(.int (3 : Int32))]))
      refine own_by (fun _ k => XS.iconst X38.here hx rfl (hb hby d4_140) k) ?_
      show OEnds p e below s _ _ _ (T38.setTop (mkF m 141 #[.val (.ref a), .val (.long kk), .second, .val (.int r10)] [(.int (1 : Int32)), (.int (3 : Int32))]))
      refine own_by (fun _ k => XS.isub X38.here hx rfl (hb hby d4_141) rfl k) ?_
      show OEnds p e below s _ _ _ (T38.setTop (mkF m 142 #[.val (.ref a), .val (.long kk), .second, .val (.int r10)] [(.int (2 : Int32))]))
      have F40 : FA Z h34 nc16 .long 4 (fun i => .long ((updL (fun i => if i < 2 then kf i else (0 : Int64)) 2 kk) i)) := (F37.other W34 (Ne.symm (Nat.ne_of_lt (Nat.lt_of_lt_of_le F9.lt sq16))))
      exact own_retI X38 hx hlk Bd.returns (hb hby d4_142) (by rw [e38]; exact ⟨_, rfl, N34, K34, nc16, nb9, _, _, _, _, _, _, _, Or.inr (Nat.le_trans K9.1 sq16), Or.inr (Nat.le_trans K0.1 sq9), gq16, gq9, Or.inr ⟨add_new hLI hst1 hc12_3, rfl⟩, idx_new (by rw [hk2]; decide), (fun q => absurd q (by rw [List.length_append, hk2]; show ¬ 2 + 1 ≤ 2; omega)), (li_add8 hLI hst1 hc12_3 hk2 hnn9 hiv9 hst10), O39, F40, F34⟩) (by decide) (by decide)
    · refine own_by (fun _ k => XS.icmpYes X5.here hx rfl (pc0 := 37) (pc' := 77) rfl (hb hby d4_37) rfl (flt hc37_6).2.2.2 (by decide) (by decide) k) ?_
      show OEnds p e below s _ _ _ (T5.setTop (mkF m 77 #[.val (.ref a), .val (.long kk), .second, .val (.int r1)] []))
      have hk1 := grow_n hz hz2 hc37_6
      refine own_by (fun _ k => XS.aloadN X5.here hx rfl (hb hby d4_77) rfl rfl k) ?_
      show OEnds p e below s _ _ _ (T5.setTop (mkF m 78 #[.val (.ref a), .val (.long kk), .second, .val (.int r1)] [(.ref a)]))
      obtain ⟨T41, X41, e41, st41⟩ := getF X5 hx hZ hown (host := "") (Or.inl (hw _ (List.mem_of_getElem? (i := 36) rfl))) Via.refl e5 (O0.fld 3 rfl rfl) (g := (mkF m 78 #[.val (.ref a), .val (.long kk), .second, .val (.int r1)] [(.ref a)])) rfl rfl (hb hby d4_78)
      refine own_by (st41) ?_
      show OEnds p e below s _ _ _ (T41.setTop (mkF m 81 #[.val (.ref a), .val (.long kk), .second, .val (.int r1)] [(.int z)]))
      refine own_by (fun _ k => XS.aloadN X41.here hx rfl (hb hby d4_81) rfl rfl k) ?_
      show OEnds p e below s _ _ _ (T41.setTop (mkF m 82 #[.val (.ref a), .val (.long kk), .second, .val (.int r1)] [(.ref a), (.int z)]))
      obtain ⟨T42, X42, e42, st42⟩ := getF X41 hx hZ hown (host := "") (Or.inl (hw _ (List.mem_of_getElem? (i := 10) rfl))) Via.refl e41 (O0.fld 0 rfl rfl) (g := (mkF m 82 #[.val (.ref a), .val (.long kk), .second, .val (.int r1)] [(.ref a), (.int z)])) rfl rfl (hb hby d4_82)
      refine own_by (st42) ?_
      show OEnds p e below s _ _ _ (T42.setTop (mkF m 85 #[.val (.ref a), .val (.long kk), .second, .val (.int r1)] [(.ref kb), (.int z)]))
      refine own_by (own_len X42 hx hZ e42 F_kb (z := (2 : Int32)) (by decide) (g := (mkF m 85 #[.val (.ref a), .val (.long kk), .second, .val (.int r1)] [(.ref kb), (.int z)])) rfl rfl (hb hby d4_85)) ?_
      show OEnds p e below s _ _ _ (T42.setTop (mkF m 86 #[.val (.ref a), .val (.long kk), .second, .val (.int r1)] [(.int (2 : Int32)), (.int z)]))
      refine own_by (fun _ k => XS.icmpYes X42.here hx rfl (pc0 := 86) (pc' := 106) rfl (hb hby d4_86) rfl (feq (ne_2 hz hk1)).2 (by decide) (by decide) k) ?_
      show OEnds p e below s _ _ _ (T42.setTop (mkF m 106 #[.val (.ref a), .val (.long kk), .second, .val (.int r1)] []))
      refine own_by (fun _ k => XS.aloadN X42.here hx rfl (hb hby d4_106) rfl rfl k) ?_
      show OEnds p e below s _ _ _ (T42.setTop (mkF m 107 #[.val (.ref a), .val (.long kk), .second, .val (.int r1)] [(.ref a)]))
      obtain ⟨T43, X43, e43, st43⟩ := getF X42 hx hZ hown (host := "") (Or.inl (hw _ (List.mem_of_getElem? (i := 10) rfl))) Via.refl e42 (O0.fld 0 rfl rfl) (g := (mkF m 107 #[.val (.ref a), .val (.long kk), .second, .val (.int r1)] [(.ref a)])) rfl rfl (hb hby d4_107)
      refine own_by (st43) ?_
      show OEnds p e below s _ _ _ (T43.setTop (mkF m 110 #[.val (.ref a), .val (.long kk), .second, .val (.int r1)] [(.ref kb)]))
      refine own_by (fun _ k => XS.aloadN X43.here hx rfl (hb hby d4_110) rfl rfl k) ?_
      show OEnds p e below s _ _ _ (T43.setTop (mkF m 111 #[.val (.ref a), .val (.long kk), .second, .val (.int r1)] [(.ref a), (.ref kb)]))
      obtain ⟨T44, X44, e44, st44⟩ := getF X43 hx hZ hown (host := "") (Or.inl (hw _ (List.mem_of_getElem? (i := 36) rfl))) Via.refl e43 (O0.fld 3 rfl rfl) (g := (mkF m 111 #[.val (.ref a), .val (.long kk), .second, .val (.int r1)] [(.ref a), (.ref kb)])) rfl rfl (hb hby d4_111)
      refine own_by (st44) ?_
      show OEnds p e below s _ _ _ (T44.setTop (mkF m 114 #[.val (.ref a), .val (.long kk), .second, .val (.int r1)] [(.int z), (.ref kb)]))
      refine own_by (fun _ k => XS.lloadN X44.here hx rfl (hb hby d4_114) rfl k) ?_
      show OEnds p e below s _ _ _ (T44.setTop (mkF m 115 #[.val (.ref a), .val (.long kk), .second, .val (.int r1)] [(.long kk), (.int z), (.ref kb)]))
      obtain ⟨T45, h45, X45, e45, W45, st45⟩ := own_lastore X44 hx hZ e44 F_kb ks.length hz (by omega) (g := (mkF m 115 #[.val (.ref a), .val (.long kk), .second, .val (.int r1)] [(.long kk), (.int z), (.ref kb)])) rfl rfl (hb hby d4_115)
      refine own_by (st45) ?_
      have F45 : FA Z h45 kb .long 2 (fun i => .long ((updL kf ks.length kk) i)) := F_kb.setL W45
      have N45 := Fr.snoc X45 N1 g_kb
      have Z45 : n0 ≤ h45.size := Nat.le_trans Z0 (Keep.of_wr W45).1
      have K45 : Keep h0 h45 [a, kb, sb] := K0.wr W45 (Or.inl (List.mem_of_getElem? (i := 1) rfl))
      show OEnds p e below s _ _ _ (T45.setTop (mkF m 116 #[.val (.ref a), .val (.long kk), .second, .val (.int r1)] []))
      refine own_by (fun _ k => XS.aloadN X45.here hx rfl (hb hby d4_116) rfl rfl k) ?_
      show OEnds p e below s _ _ _ (T45.setTop (mkF m 117 #[.val (.ref a), .val (.long kk), .second, .val (.int r1)] [(.ref a)]))
      refine own_by (fun _ k => XS.dup X45.here hx rfl (hb hby d4_117) rfl rfl k) ?_
      show OEnds p e below s _ _ _ (T45.setTop (mkF m 118 #[.val (.ref a), .val (.long kk), .second, .val (.int r1)] [(.ref a), (.ref a)]))
      have O47 : Obj Z h45 a "com/example/tristream/tristream/LongIndex" sch_li [(.ref kb), (.ref sb), (.int (62 : Int32)), (.int z)] := (O0.other W45 (O0.ne_fa (hw _ (List.mem_of_getElem? (i := 1) rfl)) F_kb))
      obtain ⟨T46, X46, e46, st46⟩ := getF X45 hx hZ hown (host := "") (Or.inl (hw _ (List.mem_of_getElem? (i := 36) rfl))) Via.refl e45 (O47.fld 3 rfl rfl) (g := (mkF m 118 #[.val (.ref a), .val (.long kk), .second, .val (.int r1)] [(.ref a), (.ref a)])) rfl rfl (hb hby d4_118)
      refine own_by (st46) ?_
      show OEnds p e below s _ _ _ (T46.setTop (mkF m 121 #[.val (.ref a), .val (.long kk), .second, .val (.int r1)] [(.int z), (.ref a)]))
      refine own_by (fun _ k => XS.iconst X46.here hx rfl (hb hby d4_121) k) ?_
      show OEnds p e below s _ _ _ (T46.setTop (mkF m 122 #[.val (.ref a), .val (.long kk), .second, .val (.int r1)] [(.int (1 : Int32)), (.int z), (.ref a)]))
      refine own_by (fun _ k => XS.iadd X46.here hx rfl (hb hby d4_122) rfl k) ?_
      show OEnds p e below s _ _ _ (T46.setTop (mkF m 123 #[.val (.ref a), .val (.long kk), .second, .val (.int r1)] [(.int (z + (1 : Int32))), (.ref a)]))
      have F49 : FA Z h45 sb .int 4 (fun i => .int (sl i)) := (F_sb.other W45 (F_sb.ne_ty F_kb (by decide)))
      obtain ⟨T48, h48, X48, e48, W48, st48⟩ := putF X46 hx hZ hown (host := "") (Or.inl (hw _ (List.mem_of_getElem? (i := 36) rfl))) Via.refl e46 (O47.fld 3 rfl rfl) O47.exa (Or.inl (hw _ (List.mem_of_getElem? (i := 37) rfl))) (hw _ (List.mem_of_getElem? (i := 1) rfl)) (ty := .int) (by decide) rfl rfl (g := (mkF m 123 #[.val (.ref a), .val (.long kk), .second, .val (.int r1)] [(.int (z + (1 : Int32))), (.ref a)])) rfl rfl (hb hby d4_123)
      refine own_by (st48) ?_
      have O48 : Obj Z h48 a "com/example/tristream/tristream/LongIndex" sch_li [(.ref kb), (.ref sb), (.int (62 : Int32)), (.int (z + (1 : Int32)))] := O47.set (so_sch_li hw) W48 3 rfl (Nat.le_of_ble_eq_true rfl)
      have N48 := Fr.snoc X48 N45 g_a
      have Z48 : n0 ≤ h48.size := Nat.le_trans Z45 (Keep.of_wr W48).1
      have K48 : Keep h0 h48 [a, kb, sb] := K45.wr W48 (Or.inl (List.mem_of_getElem? (i := 0) rfl))
      show OEnds p e below s _ _ _ (T48.setTop (mkF m 126 #[.val (.ref a), .val (.long kk), .second, .val (.int r1)] []))
      refine own_by (fun _ k => XS.aloadN X48.here hx rfl (hb hby d4_126) rfl rfl k) ?_
      show OEnds p e below s _ _ _ (T48.setTop (mkF m 127 #[.val (.ref a), .val (.long kk), .second, .val (.int r1)] [(.ref a)]))
      obtain ⟨T50, X50, e50, st50⟩ := getF X48 hx hZ hown (host := "") (Or.inl (hw _ (List.mem_of_getElem? (i := 13) rfl))) Via.refl e48 (O48.fld 1 rfl rfl) (g := (mkF m 127 #[.val (.ref a), .val (.long kk), .second, .val (.int r1)] [(.ref a)])) rfl rfl (hb hby d4_127)
      refine own_by (st50) ?_
      show OEnds p e below s _ _ _ (T50.setTop (mkF m 130 #[.val (.ref a), .val (.long kk), .second, .val (.int r1)] [(.ref sb)]))
      refine own_by (fun _ k => XS.iloadN X50.here hx rfl (hb hby d4_130) rfl k) ?_
      show OEnds p e below s _ _ _ (T50.setTop (mkF m 131 #[.val (.ref a), .val (.long kk), .second, .val (.int r1)] [(.int r1), (.ref sb)]))
      refine own_by (fun _ k => XS.aloadN X50.here hx rfl (hb hby d4_131) rfl rfl k) ?_
      show OEnds p e below s _ _ _ (T50.setTop (mkF m 132 #[.val (.ref a), .val (.long kk), .second, .val (.int r1)] [(.ref a), (.int r1), (.ref sb)]))
      obtain ⟨T51, X51, e51, st51⟩ := getF X50 hx hZ hown (host := "") (Or.inl (hw _ (List.mem_of_getElem? (i := 36) rfl))) Via.refl e50 (O48.fld 3 rfl rfl) (g := (mkF m 132 #[.val (.ref a), .val (.long kk), .second, .val (.int r1)] [(.ref a), (.int r1), (.ref sb)])) rfl rfl (hb hby d4_132)
      refine own_by (st51) ?_
      show OEnds p e below s _ _ _ (T51.setTop (mkF m 135 #[.val (.ref a), .val (.long kk), .second, .val (.int r1)] [(.int (z + (1 : Int32))), (.int r1), (.ref sb)]))
      have F53 : FA Z h48 kb .long 2 (fun i => .long ((updL kf ks.length kk) i)) := (F45.other W48 (Ne.symm (O47.ne_fa (hw _ (List.mem_of_getElem? (i := 1) rfl)) F45)))
      have F54 : FA Z h48 sb .int 4 (fun i => .int (sl i)) := (F49.other W48 (Ne.symm (O47.ne_fa (hw _ (List.mem_of_getElem? (i := 1) rfl)) F49)))
      obtain ⟨T52, h52, X52, e52, W52, st52⟩ := own_iastore X51 hx hZ e51 F54 rn1 hr1 hst1.lt (g := (mkF m 135 #[.val (.ref a), .val (.long kk), .second, .val (.int r1)] [(.int (z + (1 : Int32))), (.int r1), (.ref sb)])) rfl rfl (hb hby d4_135)
      refine own_by (st52) ?_
      have F52 : FA Z h52 sb .int 4 (fun i => .int ((updI sl rn1 (z + (1 : Int32))) i)) := F54.setI W52
      have N52 := Fr.snoc X52 N48 g_sb
      have Z52 : n0 ≤ h52.size := Nat.le_trans Z48 (Keep.of_wr W52).1
      have K52 : Keep h0 h52 [a, kb, sb] := K48.wr W52 (Or.inl (List.mem_of_getElem? (i := 2) rfl))
      show OEnds p e below s _ _ _ (T52.setTop (mkF m 136 #[.val (.ref a), .val (.long kk), .second, .val (.int r1)] []))
      refine own_by (fun _ k => XS.aloadN X52.here hx rfl (hb hby d4_136) rfl rfl k) ?_
      show OEnds p e below s _ _ _ (T52.setTop (mkF m 137 #[.val (.ref a), .val (.long kk), .second, .val (.int r1)] [(.ref a)]))
      have O56 : Obj Z h52 a "com/example/tristream/tristream/LongIndex" sch_li [(.ref kb), (.ref sb), (.int (62 : Int32)), (.int (z + (1 : Int32)))] := (O48.other W52 (O48.ne_fa (hw _ (List.mem_of_getElem? (i := 1) rfl)) F54))
      obtain ⟨T55, X55, e55, st55⟩ := getF X52 hx hZ hown (host := "") (Or.inl (hw _ (List.mem_of_getElem? (i := 36) rfl))) Via.refl e52 (O56.fld 3 rfl rfl) (g := (mkF m 137 #[.val (.ref a), .val (.long kk), .second, .val (.int r1)] [(.ref a)])) rfl rfl (hb hby d4_137)
      refine own_by (st55) ?_
      show OEnds p e below s _ _ _ (T55.setTop (mkF m 140 #[.val (.ref a), .val (.long kk), .second, .val (.int r1)] [(.int (z + (1 : Int32)))]))
      refine own_by (fun _ k => XS.iconst X55.here hx rfl (hb hby d4_140) k) ?_
      show OEnds p e below s _ _ _ (T55.setTop (mkF m 141 #[.val (.ref a), .val (.long kk), .second, .val (.int r1)] [(.int (1 : Int32)), (.int (z + (1 : Int32)))]))
      refine own_by (fun _ k => XS.isub X55.here hx rfl (hb hby d4_141) rfl k) ?_
      show OEnds p e below s _ _ _ (T55.setTop (mkF m 142 #[.val (.ref a), .val (.long kk), .second, .val (.int r1)] [(.int ((z + (1 : Int32)) - (1 : Int32)))]))
      have F57 : FA Z h52 kb .long 2 (fun i => .long ((updL kf ks.length kk) i)) := (F53.other W52 (F53.ne_ty F54 (by decide)))
      exact own_retI X55 hx hlk Bd.returns (hb hby d4_142) (by rw [e55]; exact ⟨_, rfl, N52, K52, kb, sb, _, _, _, _, _, _, _, Or.inl rfl, Or.inl rfl, g_kb, g_sb, Or.inr ⟨add_new hLI hst1 hc12_3, rfl⟩, idx_new (zdec (zinc hz (by omega)) (by omega)), (fun _ => ⟨rfl, rfl, rfl⟩), (li_add4 hLI hst1 hc12_3 hk1), O56, F57, F52⟩) (by decide) (by decide)
  · refine own_by (fun _ k => XS.ifNo X2.here hx rfl (hb hby d4_12) rfl ((if0 _ _).trans (feq hc12_3).1) k) ?_
    show OEnds p e below s _ _ _ (T2.setTop (mkF m 15 #[.val (.ref a), .val (.long kk), .second, .val (.int r1)] []))
    refine own_by (fun _ k => XS.aloadN X2.here hx rfl (hb hby d4_15) rfl rfl k) ?_
    show OEnds p e below s _ _ _ (T2.setTop (mkF m 16 #[.val (.ref a), .val (.long kk), .second, .val (.int r1)] [(.ref a)]))
    obtain ⟨T58, X58, e58, st58⟩ := getF X2 hx hZ hown (host := "") (Or.inl (hw _ (List.mem_of_getElem? (i := 13) rfl))) Via.refl e2 (O0.fld 1 rfl rfl) (g := (mkF m 16 #[.val (.ref a), .val (.long kk), .second, .val (.int r1)] [(.ref a)])) rfl rfl (hb hby d4_16)
    refine own_by (st58) ?_
    show OEnds p e below s _ _ _ (T58.setTop (mkF m 19 #[.val (.ref a), .val (.long kk), .second, .val (.int r1)] [(.ref sb)]))
    refine own_by (fun _ k => XS.iloadN X58.here hx rfl (hb hby d4_19) rfl k) ?_
    show OEnds p e below s _ _ _ (T58.setTop (mkF m 20 #[.val (.ref a), .val (.long kk), .second, .val (.int r1)] [(.int r1), (.ref sb)]))
    refine own_by (own_iaload X58 hx hZ e58 F_sb rn1 hr1 hst1.lt (v := (.int (sl rn1))) rfl (g := (mkF m 20 #[.val (.ref a), .val (.long kk), .second, .val (.int r1)] [(.int r1), (.ref sb)])) rfl rfl (hb hby d4_20)) ?_
    show OEnds p e below s _ _ _ (T58.setTop (mkF m 21 #[.val (.ref a), .val (.long kk), .second, .val (.int r1)] [(.int (sl rn1))]))
    refine own_by (fun _ k => XS.iconst X58.here hx rfl (hb hby d4_21) k) ?_
    show OEnds p e below s _ _ _ (T58.setTop (mkF m 22 #[.val (.ref a), .val (.long kk), .second, .val (.int r1)] [(.int (1 : Int32)), (.int (sl rn1))]))
    refine own_by (fun _ k => XS.isub X58.here hx rfl (hb hby d4_22) rfl k) ?_
    show OEnds p e below s _ _ _ (T58.setTop (mkF m 23 #[.val (.ref a), .val (.long kk), .second, .val (.int r1)] [(.int ((sl rn1) - (1 : Int32)))]))
    exact own_retI X58 hx hlk Bd.returns (hb hby d4_23) (by rw [e58]; exact ⟨_, rfl, N1, K0, kb, sb, _, _, _, _, _, _, _, Or.inl rfl, Or.inl rfl, g_kb, g_sb, (add_found hLI hst1 hc12_3).1, li_idx hLI hst1, (fun _ => ⟨rfl, rfl, rfl⟩), hLI, O0, F_kb, F_sb⟩) (by decide) (by decide)
theorem d13_0 : decode prog_25_method_9_code 0 = .ok (.aload_n 0, 1) := by decide +kernel
theorem d13_1 : decode prog_25_method_9_code 1 = .ok (.getfield 13, 3) := by decide +kernel
theorem d13_4 : decode prog_25_method_9_code 4 = .ok (.arraylength, 1) := by decide +kernel
theorem d13_5 : decode prog_25_method_9_code 5 = .ok (.iconst 1, 1) := by decide +kernel
theorem d13_6 : decode prog_25_method_9_code 6 = .ok (.isub, 1) := by decide +kernel
theorem d13_7 : decode prog_25_method_9_code 7 = .ok (.istore_n 2, 1) := by decide +kernel
theorem d13_8 : decode prog_25_method_9_code 8 = .ok (.iload_n 1, 1) := by decide +kernel
theorem d13_9 : decode prog_25_method_9_code 9 = .ok (.istore_n 3, 1) := by decide +kernel
theorem d13_10 : decode prog_25_method_9_code 10 = .ok (.iload_n 1, 1) := by decide +kernel
theorem d13_11 : decode prog_25_method_9_code 11 = .ok (.iconst 1, 1) := by decide +kernel
theorem d13_12 : decode prog_25_method_9_code 12 = .ok (.iadd, 1) := by decide +kernel
theorem d13_13 : decode prog_25_method_9_code 13 = .ok (.iload_n 2, 1) := by decide +kernel
theorem d13_14 : decode prog_25_method_9_code 14 = .ok (.iand, 1) := by decide +kernel
theorem d13_15 : decode prog_25_method_9_code 15 = .ok (.istore 4, 2) := by decide +kernel
theorem d13_17 : decode prog_25_method_9_code 17 = .ok (.aload_n 0, 1) := by decide +kernel
theorem d13_18 : decode prog_25_method_9_code 18 = .ok (.getfield 13, 3) := by decide +kernel
theorem d13_21 : decode prog_25_method_9_code 21 = .ok (.iload 4, 2) := by decide +kernel
theorem d13_23 : decode prog_25_method_9_code 23 = .ok (.iaload, 1) := by decide +kernel
theorem d13_24 : decode prog_25_method_9_code 24 = .ok (.ifCond .eq 66, 3) := by decide +kernel
theorem d13_27 : decode prog_25_method_9_code 27 = .ok (.aload_n 0, 1) := by decide +kernel
theorem d13_28 : decode prog_25_method_9_code 28 = .ok (.aload_n 0, 1) := by decide +kernel
theorem d13_29 : decode prog_25_method_9_code 29 = .ok (.getfield 9, 3) := by decide +kernel
theorem d13_32 : decode prog_25_method_9_code 32 = .ok (.aload_n 0, 1) := by decide +kernel
theorem d13_33 : decode prog_25_method_9_code 33 = .ok (.getfield 13, 3) := by decide +kernel
theorem d13_36 : decode prog_25_method_9_code 36 = .ok (.iload 4, 2) := by decide +kernel
theorem d13_38 : decode prog_25_method_9_code 38 = .ok (.iaload, 1) := by decide +kernel
theorem d13_39 : decode prog_25_method_9_code 39 = .ok (.iconst 1, 1) := by decide +kernel
theorem d13_40 : decode prog_25_method_9_code 40 = .ok (.isub, 1) := by decide +kernel
theorem d13_41 : decode prog_25_method_9_code 41 = .ok (.laload, 1) := by decide +kernel
theorem d13_42 : decode prog_25_method_9_code 42 = .ok (.invokevirtual 55, 3) := by decide +kernel
theorem d13_45 : decode prog_25_method_9_code 45 = .ok (.istore 5, 2) := by decide +kernel
theorem d13_47 : decode prog_25_method_9_code 47 = .ok (.iload 4, 2) := by decide +kernel
theorem d13_49 : decode prog_25_method_9_code 49 = .ok (.iload 5, 2) := by decide +kernel
theorem d13_51 : decode prog_25_method_9_code 51 = .ok (.isub, 1) := by decide +kernel
theorem d13_52 : decode prog_25_method_9_code 52 = .ok (.iload_n 2, 1) := by decide +kernel
theorem d13_53 : decode prog_25_method_9_code 53 = .ok (.iand, 1) := by decide +kernel
theorem d13_54 : decode prog_25_method_9_code 54 = .ok (.iload 4, 2) := by decide +kernel
theorem d13_56 : decode prog_25_method_9_code 56 = .ok (.iload_n 3, 1) := by decide +kernel
theorem d13_57 : decode prog_25_method_9_code 57 = .ok (.isub, 1) := by decide +kernel
theorem d13_58 : decode prog_25_method_9_code 58 = .ok (.iload_n 2, 1) := by decide +kernel
theorem d13_59 : decode prog_25_method_9_code 59 = .ok (.iand, 1) := by decide +kernel
theorem d13_60 : decode prog_25_method_9_code 60 = .ok (.if_icmp .lt 19, 3) := by decide +kernel
theorem d13_63 : decode prog_25_method_9_code 63 = .ok (.aload_n 0, 1) := by decide +kernel
theorem d13_64 : decode prog_25_method_9_code 64 = .ok (.getfield 13, 3) := by decide +kernel
theorem d13_67 : decode prog_25_method_9_code 67 = .ok (.iload_n 3, 1) := by decide +kernel
theorem d13_68 : decode prog_25_method_9_code 68 = .ok (.aload_n 0, 1) := by decide +kernel
theorem d13_69 : decode prog_25_method_9_code 69 = .ok (.getfield 13, 3) := by decide +kernel
theorem d13_72 : decode prog_25_method_9_code 72 = .ok (.iload 4, 2) := by decide +kernel
theorem d13_74 : decode prog_25_method_9_code 74 = .ok (.iaload, 1) := by decide +kernel
theorem d13_75 : decode prog_25_method_9_code 75 = .ok (.iastore, 1) := by decide +kernel
theorem d13_76 : decode prog_25_method_9_code 76 = .ok (.iload 4, 2) := by decide +kernel
theorem d13_78 : decode prog_25_method_9_code 78 = .ok (.istore_n 3, 1) := by decide +kernel
theorem d13_79 : decode prog_25_method_9_code 79 = .ok (.iload 4, 2) := by decide +kernel
theorem d13_81 : decode prog_25_method_9_code 81 = .ok (.iconst 1, 1) := by decide +kernel
theorem d13_82 : decode prog_25_method_9_code 82 = .ok (.iadd, 1) := by decide +kernel
theorem d13_83 : decode prog_25_method_9_code 83 = .ok (.iload_n 2, 1) := by decide +kernel
theorem d13_84 : decode prog_25_method_9_code 84 = .ok (.iand, 1) := by decide +kernel
theorem d13_85 : decode prog_25_method_9_code 85 = .ok (.istore 4, 2) := by decide +kernel
theorem d13_87 : decode prog_25_method_9_code 87 = .ok (.goto (-70), 3) := by decide +kernel
theorem d13_90 : decode prog_25_method_9_code 90 = .ok (.aload_n 0, 1) := by decide +kernel
theorem d13_91 : decode prog_25_method_9_code 91 = .ok (.getfield 13, 3) := by decide +kernel
theorem d13_94 : decode prog_25_method_9_code 94 = .ok (.iload_n 3, 1) := by decide +kernel
theorem d13_95 : decode prog_25_method_9_code 95 = .ok (.iconst 0, 1) := by decide +kernel
theorem d13_96 : decode prog_25_method_9_code 96 = .ok (.iastore, 1) := by decide +kernel
theorem d13_97 : decode prog_25_method_9_code 97 = .ok (.return_, 1) := by decide +kernel
theorem pn_13 : plainName "com/example/tristream/tristream/LongIndex" = true := by first | (simp [plainName, overriddenIn]; done) | decide +kernel
theorem ef_13 (m : MethodId) (x0 : Addr) (x1 : Int32) : entryFrame m #[(.ref x0), (.int x1)] 6 = mkF m 0 #[.val (.ref x0), .val (.int x1), .unset, .unset, .unset, .unset] [] := by first | (simp [entryFrame, mkF, argsToLocals, Value.category]; done) | rfl
def Q_liclear (Z : State) (a sb : Addr) (S : Nat) (sf : Int32) (sl : Nat → Int32) (kf : Nat → Int64) (i0 nk : Nat) (h0 : Heap) (n0 : Nat) (r : Option Value) (h : Heap) (L : List Loc) : Prop := r = none ∧ Fr n0 L ∧ Keep h0 h [sb] ∧ ∃ sl' : Nat → Int32, Cl S sf sl' kf (fun j => j < nk ∧ j ≠ i0) ∧ FA Z h sb .int S (fun i => .int (sl' i))
set_option maxRecDepth 65536 in
set_option maxHeartbeats 40000000 in
theorem rm_liclear (l : Launch) (Z : State) (a0 : Array Value) (hw : ∀ d ∈ tables_1, d.before a0 Z = true) (ws : List Jvm.Cond) (a : Addr) (ri : Int32) (kb : Addr) (sb : Addr) (z : Int32) (sf : Int32) (kn : Nat) (kf : Nat → Int64) (S : Nat) (sl : Nat → Int32) (i0 : Nat) (nk : Nat) (rn0 : Nat) (h0 : Heap) (n0 : Nat) (Z0 : n0 ≤ h0.size) (O0 : Obj Z h0 a "com/example/tristream/tristream/LongIndex" sch_li [(.ref kb), (.ref sb), (.int sf), (.int z)]) (F_kb : FA Z h0 kb .long kn (fun i => .long (kf i))) (F_sb : FA Z h0 sb .int S (fun i => .int (sl i))) (g_sb : n0 ≤ sb) (hFo : Fo S sf sl kn) (hri : ri.toInt = (rn0 : Int)) (hr : rn0 < S) (hg : gn sl rn0 = i0 + 1) (hInv : Inv S (fun i => hm sf (kf i)) (gn sl) (fun i => i < nk)) :
    MetFree l (⟨"com/example/tristream/tristream/LongIndex", "clear", "(I)V"⟩ : MethodName) (head1 (Jvm.Cond.code (⟨"com/example/tristream/tristream/LongIndex", "clear", "(I)V"⟩ : MethodName) prog_25_method_9_code 6 none :: ws) ({ frames := 1, cells := 0, slots := 0, locals := 14 } : Room)) (fun a_ U => a_ = #[(.ref a), (.int ri)] ∧ Z.Warmed39 U.vm ∧ U.heap = h0) (fun _ _ _ _ _ => True) (fun _ U o U' => ∃ v_ L_, o = .returned v_ ∧ Q_liclear Z a sb S sf sl kf i0 nk h0 n0 v_ U'.heap L_ ∧ FrameEnd U o U' L_ ({ frames := 1, cells := 0, slots := 0, locals := 14 } : Room).cells ({ frames := 1, cells := 0, slots := 0, locals := 14 } : Room).slots) := by
  refine MetFree.of_bodySF (plainFor_of_name pn_13) hisR ?_
  intro p e s m args below meth c s₁ Bd hml0 hP hK
  obtain ⟨rfl, hZ, hh⟩ := hP
  have hx := Bd.exec
  have hby := Bd.bytes
  have hlk : meth.locks = false := Bd.notSynchronized
  have hml : c.maxLocals = 6 := hml0
  have hown : s.vm.findClass "com/example/tristream/tristream/LongIndex" = some m.cls := findClass_of_methodNamed Bd.named
  have hnm := (name_of_methodNamed Bd.named Bd.method).1
  have X0 : Stand p l e ({ frames := 1, cells := 0, slots := 0, locals := 14 } : Room) s m #[(.ref a), (.int ri)] below meth c s₁ [] 0 0 := Stand.of_body Bd
  have e0 : s₁.heap = h0 := by rw [← hh, Bd.state]; rfl
  have N0 := Fr.nil n0
  have K0 : Keep h0 h0 [sb] := Keep.refl _ _
  show OEnds p e below s (Q_liclear Z a sb S sf sl kf i0 nk h0 n0) _ _ _
  refine own_by (fun t k => castTop (ef_13 m a ri) k) ?_
  show OEnds p e below s _ _ _ (s₁.setTop (mkF m 0 #[.val (.ref a), .val (.int ri), .unset, .unset, .unset, .unset] []))
  refine own_by (fun _ k => XS.aloadN X0.here hx rfl (hb hby d13_0) rfl rfl k) ?_
  show OEnds p e below s _ _ _ (s₁.setTop (mkF m 1 #[.val (.ref a), .val (.int ri), .unset, .unset, .unset, .unset] [(.ref a)]))
  obtain ⟨T1, X1, e1, st1⟩ := getF X0 hx hZ hown (host := "") (Or.inl (hw _ (List.mem_of_getElem? (i := 13) rfl))) Via.refl e0 (O0.fld 1 rfl rfl) (g := (mkF m 1 #[.val (.ref a), .val (.int ri), .unset, .unset, .unset, .unset] [(.ref a)])) rfl rfl (hb hby d13_1)
  refine own_by (st1) ?_
  show OEnds p e below s _ _ _ (T1.setTop (mkF m 4 #[.val (.ref a), .val (.int ri), .unset, .unset, .unset, .unset] [(.ref sb)]))
  refine own_by (own_len X1 hx hZ e1 F_sb (z := (Int32.ofNat S)) rfl (g := (mkF m 4 #[.val (.ref a), .val (.int ri), .unset, .unset, .unset, .unset] [(.ref sb)])) rfl rfl (hb hby d13_4)) ?_
  show OEnds p e below s _ _ _ (T1.setTop (mkF m 5 #[.val (.ref a), .val (.int ri), .unset, .unset, .unset, .unset] [(.int (Int32.ofNat S))]))
  refine own_by (fun _ k => XS.iconst X1.here hx rfl (hb hby d13_5) k) ?_
  show OEnds p e below s _ _ _ (T1.setTop (mkF m 6 #[.val (.ref a), .val (.int ri), .unset, .unset, .unset, .unset] [(.int (1 : Int32)), (.int (Int32.ofNat S))]))
  refine own_by (fun _ k => XS.isub X1.here hx rfl (hb hby d13_6) rfl k) ?_
  show OEnds p e below s _ _ _ (T1.setTop (mkF m 7 #[.val (.ref a), .val (.int ri), .unset, .unset, .unset, .unset] [(.int ((Int32.ofNat S) - (1 : Int32)))]))
  refine own_by (fun _ k => XS.istoreN X1.here hx rfl (hb hby d13_7) rfl (l' := #[.val (.ref a), .val (.int ri), .val (.int ((Int32.ofNat S) - (1 : Int32))), .unset, .unset, .unset]) rfl k) ?_
  show OEnds p e below s _ _ _ (T1.setTop (mkF m 8 #[.val (.ref a), .val (.int ri), .val (.int ((Int32.ofNat S) - (1 : Int32))), .unset, .unset, .unset] []))
  refine own_by (fun _ k => XS.iloadN X1.here hx rfl (hb hby d13_8) rfl k) ?_
  show OEnds p e below s _ _ _ (T1.setTop (mkF m 9 #[.val (.ref a), .val (.int ri), .val (.int ((Int32.ofNat S) - (1 : Int32))), .unset, .unset, .unset] [(.int ri)]))
  refine own_by (fun _ k => XS.istoreN X1.here hx rfl (hb hby d13_9) rfl (l' := #[.val (.ref a), .val (.int ri), .val (.int ((Int32.ofNat S) - (1 : Int32))), .val (.int ri), .unset, .unset]) rfl k) ?_
  show OEnds p e below s _ _ _ (T1.setTop (mkF m 10 #[.val (.ref a), .val (.int ri), .val (.int ((Int32.ofNat S) - (1 : Int32))), .val (.int ri), .unset, .unset] []))
  refine own_by (fun _ k => XS.iloadN X1.here hx rfl (hb hby d13_10) rfl k) ?_
  show OEnds p e below s _ _ _ (T1.setTop (mkF m 11 #[.val (.ref a), .val (.int ri), .val (.int ((Int32.ofNat S) - (1 : Int32))), .val (.int ri), .unset, .unset] [(.int ri)]))
  refine own_by (fun _ k => XS.iconst X1.here hx rfl (hb hby d13_11) k) ?_
  show OEnds p e below s _ _ _ (T1.setTop (mkF m 12 #[.val (.ref a), .val (.int ri), .val (.int ((Int32.ofNat S) - (1 : Int32))), .val (.int ri), .unset, .unset] [(.int (1 : Int32)), (.int ri)]))
  refine own_by (fun _ k => XS.iadd X1.here hx rfl (hb hby d13_12) rfl k) ?_
  show OEnds p e below s _ _ _ (T1.setTop (mkF m 13 #[.val (.ref a), .val (.int ri), .val (.int ((Int32.ofNat S) - (1 : Int32))), .val (.int ri), .unset, .unset] [(.int (ri + (1 : Int32)))]))
  refine own_by (fun _ k => XS.iloadN X1.here hx rfl (hb hby d13_13) rfl k) ?_
  show OEnds p e below s _ _ _ (T1.setTop (mkF m 14 #[.val (.ref a), .val (.int ri), .val (.int ((Int32.ofNat S) - (1 : Int32))), .val (.int ri), .unset, .unset] [(.int ((Int32.ofNat S) - (1 : Int32))), (.int (ri + (1 : Int32)))]))
  refine own_by (fun _ k => XS.iand X1.here hx rfl (hb hby d13_14) rfl k) ?_
  show OEnds p e below s _ _ _ (T1.setTop (mkF m 15 #[.val (.ref a), .val (.int ri), .val (.int ((Int32.ofNat S) - (1 : Int32))), .val (.int ri), .unset, .unset] [(.int ((ri + (1 : Int32)) &&& ((Int32.ofNat S) - (1 : Int32))))]))
  refine own_by (fun _ k => XS.istore X1.here hx rfl (hb hby d13_15) rfl (l' := #[.val (.ref a), .val (.int ri), .val (.int ((Int32.ofNat S) - (1 : Int32))), .val (.int ri), .val (.int ((ri + (1 : Int32)) &&& ((Int32.ofNat S) - (1 : Int32)))), .unset]) rfl k) ?_
  show OEnds p e below s _ _ _ (T1.setTop (mkF m 17 #[.val (.ref a), .val (.int ri), .val (.int ((Int32.ofNat S) - (1 : Int32))), .val (.int ri), .val (.int ((ri + (1 : Int32)) &&& ((Int32.ofNat S) - (1 : Int32)))), .unset] []))
  obtain ⟨hSz, hk4, hnnA, hbdA, sA, hsA1, hsA0⟩ := hFo
  have hS0 : 0 < S := by omega
  obtain ⟨D, hD1, hD0⟩ := far hSz.or hr hsA1
  have hso := hSz.or
  have hDp : 0 < D := by
    rcases Nat.eq_zero_or_pos D with q | q
    · rw [q, Nat.add_zero, Nat.mod_eq_of_lt hr] at hD0; rw [← hD0, hg] at hsA0; omega
    · exact q
  obtain ⟨s0, es0⟩ : ∃ s0, s0 = sA := ⟨_, rfl⟩
  rw [← es0] at hsA1 hsA0 hD0
  have lp : ∀ (j : Nat) (T : State) (lo : List Loc) (hv : Int32) (nv : Int32) (d5 : Int32) (cl : Nat → Int32) (hole : Nat) (K : Nat) (h_lp : Heap) (Zz_lp : n0 ≤ h_lp.size) (X_lp : Stand p l e ({ frames := 1, cells := 0, slots := 0, locals := 14 } : Room) s m #[(.ref a), (.int ri)] below meth c T lo 0 0) (e_lp : T.heap = h_lp) (N_lp : Fr n0 lo) (Kp_lp : Keep h0 h_lp [sb]) (Ob_lp_a : Obj Z h_lp a "com/example/tristream/tristream/LongIndex" sch_li [(.ref kb), (.ref sb), (.int sf), (.int z)]) (Fa_lp_kb : FA Z h_lp kb .long kn (fun i => .long (kf i))) (Fa_lp_sb : FA Z h_lp sb .int S (fun i => .int (cl i))) (hhv : hv.toInt = (hole : Int)) (hnv : nv.toInt = ((((hole + K) % S) : Nat) : Int)) (hP : Part S (fun i => hm sf (kf i)) (hol cl hole) (fun j => j < nk ∧ j ≠ i0) hole K) (hK : 0 < K) (hKS : K + j < S) (hs0 : (hole + K + j) % S = s0) (hz0 : gn cl s0 = 0) (hnn : ∀ s, s < S → 0 ≤ (cl s).toInt) (hbd : ∀ s, s < S → gn cl s ≠ 0 → gn cl s - 1 < kn), OEnds p e below s (Q_liclear Z a sb S sf sl kf i0 nk h0 n0) 0 0 (T.setTop (mkF m 17 #[.val (.ref a), .val (.int ri), .val (.int ((Int32.ofNat S) - (1 : Int32))), .val (.int hv), .val (.int nv), .val (.int d5)] [])) := by
    intro j
    induction j with
    | zero =>
      intro T lo hv nv d5 cl hole K h_lp Zz_lp X_lp e_lp N_lp Kp_lp Ob_lp_a Fa_lp_kb Fa_lp_sb hhv hnv hP hK hKS hs0 hz0 hnn hbd
      show OEnds p e below s _ _ _ (T.setTop (mkF m 17 #[.val (.ref a), .val (.int ri), .val (.int ((Int32.ofNat S) - (1 : Int32))), .val (.int hv), .val (.int nv), .val (.int d5)] []))
      have hlt : ((hole + K) % S) < S := Nat.mod_lt _ hS0
      have hnn0 := hnn _ hlt
      have hzz : cl ((hole + K) % S) = (0 : Int32) := gn_zero hnn0 (by rw [Nat.add_zero] at hs0; rw [hs0]; exact hz0)
      show OEnds p e below s _ _ _ (T.setTop (mkF m 17 #[.val (.ref a), .val (.int ri), .val (.int ((Int32.ofNat S) - (1 : Int32))), .val (.int hv), .val (.int nv), .val (.int d5)] []))
      refine own_by (fun _ k => XS.aloadN X_lp.here hx rfl (hb hby d13_17) rfl rfl k) ?_
      show OEnds p e below s _ _ _ (T.setTop (mkF m 18 #[.val (.ref a), .val (.int ri), .val (.int ((Int32.ofNat S) - (1 : Int32))), .val (.int hv), .val (.int nv), .val (.int d5)] [(.ref a)]))
      obtain ⟨T2, X2, e2, st2⟩ := getF X_lp hx hZ hown (host := "") (Or.inl (hw _ (List.mem_of_getElem? (i := 13) rfl))) Via.refl e_lp (Ob_lp_a.fld 1 rfl rfl) (g := (mkF m 18 #[.val (.ref a), .val (.int ri), .val (.int ((Int32.ofNat S) - (1 : Int32))), .val (.int hv), .val (.int nv), .val (.int d5)] [(.ref a)])) rfl rfl (hb hby d13_18)
      refine own_by (st2) ?_
      show OEnds p e below s _ _ _ (T2.setTop (mkF m 21 #[.val (.ref a), .val (.int ri), .val (.int ((Int32.ofNat S) - (1 : Int32))), .val (.int hv), .val (.int nv), .val (.int d5)] [(.ref sb)]))
      refine own_by (fun _ k => XS.iload X2.here hx rfl (hb hby d13_21) rfl k) ?_
      show OEnds p e below s _ _ _ (T2.setTop (mkF m 23 #[.val (.ref a), .val (.int ri), .val (.int ((Int32.ofNat S) - (1 : Int32))), .val (.int hv), .val (.int nv), .val (.int d5)] [(.int nv), (.ref sb)]))
      refine own_by (own_iaload X2 hx hZ e2 Fa_lp_sb ((hole + K) % S) hnv hlt (v := (.int (cl ((hole + K) % S)))) rfl (g := (mkF m 23 #[.val (.ref a), .val (.int ri), .val (.int ((Int32.ofNat S) - (1 : Int32))), .val (.int hv), .val (.int nv), .val (.int d5)] [(.int nv), (.ref sb)])) rfl rfl (hb hby d13_23)) ?_
      show OEnds p e below s _ _ _ (T2.setTop (mkF m 24 #[.val (.ref a), .val (.int ri), .val (.int ((Int32.ofNat S) - (1 : Int32))), .val (.int hv), .val (.int nv), .val (.int d5)] [(.int (cl ((hole + K) % S)))]))
      refine own_by (fun _ k => XS.ifYes X2.here hx rfl (pc0 := 24) (pc' := 90) rfl (hb hby d13_24) rfl ((if0 _ _).trans (teq hzz).1) (by decide) (by decide) k) ?_
      show OEnds p e below s _ _ _ (T2.setTop (mkF m 90 #[.val (.ref a), .val (.int ri), .val (.int ((Int32.ofNat S) - (1 : Int32))), .val (.int hv), .val (.int nv), .val (.int d5)] []))
      refine own_by (fun _ k => XS.aloadN X2.here hx rfl (hb hby d13_90) rfl rfl k) ?_
      show OEnds p e below s _ _ _ (T2.setTop (mkF m 91 #[.val (.ref a), .val (.int ri), .val (.int ((Int32.ofNat S) - (1 : Int32))), .val (.int hv), .val (.int nv), .val (.int d5)] [(.ref a)]))
      obtain ⟨T3, X3, e3, st3⟩ := getF X2 hx hZ hown (host := "") (Or.inl (hw _ (List.mem_of_getElem? (i := 13) rfl))) Via.refl e2 (Ob_lp_a.fld 1 rfl rfl) (g := (mkF m 91 #[.val (.ref a), .val (.int ri), .val (.int ((Int32.ofNat S) - (1 : Int32))), .val (.int hv), .val (.int nv), .val (.int d5)] [(.ref a)])) rfl rfl (hb hby d13_91)
      refine own_by (st3) ?_
      show OEnds p e below s _ _ _ (T3.setTop (mkF m 94 #[.val (.ref a), .val (.int ri), .val (.int ((Int32.ofNat S) - (1 : Int32))), .val (.int hv), .val (.int nv), .val (.int d5)] [(.ref sb)]))
      refine own_by (fun _ k => XS.iloadN X3.here hx rfl (hb hby d13_94) rfl k) ?_
      show OEnds p e below s _ _ _ (T3.setTop (mkF m 95 #[.val (.ref a), .val (.int ri), .val (.int ((Int32.ofNat S) - (1 : Int32))), .val (.int hv), .val (.int nv), .val (.int d5)] [(.int hv), (.ref sb)]))
      refine own_by (fun _ k => XS.iconst X3.here hx rfl (hb hby d13_95) k) ?_
      show OEnds p e below s _ _ _ (T3.setTop (mkF m 96 #[.val (.ref a), .val (.int ri), .val (.int ((Int32.ofNat S) - (1 : Int32))), .val (.int hv), .val (.int nv), .val (.int d5)] [(.int (0 : Int32)), (.int hv), (.ref sb)]))
      obtain ⟨T4, h4, X4, e4, W4, st4⟩ := own_iastore X3 hx hZ e3 Fa_lp_sb hole hhv hP.1 (g := (mkF m 96 #[.val (.ref a), .val (.int ri), .val (.int ((Int32.ofNat S) - (1 : Int32))), .val (.int hv), .val (.int nv), .val (.int d5)] [(.int (0 : Int32)), (.int hv), (.ref sb)])) rfl rfl (hb hby d13_96)
      refine own_by (st4) ?_
      have F4 : FA Z h4 sb .int S (fun i => .int ((updI cl hole (0 : Int32)) i)) := Fa_lp_sb.setI W4
      have N4 := Fr.snoc X4 N_lp g_sb
      have Z4 : n0 ≤ h4.size := Nat.le_trans Zz_lp (Keep.of_wr W4).1
      have K4 : Keep h0 h4 [sb] := Kp_lp.wr W4 (Or.inl (List.mem_of_getElem? (i := 0) rfl))
      show OEnds p e below s _ _ _ (T4.setTop (mkF m 97 #[.val (.ref a), .val (.int ri), .val (.int ((Int32.ofNat S) - (1 : Int32))), .val (.int hv), .val (.int nv), .val (.int d5)] []))
      exact own_retV X4 hx hlk Bd.returns (hb hby d13_97) (by rw [e4]; exact ⟨rfl, N4, K4, _, ⟨nn_upd hnn (by decide), cl_done hSz.or hP hK (by omega) (gn_of hzz)⟩, F4⟩) (by decide) (by decide)
    | succ j ih_lp =>
      intro T lo hv nv d5 cl hole K h_lp Zz_lp X_lp e_lp N_lp Kp_lp Ob_lp_a Fa_lp_kb Fa_lp_sb hhv hnv hP hK hKS hs0 hz0 hnn hbd
      show OEnds p e below s _ _ _ (T.setTop (mkF m 17 #[.val (.ref a), .val (.int ri), .val (.int ((Int32.ofNat S) - (1 : Int32))), .val (.int hv), .val (.int nv), .val (.int d5)] []))
      have hlt : ((hole + K) % S) < S := Nat.mod_lt _ hS0
      have hnn0 := hnn _ hlt
      show OEnds p e below s _ _ _ (T.setTop (mkF m 17 #[.val (.ref a), .val (.int ri), .val (.int ((Int32.ofNat S) - (1 : Int32))), .val (.int hv), .val (.int nv), .val (.int d5)] []))
      refine own_by (fun _ k => XS.aloadN X_lp.here hx rfl (hb hby d13_17) rfl rfl k) ?_
      show OEnds p e below s _ _ _ (T.setTop (mkF m 18 #[.val (.ref a), .val (.int ri), .val (.int ((Int32.ofNat S) - (1 : Int32))), .val (.int hv), .val (.int nv), .val (.int d5)] [(.ref a)]))
      obtain ⟨T5, X5, e5, st5⟩ := getF X_lp hx hZ hown (host := "") (Or.inl (hw _ (List.mem_of_getElem? (i := 13) rfl))) Via.refl e_lp (Ob_lp_a.fld 1 rfl rfl) (g := (mkF m 18 #[.val (.ref a), .val (.int ri), .val (.int ((Int32.ofNat S) - (1 : Int32))), .val (.int hv), .val (.int nv), .val (.int d5)] [(.ref a)])) rfl rfl (hb hby d13_18)
      refine own_by (st5) ?_
      show OEnds p e below s _ _ _ (T5.setTop (mkF m 21 #[.val (.ref a), .val (.int ri), .val (.int ((Int32.ofNat S) - (1 : Int32))), .val (.int hv), .val (.int nv), .val (.int d5)] [(.ref sb)]))
      refine own_by (fun _ k => XS.iload X5.here hx rfl (hb hby d13_21) rfl k) ?_
      show OEnds p e below s _ _ _ (T5.setTop (mkF m 23 #[.val (.ref a), .val (.int ri), .val (.int ((Int32.ofNat S) - (1 : Int32))), .val (.int hv), .val (.int nv), .val (.int d5)] [(.int nv), (.ref sb)]))
      refine own_by (own_iaload X5 hx hZ e5 Fa_lp_sb ((hole + K) % S) hnv hlt (v := (.int (cl ((hole + K) % S)))) rfl (g := (mkF m 23 #[.val (.ref a), .val (.int ri), .val (.int ((Int32.ofNat S) - (1 : Int32))), .val (.int hv), .val (.int nv), .val (.int d5)] [(.int nv), (.ref sb)])) rfl rfl (hb hby d13_23)) ?_
      show OEnds p e below s _ _ _ (T5.setTop (mkF m 24 #[.val (.ref a), .val (.int ri), .val (.int ((Int32.ofNat S) - (1 : Int32))), .val (.int hv), .val (.int nv), .val (.int d5)] [(.int (cl ((hole + K) % S)))]))
      by_cases hc24_6 : (cl ((hole + K) % S)) = (0 : Int32)
      · refine own_by (fun _ k => XS.ifYes X5.here hx rfl (pc0 := 24) (pc' := 90) rfl (hb hby d13_24) rfl ((if0 _ _).trans (teq hc24_6).1) (by decide) (by decide) k) ?_
        show OEnds p e below s _ _ _ (T5.setTop (mkF m 90 #[.val (.ref a), .val (.int ri), .val (.int ((Int32.ofNat S) - (1 : Int32))), .val (.int hv), .val (.int nv), .val (.int d5)] []))
        refine own_by (fun _ k => XS.aloadN X5.here hx rfl (hb hby d13_90) rfl rfl k) ?_
        show OEnds p e below s _ _ _ (T5.setTop (mkF m 91 #[.val (.ref a), .val (.int ri), .val (.int ((Int32.ofNat S) - (1 : Int32))), .val (.int hv), .val (.int nv), .val (.int d5)] [(.ref a)]))
        obtain ⟨T7, X7, e7, st7⟩ := getF X5 hx hZ hown (host := "") (Or.inl (hw _ (List.mem_of_getElem? (i := 13) rfl))) Via.refl e5 (Ob_lp_a.fld 1 rfl rfl) (g := (mkF m 91 #[.val (.ref a), .val (.int ri), .val (.int ((Int32.ofNat S) - (1 : Int32))), .val (.int hv), .val (.int nv), .val (.int d5)] [(.ref a)])) rfl rfl (hb hby d13_91)
        refine own_by (st7) ?_
        show OEnds p e below s _ _ _ (T7.setTop (mkF m 94 #[.val (.ref a), .val (.int ri), .val (.int ((Int32.ofNat S) - (1 : Int32))), .val (.int hv), .val (.int nv), .val (.int d5)] [(.ref sb)]))
        refine own_by (fun _ k => XS.iloadN X7.here hx rfl (hb hby d13_94) rfl k) ?_
        show OEnds p e below s _ _ _ (T7.setTop (mkF m 95 #[.val (.ref a), .val (.int ri), .val (.int ((Int32.ofNat S) - (1 : Int32))), .val (.int hv), .val (.int nv), .val (.int d5)] [(.int hv), (.ref sb)]))
        refine own_by (fun _ k => XS.iconst X7.here hx rfl (hb hby d13_95) k) ?_
        show OEnds p e below s _ _ _ (T7.setTop (mkF m 96 #[.val (.ref a), .val (.int ri), .val (.int ((Int32.ofNat S) - (1 : Int32))), .val (.int hv), .val (.int nv), .val (.int d5)] [(.int (0 : Int32)), (.int hv), (.ref sb)]))
        obtain ⟨T8, h8, X8, e8, W8, st8⟩ := own_iastore X7 hx hZ e7 Fa_lp_sb hole hhv hP.1 (g := (mkF m 96 #[.val (.ref a), .val (.int ri), .val (.int ((Int32.ofNat S) - (1 : Int32))), .val (.int hv), .val (.int nv), .val (.int d5)] [(.int (0 : Int32)), (.int hv), (.ref sb)])) rfl rfl (hb hby d13_96)
        refine own_by (st8) ?_
        have F8 : FA Z h8 sb .int S (fun i => .int ((updI cl hole (0 : Int32)) i)) := Fa_lp_sb.setI W8
        have N8 := Fr.snoc X8 N_lp g_sb
        have Z8 : n0 ≤ h8.size := Nat.le_trans Zz_lp (Keep.of_wr W8).1
        have K8 : Keep h0 h8 [sb] := Kp_lp.wr W8 (Or.inl (List.mem_of_getElem? (i := 0) rfl))
        show OEnds p e below s _ _ _ (T8.setTop (mkF m 97 #[.val (.ref a), .val (.int ri), .val (.int ((Int32.ofNat S) - (1 : Int32))), .val (.int hv), .val (.int nv), .val (.int d5)] []))
        exact own_retV X8 hx hlk Bd.returns (hb hby d13_97) (by rw [e8]; exact ⟨rfl, N8, K8, _, ⟨nn_upd hnn (by decide), cl_done hSz.or hP hK (by omega) (gn_of hc24_6)⟩, F8⟩) (by decide) (by decide)
      · refine own_by (fun _ k => XS.ifNo X5.here hx rfl (hb hby d13_24) rfl ((if0 _ _).trans (feq hc24_6).1) k) ?_
        show OEnds p e below s _ _ _ (T5.setTop (mkF m 27 #[.val (.ref a), .val (.int ri), .val (.int ((Int32.ofNat S) - (1 : Int32))), .val (.int hv), .val (.int nv), .val (.int d5)] []))
        refine own_by (fun _ k => XS.aloadN X5.here hx rfl (hb hby d13_27) rfl rfl k) ?_
        show OEnds p e below s _ _ _ (T5.setTop (mkF m 28 #[.val (.ref a), .val (.int ri), .val (.int ((Int32.ofNat S) - (1 : Int32))), .val (.int hv), .val (.int nv), .val (.int d5)] [(.ref a)]))
        refine own_by (fun _ k => XS.aloadN X5.here hx rfl (hb hby d13_28) rfl rfl k) ?_
        show OEnds p e below s _ _ _ (T5.setTop (mkF m 29 #[.val (.ref a), .val (.int ri), .val (.int ((Int32.ofNat S) - (1 : Int32))), .val (.int hv), .val (.int nv), .val (.int d5)] [(.ref a), (.ref a)]))
        obtain ⟨T9, X9, e9, st9⟩ := getF X5 hx hZ hown (host := "") (Or.inl (hw _ (List.mem_of_getElem? (i := 10) rfl))) Via.refl e5 (Ob_lp_a.fld 0 rfl rfl) (g := (mkF m 29 #[.val (.ref a), .val (.int ri), .val (.int ((Int32.ofNat S) - (1 : Int32))), .val (.int hv), .val (.int nv), .val (.int d5)] [(.ref a), (.ref a)])) rfl rfl (hb hby d13_29)
        refine own_by (st9) ?_
        show OEnds p e below s _ _ _ (T9.setTop (mkF m 32 #[.val (.ref a), .val (.int ri), .val (.int ((Int32.ofNat S) - (1 : Int32))), .val (.int hv), .val (.int nv), .val (.int d5)] [(.ref kb), (.ref a)]))
        refine own_by (fun _ k => XS.aloadN X9.here hx rfl (hb hby d13_32) rfl rfl k) ?_
        show OEnds p e below s _ _ _ (T9.setTop (mkF m 33 #[.val (.ref a), .val (.int ri), .val (.int ((Int32.ofNat S) - (1 : Int32))), .val (.int hv), .val (.int nv), .val (.int d5)] [(.ref a), (.ref kb), (.ref a)]))
        obtain ⟨T10, X10, e10, st10⟩ := getF X9 hx hZ hown (host := "") (Or.inl (hw _ (List.mem_of_getElem? (i := 13) rfl))) Via.refl e9 (Ob_lp_a.fld 1 rfl rfl) (g := (mkF m 33 #[.val (.ref a), .val (.int ri), .val (.int ((Int32.ofNat S) - (1 : Int32))), .val (.int hv), .val (.int nv), .val (.int d5)] [(.ref a), (.ref kb), (.ref a)])) rfl rfl (hb hby d13_33)
        refine own_by (st10) ?_
        show OEnds p e below s _ _ _ (T10.setTop (mkF m 36 #[.val (.ref a), .val (.int ri), .val (.int ((Int32.ofNat S) - (1 : Int32))), .val (.int hv), .val (.int nv), .val (.int d5)] [(.ref sb), (.ref kb), (.ref a)]))
        refine own_by (fun _ k => XS.iload X10.here hx rfl (hb hby d13_36) rfl k) ?_
        show OEnds p e below s _ _ _ (T10.setTop (mkF m 38 #[.val (.ref a), .val (.int ri), .val (.int ((Int32.ofNat S) - (1 : Int32))), .val (.int hv), .val (.int nv), .val (.int d5)] [(.int nv), (.ref sb), (.ref kb), (.ref a)]))
        refine own_by (own_iaload X10 hx hZ e10 Fa_lp_sb ((hole + K) % S) hnv hlt (v := (.int (cl ((hole + K) % S)))) rfl (g := (mkF m 38 #[.val (.ref a), .val (.int ri), .val (.int ((Int32.ofNat S) - (1 : Int32))), .val (.int hv), .val (.int nv), .val (.int d5)] [(.int nv), (.ref sb), (.ref kb), (.ref a)])) rfl rfl (hb hby d13_38)) ?_
        show OEnds p e below s _ _ _ (T10.setTop (mkF m 39 #[.val (.ref a), .val (.int ri), .val (.int ((Int32.ofNat S) - (1 : Int32))), .val (.int hv), .val (.int nv), .val (.int d5)] [(.int (cl ((hole + K) % S))), (.ref kb), (.ref a)]))
        refine own_by (fun _ k => XS.iconst X10.here hx rfl (hb hby d13_39) k) ?_
        show OEnds p e below s _ _ _ (T10.setTop (mkF m 40 #[.val (.ref a), .val (.int ri), .val (.int ((Int32.ofNat S) - (1 : Int32))), .val (.int hv), .val (.int nv), .val (.int d5)] [(.int (1 : Int32)), (.int (cl ((hole + K) % S))), (.ref kb), (.ref a)]))
        refine own_by (fun _ k => XS.isub X10.here hx rfl (hb hby d13_40) rfl k) ?_
        show OEnds p e below s _ _ _ (T10.setTop (mkF m 41 #[.val (.ref a), .val (.int ri), .val (.int ((Int32.ofNat S) - (1 : Int32))), .val (.int hv), .val (.int nv), .val (.int d5)] [(.int ((cl ((hole + K) % S)) - (1 : Int32))), (.ref kb), (.ref a)]))
        have hgp := gn_pos hnn0 hc24_6
        refine own_by (own_laload X10 hx hZ e10 Fa_lp_kb (gn cl ((hole + K) % S) - 1) (idx_of hnn0 hgp) (hbd _ hlt hgp) (v := (.long (kf (gn cl ((hole + K) % S) - 1)))) rfl (g := (mkF m 41 #[.val (.ref a), .val (.int ri), .val (.int ((Int32.ofNat S) - (1 : Int32))), .val (.int hv), .val (.int nv), .val (.int d5)] [(.int ((cl ((hole + K) % S)) - (1 : Int32))), (.ref kb), (.ref a)])) rfl rfl (hb hby d13_41)) ?_
        show OEnds p e below s _ _ _ (T10.setTop (mkF m 42 #[.val (.ref a), .val (.int ri), .val (.int ((Int32.ofNat S) - (1 : Int32))), .val (.int hv), .val (.int nv), .val (.int d5)] [(.long (kf (gn cl ((hole + K) % S) - 1))), (.ref a)]))
        obtain ⟨T11, X11, e11, st11⟩ := own_callXR X10 hx hZ (y := (⟨"com/example/tristream/tristream/LongIndex", "home", "(J)I"⟩ : MethodName)) hown (hw _ (List.mem_of_getElem? (i := 31) rfl)) (hw _ (List.mem_of_getElem? (i := 32) rfl)) (hw _ (List.mem_of_getElem? (i := 33) rfl)) (hw _ (List.mem_of_getElem? (i := 34) rfl)) (hw _ (List.mem_of_getElem? (i := 2) rfl)) (hw _ (List.mem_of_getElem? (i := 1) rfl)) (by decide) Ob_lp_a.exa (rm_home l Z a0 hw [] a (kf (gn cl ((hole + K) % S) - 1)) kb sb sf z h_lp n0 Zz_lp Ob_lp_a) e10 (g := (mkF m 42 #[.val (.ref a), .val (.int ri), .val (.int ((Int32.ofNat S) - (1 : Int32))), .val (.int hv), .val (.int nv), .val (.int d5)] [(.long (kf (gn cl ((hole + K) % S) - 1))), (.ref a)])) rfl (by rw [hml]; rfl) (argsL := [(.long (kf (gn cl ((hole + K) % S) - 1)))]) (rest := []) (lenOf pd_pJrI rfl) rfl (W := 0) (by show 2 * 0 + _ ≤ _; exact Nat.le_of_eq rfl) (hb hby d13_42) (by decide) (by decide) (by decide) (by decide)
        refine own_by (st11) ?_
        show OEnds p e below s _ _ _ (T11.setTop (mkF m 45 #[.val (.ref a), .val (.int ri), .val (.int ((Int32.ofNat S) - (1 : Int32))), .val (.int hv), .val (.int nv), .val (.int d5)] [(.int (home_r (kf (gn cl ((hole + K) % S) - 1)) sf))]))
        refine own_by (fun _ k => XS.istore X11.here hx rfl (hb hby d13_45) rfl (l' := #[.val (.ref a), .val (.int ri), .val (.int ((Int32.ofNat S) - (1 : Int32))), .val (.int hv), .val (.int nv), .val (.int (home_r (kf (gn cl ((hole + K) % S) - 1)) sf))]) rfl k) ?_
        show OEnds p e below s _ _ _ (T11.setTop (mkF m 47 #[.val (.ref a), .val (.int ri), .val (.int ((Int32.ofNat S) - (1 : Int32))), .val (.int hv), .val (.int nv), .val (.int (home_r (kf (gn cl ((hole + K) % S) - 1)) sf))] []))
        refine own_by (fun _ k => XS.iload X11.here hx rfl (hb hby d13_47) rfl k) ?_
        show OEnds p e below s _ _ _ (T11.setTop (mkF m 49 #[.val (.ref a), .val (.int ri), .val (.int ((Int32.ofNat S) - (1 : Int32))), .val (.int hv), .val (.int nv), .val (.int (home_r (kf (gn cl ((hole + K) % S) - 1)) sf))] [(.int nv)]))
        refine own_by (fun _ k => XS.iload X11.here hx rfl (hb hby d13_49) rfl k) ?_
        show OEnds p e below s _ _ _ (T11.setTop (mkF m 51 #[.val (.ref a), .val (.int ri), .val (.int ((Int32.ofNat S) - (1 : Int32))), .val (.int hv), .val (.int nv), .val (.int (home_r (kf (gn cl ((hole + K) % S) - 1)) sf))] [(.int (home_r (kf (gn cl ((hole + K) % S) - 1)) sf)), (.int nv)]))
        refine own_by (fun _ k => XS.isub X11.here hx rfl (hb hby d13_51) rfl k) ?_
        show OEnds p e below s _ _ _ (T11.setTop (mkF m 52 #[.val (.ref a), .val (.int ri), .val (.int ((Int32.ofNat S) - (1 : Int32))), .val (.int hv), .val (.int nv), .val (.int (home_r (kf (gn cl ((hole + K) % S) - 1)) sf))] [(.int (nv - (home_r (kf (gn cl ((hole + K) % S) - 1)) sf)))]))
        refine own_by (fun _ k => XS.iloadN X11.here hx rfl (hb hby d13_52) rfl k) ?_
        show OEnds p e below s _ _ _ (T11.setTop (mkF m 53 #[.val (.ref a), .val (.int ri), .val (.int ((Int32.ofNat S) - (1 : Int32))), .val (.int hv), .val (.int nv), .val (.int (home_r (kf (gn cl ((hole + K) % S) - 1)) sf))] [(.int ((Int32.ofNat S) - (1 : Int32))), (.int (nv - (home_r (kf (gn cl ((hole + K) % S) - 1)) sf)))]))
        refine own_by (fun _ k => XS.iand X11.here hx rfl (hb hby d13_53) rfl k) ?_
        show OEnds p e below s _ _ _ (T11.setTop (mkF m 54 #[.val (.ref a), .val (.int ri), .val (.int ((Int32.ofNat S) - (1 : Int32))), .val (.int hv), .val (.int nv), .val (.int (home_r (kf (gn cl ((hole + K) % S) - 1)) sf))] [(.int ((nv - (home_r (kf (gn cl ((hole + K) % S) - 1)) sf)) &&& ((Int32.ofNat S) - (1 : Int32))))]))
        refine own_by (fun _ k => XS.iload X11.here hx rfl (hb hby d13_54) rfl k) ?_
        show OEnds p e below s _ _ _ (T11.setTop (mkF m 56 #[.val (.ref a), .val (.int ri), .val (.int ((Int32.ofNat S) - (1 : Int32))), .val (.int hv), .val (.int nv), .val (.int (home_r (kf (gn cl ((hole + K) % S) - 1)) sf))] [(.int nv), (.int ((nv - (home_r (kf (gn cl ((hole + K) % S) - 1)) sf)) &&& ((Int32.ofNat S) - (1 : Int32))))]))
        refine own_by (fun _ k => XS.iloadN X11.here hx rfl (hb hby d13_56) rfl k) ?_
        show OEnds p e below s _ _ _ (T11.setTop (mkF m 57 #[.val (.ref a), .val (.int ri), .val (.int ((Int32.ofNat S) - (1 : Int32))), .val (.int hv), .val (.int nv), .val (.int (home_r (kf (gn cl ((hole + K) % S) - 1)) sf))] [(.int hv), (.int nv), (.int ((nv - (home_r (kf (gn cl ((hole + K) % S) - 1)) sf)) &&& ((Int32.ofNat S) - (1 : Int32))))]))
        refine own_by (fun _ k => XS.isub X11.here hx rfl (hb hby d13_57) rfl k) ?_
        show OEnds p e below s _ _ _ (T11.setTop (mkF m 58 #[.val (.ref a), .val (.int ri), .val (.int ((Int32.ofNat S) - (1 : Int32))), .val (.int hv), .val (.int nv), .val (.int (home_r (kf (gn cl ((hole + K) % S) - 1)) sf))] [(.int (nv - hv)), (.int ((nv - (home_r (kf (gn cl ((hole + K) % S) - 1)) sf)) &&& ((Int32.ofNat S) - (1 : Int32))))]))
        refine own_by (fun _ k => XS.iloadN X11.here hx rfl (hb hby d13_58) rfl k) ?_
        show OEnds p e below s _ _ _ (T11.setTop (mkF m 59 #[.val (.ref a), .val (.int ri), .val (.int ((Int32.ofNat S) - (1 : Int32))), .val (.int hv), .val (.int nv), .val (.int (home_r (kf (gn cl ((hole + K) % S) - 1)) sf))] [(.int ((Int32.ofNat S) - (1 : Int32))), (.int (nv - hv)), (.int ((nv - (home_r (kf (gn cl ((hole + K) % S) - 1)) sf)) &&& ((Int32.ofNat S) - (1 : Int32))))]))
        refine own_by (fun _ k => XS.iand X11.here hx rfl (hb hby d13_59) rfl k) ?_
        show OEnds p e below s _ _ _ (T11.setTop (mkF m 60 #[.val (.ref a), .val (.int ri), .val (.int ((Int32.ofNat S) - (1 : Int32))), .val (.int hv), .val (.int nv), .val (.int (home_r (kf (gn cl ((hole + K) % S) - 1)) sf))] [(.int ((nv - hv) &&& ((Int32.ofNat S) - (1 : Int32)))), (.int ((nv - (home_r (kf (gn cl ((hole + K) % S) - 1)) sf)) &&& ((Int32.ofNat S) - (1 : Int32))))]))
        by_cases hc60_12 : ((nv - (home_r (kf (gn cl ((hole + K) % S) - 1)) sf)) &&& ((Int32.ofNat S) - (1 : Int32))) < ((nv - hv) &&& ((Int32.ofNat S) - (1 : Int32)))
        · refine own_by (fun _ k => XS.icmpYes X11.here hx rfl (pc0 := 60) (pc' := 79) rfl (hb hby d13_60) rfl (tlt hc60_12).1 (by decide) (by decide) k) ?_
          show OEnds p e below s _ _ _ (T11.setTop (mkF m 79 #[.val (.ref a), .val (.int ri), .val (.int ((Int32.ofNat S) - (1 : Int32))), .val (.int hv), .val (.int nv), .val (.int (home_r (kf (gn cl ((hole + K) % S) - 1)) sf))] []))
          refine own_by (fun _ k => XS.iload X11.here hx rfl (hb hby d13_79) rfl k) ?_
          show OEnds p e below s _ _ _ (T11.setTop (mkF m 81 #[.val (.ref a), .val (.int ri), .val (.int ((Int32.ofNat S) - (1 : Int32))), .val (.int hv), .val (.int nv), .val (.int (home_r (kf (gn cl ((hole + K) % S) - 1)) sf))] [(.int nv)]))
          refine own_by (fun _ k => XS.iconst X11.here hx rfl (hb hby d13_81) k) ?_
          show OEnds p e below s _ _ _ (T11.setTop (mkF m 82 #[.val (.ref a), .val (.int ri), .val (.int ((Int32.ofNat S) - (1 : Int32))), .val (.int hv), .val (.int nv), .val (.int (home_r (kf (gn cl ((hole + K) % S) - 1)) sf))] [(.int (1 : Int32)), (.int nv)]))
          refine own_by (fun _ k => XS.iadd X11.here hx rfl (hb hby d13_82) rfl k) ?_
          show OEnds p e below s _ _ _ (T11.setTop (mkF m 83 #[.val (.ref a), .val (.int ri), .val (.int ((Int32.ofNat S) - (1 : Int32))), .val (.int hv), .val (.int nv), .val (.int (home_r (kf (gn cl ((hole + K) % S) - 1)) sf))] [(.int (nv + (1 : Int32)))]))
          refine own_by (fun _ k => XS.iloadN X11.here hx rfl (hb hby d13_83) rfl k) ?_
          show OEnds p e below s _ _ _ (T11.setTop (mkF m 84 #[.val (.ref a), .val (.int ri), .val (.int ((Int32.ofNat S) - (1 : Int32))), .val (.int hv), .val (.int nv), .val (.int (home_r (kf (gn cl ((hole + K) % S) - 1)) sf))] [(.int ((Int32.ofNat S) - (1 : Int32))), (.int (nv + (1 : Int32)))]))
          refine own_by (fun _ k => XS.iand X11.here hx rfl (hb hby d13_84) rfl k) ?_
          show OEnds p e below s _ _ _ (T11.setTop (mkF m 85 #[.val (.ref a), .val (.int ri), .val (.int ((Int32.ofNat S) - (1 : Int32))), .val (.int hv), .val (.int nv), .val (.int (home_r (kf (gn cl ((hole + K) % S) - 1)) sf))] [(.int ((nv + (1 : Int32)) &&& ((Int32.ofNat S) - (1 : Int32))))]))
          refine own_by (fun _ k => XS.istore X11.here hx rfl (hb hby d13_85) rfl (l' := #[.val (.ref a), .val (.int ri), .val (.int ((Int32.ofNat S) - (1 : Int32))), .val (.int hv), .val (.int ((nv + (1 : Int32)) &&& ((Int32.ofNat S) - (1 : Int32)))), .val (.int (home_r (kf (gn cl ((hole + K) % S) - 1)) sf))]) rfl k) ?_
          show OEnds p e below s _ _ _ (T11.setTop (mkF m 87 #[.val (.ref a), .val (.int ri), .val (.int ((Int32.ofNat S) - (1 : Int32))), .val (.int hv), .val (.int ((nv + (1 : Int32)) &&& ((Int32.ofNat S) - (1 : Int32)))), .val (.int (home_r (kf (gn cl ((hole + K) % S) - 1)) sf))] []))
          refine own_by (fun _ k => XS.goto X11.here hx rfl (pc0 := 87) (pc' := 17) rfl (hb hby d13_87) (by decide) (by decide) k) ?_
          show OEnds p e below s _ _ _ (T11.setTop (mkF m 17 #[.val (.ref a), .val (.int ri), .val (.int ((Int32.ofNat S) - (1 : Int32))), .val (.int hv), .val (.int ((nv + (1 : Int32)) &&& ((Int32.ofNat S) - (1 : Int32)))), .val (.int (home_r (kf (gn cl ((hole + K) % S) - 1)) sf))] []))
          have hcmp := lt_toI (dist (x := 0) (y := 0) hSz.or hnv (hm_spec hSz (kf (gn cl ((hole + K) % S) - 1))).1 hlt (hm_spec hSz (kf (gn cl ((hole + K) % S) - 1))).2) (dist (x := 0) (y := 0) hSz.or hnv hhv hlt hP.1) hc60_12
          have hso := hSz.or
          exact ih_lp T11 _ hv ((nv + (1 : Int32)) &&& ((Int32.ofNat S) - (1 : Int32))) _ cl hole (K + 1) h_lp Zz_lp X11 e11 N_lp Kp_lp Ob_lp_a Fa_lp_kb Fa_lp_sb hhv (by rw [nxt hSz.or hnv hlt]; congr 1; rcases hso with rfl | rfl <;> omega) (cl_skip hSz.or hP hK (by omega) rfl hgp rfl (hm_spec hSz (kf (gn cl ((hole + K) % S) - 1))).2 hcmp) (by omega) (by omega) (by rw [← hs0]; congr 1; omega) hz0 hnn hbd
        · refine own_by (fun _ k => XS.icmpNo X11.here hx rfl (hb hby d13_60) rfl (flt hc60_12).1 k) ?_
          show OEnds p e below s _ _ _ (T11.setTop (mkF m 63 #[.val (.ref a), .val (.int ri), .val (.int ((Int32.ofNat S) - (1 : Int32))), .val (.int hv), .val (.int nv), .val (.int (home_r (kf (gn cl ((hole + K) % S) - 1)) sf))] []))
          refine own_by (fun _ k => XS.aloadN X11.here hx rfl (hb hby d13_63) rfl rfl k) ?_
          show OEnds p e below s _ _ _ (T11.setTop (mkF m 64 #[.val (.ref a), .val (.int ri), .val (.int ((Int32.ofNat S) - (1 : Int32))), .val (.int hv), .val (.int nv), .val (.int (home_r (kf (gn cl ((hole + K) % S) - 1)) sf))] [(.ref a)]))
          obtain ⟨T13, X13, e13, st13⟩ := getF X11 hx hZ hown (host := "") (Or.inl (hw _ (List.mem_of_getElem? (i := 13) rfl))) Via.refl e11 (Ob_lp_a.fld 1 rfl rfl) (g := (mkF m 64 #[.val (.ref a), .val (.int ri), .val (.int ((Int32.ofNat S) - (1 : Int32))), .val (.int hv), .val (.int nv), .val (.int (home_r (kf (gn cl ((hole + K) % S) - 1)) sf))] [(.ref a)])) rfl rfl (hb hby d13_64)
          refine own_by (st13) ?_
          show OEnds p e below s _ _ _ (T13.setTop (mkF m 67 #[.val (.ref a), .val (.int ri), .val (.int ((Int32.ofNat S) - (1 : Int32))), .val (.int hv), .val (.int nv), .val (.int (home_r (kf (gn cl ((hole + K) % S) - 1)) sf))] [(.ref sb)]))
          refine own_by (fun _ k => XS.iloadN X13.here hx rfl (hb hby d13_67) rfl k) ?_
          show OEnds p e below s _ _ _ (T13.setTop (mkF m 68 #[.val (.ref a), .val (.int ri), .val (.int ((Int32.ofNat S) - (1 : Int32))), .val (.int hv), .val (.int nv), .val (.int (home_r (kf (gn cl ((hole + K) % S) - 1)) sf))] [(.int hv), (.ref sb)]))
          refine own_by (fun _ k => XS.aloadN X13.here hx rfl (hb hby d13_68) rfl rfl k) ?_
          show OEnds p e below s _ _ _ (T13.setTop (mkF m 69 #[.val (.ref a), .val (.int ri), .val (.int ((Int32.ofNat S) - (1 : Int32))), .val (.int hv), .val (.int nv), .val (.int (home_r (kf (gn cl ((hole + K) % S) - 1)) sf))] [(.ref a), (.int hv), (.ref sb)]))
          obtain ⟨T14, X14, e14, st14⟩ := getF X13 hx hZ hown (host := "") (Or.inl (hw _ (List.mem_of_getElem? (i := 13) rfl))) Via.refl e13 (Ob_lp_a.fld 1 rfl rfl) (g := (mkF m 69 #[.val (.ref a), .val (.int ri), .val (.int ((Int32.ofNat S) - (1 : Int32))), .val (.int hv), .val (.int nv), .val (.int (home_r (kf (gn cl ((hole + K) % S) - 1)) sf))] [(.ref a), (.int hv), (.ref sb)])) rfl rfl (hb hby d13_69)
          refine own_by (st14) ?_
          show OEnds p e below s _ _ _ (T14.setTop (mkF m 72 #[.val (.ref a), .val (.int ri), .val (.int ((Int32.ofNat S) - (1 : Int32))), .val (.int hv), .val (.int nv), .val (.int (home_r (kf (gn cl ((hole + K) % S) - 1)) sf))] [(.ref sb), (.int hv), (.ref sb)]))
          refine own_by (fun _ k => XS.iload X14.here hx rfl (hb hby d13_72) rfl k) ?_
          show OEnds p e below s _ _ _ (T14.setTop (mkF m 74 #[.val (.ref a), .val (.int ri), .val (.int ((Int32.ofNat S) - (1 : Int32))), .val (.int hv), .val (.int nv), .val (.int (home_r (kf (gn cl ((hole + K) % S) - 1)) sf))] [(.int nv), (.ref sb), (.int hv), (.ref sb)]))
          refine own_by (own_iaload X14 hx hZ e14 Fa_lp_sb ((hole + K) % S) hnv hlt (v := (.int (cl ((hole + K) % S)))) rfl (g := (mkF m 74 #[.val (.ref a), .val (.int ri), .val (.int ((Int32.ofNat S) - (1 : Int32))), .val (.int hv), .val (.int nv), .val (.int (home_r (kf (gn cl ((hole + K) % S) - 1)) sf))] [(.int nv), (.ref sb), (.int hv), (.ref sb)])) rfl rfl (hb hby d13_74)) ?_
          show OEnds p e below s _ _ _ (T14.setTop (mkF m 75 #[.val (.ref a), .val (.int ri), .val (.int ((Int32.ofNat S) - (1 : Int32))), .val (.int hv), .val (.int nv), .val (.int (home_r (kf (gn cl ((hole + K) % S) - 1)) sf))] [(.int (cl ((hole + K) % S))), (.int hv), (.ref sb)]))
          obtain ⟨T15, h15, X15, e15, W15, st15⟩ := own_iastore X14 hx hZ e14 Fa_lp_sb hole hhv hP.1 (g := (mkF m 75 #[.val (.ref a), .val (.int ri), .val (.int ((Int32.ofNat S) - (1 : Int32))), .val (.int hv), .val (.int nv), .val (.int (home_r (kf (gn cl ((hole + K) % S) - 1)) sf))] [(.int (cl ((hole + K) % S))), (.int hv), (.ref sb)])) rfl rfl (hb hby d13_75)
          refine own_by (st15) ?_
          have F15 : FA Z h15 sb .int S (fun i => .int ((updI cl hole (cl ((hole + K) % S))) i)) := Fa_lp_sb.setI W15
          have N15 := Fr.snoc X15 N_lp g_sb
          have Z15 : n0 ≤ h15.size := Nat.le_trans Zz_lp (Keep.of_wr W15).1
          have K15 : Keep h0 h15 [sb] := Kp_lp.wr W15 (Or.inl (List.mem_of_getElem? (i := 0) rfl))
          show OEnds p e below s _ _ _ (T15.setTop (mkF m 76 #[.val (.ref a), .val (.int ri), .val (.int ((Int32.ofNat S) - (1 : Int32))), .val (.int hv), .val (.int nv), .val (.int (home_r (kf (gn cl ((hole + K) % S) - 1)) sf))] []))
          refine own_by (fun _ k => XS.iload X15.here hx rfl (hb hby d13_76) rfl k) ?_
          show OEnds p e below s _ _ _ (T15.setTop (mkF m 78 #[.val (.ref a), .val (.int ri), .val (.int ((Int32.ofNat S) - (1 : Int32))), .val (.int hv), .val (.int nv), .val (.int (home_r (kf (gn cl ((hole + K) % S) - 1)) sf))] [(.int nv)]))
          refine own_by (fun _ k => XS.istoreN X15.here hx rfl (hb hby d13_78) rfl (l' := #[.val (.ref a), .val (.int ri), .val (.int ((Int32.ofNat S) - (1 : Int32))), .val (.int nv), .val (.int nv), .val (.int (home_r (kf (gn cl ((hole + K) % S) - 1)) sf))]) rfl k) ?_
          show OEnds p e below s _ _ _ (T15.setTop (mkF m 79 #[.val (.ref a), .val (.int ri), .val (.int ((Int32.ofNat S) - (1 : Int32))), .val (.int nv), .val (.int nv), .val (.int (home_r (kf (gn cl ((hole + K) % S) - 1)) sf))] []))
          refine own_by (fun _ k => XS.iload X15.here hx rfl (hb hby d13_79) rfl k) ?_
          show OEnds p e below s _ _ _ (T15.setTop (mkF m 81 #[.val (.ref a), .val (.int ri), .val (.int ((Int32.ofNat S) - (1 : Int32))), .val (.int nv), .val (.int nv), .val (.int (home_r (kf (gn cl ((hole + K) % S) - 1)) sf))] [(.int nv)]))
          refine own_by (fun _ k => XS.iconst X15.here hx rfl (hb hby d13_81) k) ?_
          show OEnds p e below s _ _ _ (T15.setTop (mkF m 82 #[.val (.ref a), .val (.int ri), .val (.int ((Int32.ofNat S) - (1 : Int32))), .val (.int nv), .val (.int nv), .val (.int (home_r (kf (gn cl ((hole + K) % S) - 1)) sf))] [(.int (1 : Int32)), (.int nv)]))
          refine own_by (fun _ k => XS.iadd X15.here hx rfl (hb hby d13_82) rfl k) ?_
          show OEnds p e below s _ _ _ (T15.setTop (mkF m 83 #[.val (.ref a), .val (.int ri), .val (.int ((Int32.ofNat S) - (1 : Int32))), .val (.int nv), .val (.int nv), .val (.int (home_r (kf (gn cl ((hole + K) % S) - 1)) sf))] [(.int (nv + (1 : Int32)))]))
          refine own_by (fun _ k => XS.iloadN X15.here hx rfl (hb hby d13_83) rfl k) ?_
          show OEnds p e below s _ _ _ (T15.setTop (mkF m 84 #[.val (.ref a), .val (.int ri), .val (.int ((Int32.ofNat S) - (1 : Int32))), .val (.int nv), .val (.int nv), .val (.int (home_r (kf (gn cl ((hole + K) % S) - 1)) sf))] [(.int ((Int32.ofNat S) - (1 : Int32))), (.int (nv + (1 : Int32)))]))
          refine own_by (fun _ k => XS.iand X15.here hx rfl (hb hby d13_84) rfl k) ?_
          show OEnds p e below s _ _ _ (T15.setTop (mkF m 85 #[.val (.ref a), .val (.int ri), .val (.int ((Int32.ofNat S) - (1 : Int32))), .val (.int nv), .val (.int nv), .val (.int (home_r (kf (gn cl ((hole + K) % S) - 1)) sf))] [(.int ((nv + (1 : Int32)) &&& ((Int32.ofNat S) - (1 : Int32))))]))
          refine own_by (fun _ k => XS.istore X15.here hx rfl (hb hby d13_85) rfl (l' := #[.val (.ref a), .val (.int ri), .val (.int ((Int32.ofNat S) - (1 : Int32))), .val (.int nv), .val (.int ((nv + (1 : Int32)) &&& ((Int32.ofNat S) - (1 : Int32)))), .val (.int (home_r (kf (gn cl ((hole + K) % S) - 1)) sf))]) rfl k) ?_
          show OEnds p e below s _ _ _ (T15.setTop (mkF m 87 #[.val (.ref a), .val (.int ri), .val (.int ((Int32.ofNat S) - (1 : Int32))), .val (.int nv), .val (.int ((nv + (1 : Int32)) &&& ((Int32.ofNat S) - (1 : Int32)))), .val (.int (home_r (kf (gn cl ((hole + K) % S) - 1)) sf))] []))
          refine own_by (fun _ k => XS.goto X15.here hx rfl (pc0 := 87) (pc' := 17) rfl (hb hby d13_87) (by decide) (by decide) k) ?_
          show OEnds p e below s _ _ _ (T15.setTop (mkF m 17 #[.val (.ref a), .val (.int ri), .val (.int ((Int32.ofNat S) - (1 : Int32))), .val (.int nv), .val (.int ((nv + (1 : Int32)) &&& ((Int32.ofNat S) - (1 : Int32)))), .val (.int (home_r (kf (gn cl ((hole + K) % S) - 1)) sf))] []))
          have hcmp := ge_toI (dist (x := 0) (y := 0) hSz.or hnv (hm_spec hSz (kf (gn cl ((hole + K) % S) - 1))).1 hlt (hm_spec hSz (kf (gn cl ((hole + K) % S) - 1))).2) (dist (x := 0) (y := 0) hSz.or hnv hhv hlt hP.1) hc60_12
          have hso := hSz.or
          have O16 : Obj Z h15 a "com/example/tristream/tristream/LongIndex" sch_li [(.ref kb), (.ref sb), (.int sf), (.int z)] := (Ob_lp_a.other W15 (Ob_lp_a.ne_fa (hw _ (List.mem_of_getElem? (i := 1) rfl)) Fa_lp_sb))
          have F17 : FA Z h15 kb .long kn (fun i => .long (kf i)) := (Fa_lp_kb.other W15 (Fa_lp_kb.ne_ty Fa_lp_sb (by decide)))
          exact ih_lp T15 _ nv ((nv + (1 : Int32)) &&& ((Int32.ofNat S) - (1 : Int32))) _ _ ((hole + K) % S) 1 h15 Z15 X15 e15 N15 K15 O16 F17 F15 hnv (nxt hSz.or hnv hlt) (cl_mv hSz.or hP hK (by omega) rfl hgp rfl (hm_spec hSz (kf (gn cl ((hole + K) % S) - 1))).2 hcmp) (by omega) (by omega) (by rcases hso with rfl | rfl <;> omega) (by rw [gn_ne (by have := hP.1; rcases hso with rfl | rfl <;> omega)]; exact hz0) (nn_upd hnn hnn0) (bd_upd hbd hlt)
  have lpU : ∀ (j : Nat) (T : State) (lo : List Loc) (hv : Int32) (nv : Int32) (cl : Nat → Int32) (hole : Nat) (K : Nat) (h_lpU : Heap) (Zz_lpU : n0 ≤ h_lpU.size) (X_lpU : Stand p l e ({ frames := 1, cells := 0, slots := 0, locals := 14 } : Room) s m #[(.ref a), (.int ri)] below meth c T lo 0 0) (e_lpU : T.heap = h_lpU) (N_lpU : Fr n0 lo) (Kp_lpU : Keep h0 h_lpU [sb]) (Ob_lpU_a : Obj Z h_lpU a "com/example/tristream/tristream/LongIndex" sch_li [(.ref kb), (.ref sb), (.int sf), (.int z)]) (Fa_lpU_kb : FA Z h_lpU kb .long kn (fun i => .long (kf i))) (Fa_lpU_sb : FA Z h_lpU sb .int S (fun i => .int (cl i))) (hhv : hv.toInt = (hole : Int)) (hnv : nv.toInt = ((((hole + K) % S) : Nat) : Int)) (hP : Part S (fun i => hm sf (kf i)) (hol cl hole) (fun j => j < nk ∧ j ≠ i0) hole K) (hK : 0 < K) (hKS : K + j < S) (hs0 : (hole + K + j) % S = s0) (hz0 : gn cl s0 = 0) (hnn : ∀ s, s < S → 0 ≤ (cl s).toInt) (hbd : ∀ s, s < S → gn cl s ≠ 0 → gn cl s - 1 < kn), OEnds p e below s (Q_liclear Z a sb S sf sl kf i0 nk h0 n0) 0 0 (T.setTop (mkF m 17 #[.val (.ref a), .val (.int ri), .val (.int ((Int32.ofNat S) - (1 : Int32))), .val (.int hv), .val (.int nv), .unset] [])) := by
    intro j
    induction j with
    | zero =>
      intro T lo hv nv cl hole K h_lpU Zz_lpU X_lpU e_lpU N_lpU Kp_lpU Ob_lpU_a Fa_lpU_kb Fa_lpU_sb hhv hnv hP hK hKS hs0 hz0 hnn hbd
      show OEnds p e below s _ _ _ (T.setTop (mkF m 17 #[.val (.ref a), .val (.int ri), .val (.int ((Int32.ofNat S) - (1 : Int32))), .val (.int hv), .val (.int nv), .unset] []))
      have hlt : ((hole + K) % S) < S := Nat.mod_lt _ hS0
      have hnn0 := hnn _ hlt
      have hzz : cl ((hole + K) % S) = (0 : Int32) := gn_zero hnn0 (by rw [Nat.add_zero] at hs0; rw [hs0]; exact hz0)
      show OEnds p e below s _ _ _ (T.setTop (mkF m 17 #[.val (.ref a), .val (.int ri), .val (.int ((Int32.ofNat S) - (1 : Int32))), .val (.int hv), .val (.int nv), .unset] []))
      refine own_by (fun _ k => XS.aloadN X_lpU.here hx rfl (hb hby d13_17) rfl rfl k) ?_
      show OEnds p e below s _ _ _ (T.setTop (mkF m 18 #[.val (.ref a), .val (.int ri), .val (.int ((Int32.ofNat S) - (1 : Int32))), .val (.int hv), .val (.int nv), .unset] [(.ref a)]))
      obtain ⟨T18, X18, e18, st18⟩ := getF X_lpU hx hZ hown (host := "") (Or.inl (hw _ (List.mem_of_getElem? (i := 13) rfl))) Via.refl e_lpU (Ob_lpU_a.fld 1 rfl rfl) (g := (mkF m 18 #[.val (.ref a), .val (.int ri), .val (.int ((Int32.ofNat S) - (1 : Int32))), .val (.int hv), .val (.int nv), .unset] [(.ref a)])) rfl rfl (hb hby d13_18)
      refine own_by (st18) ?_
      show OEnds p e below s _ _ _ (T18.setTop (mkF m 21 #[.val (.ref a), .val (.int ri), .val (.int ((Int32.ofNat S) - (1 : Int32))), .val (.int hv), .val (.int nv), .unset] [(.ref sb)]))
      refine own_by (fun _ k => XS.iload X18.here hx rfl (hb hby d13_21) rfl k) ?_
      show OEnds p e below s _ _ _ (T18.setTop (mkF m 23 #[.val (.ref a), .val (.int ri), .val (.int ((Int32.ofNat S) - (1 : Int32))), .val (.int hv), .val (.int nv), .unset] [(.int nv), (.ref sb)]))
      refine own_by (own_iaload X18 hx hZ e18 Fa_lpU_sb ((hole + K) % S) hnv hlt (v := (.int (cl ((hole + K) % S)))) rfl (g := (mkF m 23 #[.val (.ref a), .val (.int ri), .val (.int ((Int32.ofNat S) - (1 : Int32))), .val (.int hv), .val (.int nv), .unset] [(.int nv), (.ref sb)])) rfl rfl (hb hby d13_23)) ?_
      show OEnds p e below s _ _ _ (T18.setTop (mkF m 24 #[.val (.ref a), .val (.int ri), .val (.int ((Int32.ofNat S) - (1 : Int32))), .val (.int hv), .val (.int nv), .unset] [(.int (cl ((hole + K) % S)))]))
      refine own_by (fun _ k => XS.ifYes X18.here hx rfl (pc0 := 24) (pc' := 90) rfl (hb hby d13_24) rfl ((if0 _ _).trans (teq hzz).1) (by decide) (by decide) k) ?_
      show OEnds p e below s _ _ _ (T18.setTop (mkF m 90 #[.val (.ref a), .val (.int ri), .val (.int ((Int32.ofNat S) - (1 : Int32))), .val (.int hv), .val (.int nv), .unset] []))
      refine own_by (fun _ k => XS.aloadN X18.here hx rfl (hb hby d13_90) rfl rfl k) ?_
      show OEnds p e below s _ _ _ (T18.setTop (mkF m 91 #[.val (.ref a), .val (.int ri), .val (.int ((Int32.ofNat S) - (1 : Int32))), .val (.int hv), .val (.int nv), .unset] [(.ref a)]))
      obtain ⟨T19, X19, e19, st19⟩ := getF X18 hx hZ hown (host := "") (Or.inl (hw _ (List.mem_of_getElem? (i := 13) rfl))) Via.refl e18 (Ob_lpU_a.fld 1 rfl rfl) (g := (mkF m 91 #[.val (.ref a), .val (.int ri), .val (.int ((Int32.ofNat S) - (1 : Int32))), .val (.int hv), .val (.int nv), .unset] [(.ref a)])) rfl rfl (hb hby d13_91)
      refine own_by (st19) ?_
      show OEnds p e below s _ _ _ (T19.setTop (mkF m 94 #[.val (.ref a), .val (.int ri), .val (.int ((Int32.ofNat S) - (1 : Int32))), .val (.int hv), .val (.int nv), .unset] [(.ref sb)]))
      refine own_by (fun _ k => XS.iloadN X19.here hx rfl (hb hby d13_94) rfl k) ?_
      show OEnds p e below s _ _ _ (T19.setTop (mkF m 95 #[.val (.ref a), .val (.int ri), .val (.int ((Int32.ofNat S) - (1 : Int32))), .val (.int hv), .val (.int nv), .unset] [(.int hv), (.ref sb)]))
      refine own_by (fun _ k => XS.iconst X19.here hx rfl (hb hby d13_95) k) ?_
      show OEnds p e below s _ _ _ (T19.setTop (mkF m 96 #[.val (.ref a), .val (.int ri), .val (.int ((Int32.ofNat S) - (1 : Int32))), .val (.int hv), .val (.int nv), .unset] [(.int (0 : Int32)), (.int hv), (.ref sb)]))
      obtain ⟨T20, h20, X20, e20, W20, st20⟩ := own_iastore X19 hx hZ e19 Fa_lpU_sb hole hhv hP.1 (g := (mkF m 96 #[.val (.ref a), .val (.int ri), .val (.int ((Int32.ofNat S) - (1 : Int32))), .val (.int hv), .val (.int nv), .unset] [(.int (0 : Int32)), (.int hv), (.ref sb)])) rfl rfl (hb hby d13_96)
      refine own_by (st20) ?_
      have F20 : FA Z h20 sb .int S (fun i => .int ((updI cl hole (0 : Int32)) i)) := Fa_lpU_sb.setI W20
      have N20 := Fr.snoc X20 N_lpU g_sb
      have Z20 : n0 ≤ h20.size := Nat.le_trans Zz_lpU (Keep.of_wr W20).1
      have K20 : Keep h0 h20 [sb] := Kp_lpU.wr W20 (Or.inl (List.mem_of_getElem? (i := 0) rfl))
      show OEnds p e below s _ _ _ (T20.setTop (mkF m 97 #[.val (.ref a), .val (.int ri), .val (.int ((Int32.ofNat S) - (1 : Int32))), .val (.int hv), .val (.int nv), .unset] []))
      exact own_retV X20 hx hlk Bd.returns (hb hby d13_97) (by rw [e20]; exact ⟨rfl, N20, K20, _, ⟨nn_upd hnn (by decide), cl_done hSz.or hP hK (by omega) (gn_of hzz)⟩, F20⟩) (by decide) (by decide)
    | succ j ih_lpU =>
      intro T lo hv nv cl hole K h_lpU Zz_lpU X_lpU e_lpU N_lpU Kp_lpU Ob_lpU_a Fa_lpU_kb Fa_lpU_sb hhv hnv hP hK hKS hs0 hz0 hnn hbd
      show OEnds p e below s _ _ _ (T.setTop (mkF m 17 #[.val (.ref a), .val (.int ri), .val (.int ((Int32.ofNat S) - (1 : Int32))), .val (.int hv), .val (.int nv), .unset] []))
      have hlt : ((hole + K) % S) < S := Nat.mod_lt _ hS0
      have hnn0 := hnn _ hlt
      show OEnds p e below s _ _ _ (T.setTop (mkF m 17 #[.val (.ref a), .val (.int ri), .val (.int ((Int32.ofNat S) - (1 : Int32))), .val (.int hv), .val (.int nv), .unset] []))
      refine own_by (fun _ k => XS.aloadN X_lpU.here hx rfl (hb hby d13_17) rfl rfl k) ?_
      show OEnds p e below s _ _ _ (T.setTop (mkF m 18 #[.val (.ref a), .val (.int ri), .val (.int ((Int32.ofNat S) - (1 : Int32))), .val (.int hv), .val (.int nv), .unset] [(.ref a)]))
      obtain ⟨T21, X21, e21, st21⟩ := getF X_lpU hx hZ hown (host := "") (Or.inl (hw _ (List.mem_of_getElem? (i := 13) rfl))) Via.refl e_lpU (Ob_lpU_a.fld 1 rfl rfl) (g := (mkF m 18 #[.val (.ref a), .val (.int ri), .val (.int ((Int32.ofNat S) - (1 : Int32))), .val (.int hv), .val (.int nv), .unset] [(.ref a)])) rfl rfl (hb hby d13_18)
      refine own_by (st21) ?_
      show OEnds p e below s _ _ _ (T21.setTop (mkF m 21 #[.val (.ref a), .val (.int ri), .val (.int ((Int32.ofNat S) - (1 : Int32))), .val (.int hv), .val (.int nv), .unset] [(.ref sb)]))
      refine own_by (fun _ k => XS.iload X21.here hx rfl (hb hby d13_21) rfl k) ?_
      show OEnds p e below s _ _ _ (T21.setTop (mkF m 23 #[.val (.ref a), .val (.int ri), .val (.int ((Int32.ofNat S) - (1 : Int32))), .val (.int hv), .val (.int nv), .unset] [(.int nv), (.ref sb)]))
      refine own_by (own_iaload X21 hx hZ e21 Fa_lpU_sb ((hole + K) % S) hnv hlt (v := (.int (cl ((hole + K) % S)))) rfl (g := (mkF m 23 #[.val (.ref a), .val (.int ri), .val (.int ((Int32.ofNat S) - (1 : Int32))), .val (.int hv), .val (.int nv), .unset] [(.int nv), (.ref sb)])) rfl rfl (hb hby d13_23)) ?_
      show OEnds p e below s _ _ _ (T21.setTop (mkF m 24 #[.val (.ref a), .val (.int ri), .val (.int ((Int32.ofNat S) - (1 : Int32))), .val (.int hv), .val (.int nv), .unset] [(.int (cl ((hole + K) % S)))]))
      by_cases hc24_22 : (cl ((hole + K) % S)) = (0 : Int32)
      · refine own_by (fun _ k => XS.ifYes X21.here hx rfl (pc0 := 24) (pc' := 90) rfl (hb hby d13_24) rfl ((if0 _ _).trans (teq hc24_22).1) (by decide) (by decide) k) ?_
        show OEnds p e below s _ _ _ (T21.setTop (mkF m 90 #[.val (.ref a), .val (.int ri), .val (.int ((Int32.ofNat S) - (1 : Int32))), .val (.int hv), .val (.int nv), .unset] []))
        refine own_by (fun _ k => XS.aloadN X21.here hx rfl (hb hby d13_90) rfl rfl k) ?_
        show OEnds p e below s _ _ _ (T21.setTop (mkF m 91 #[.val (.ref a), .val (.int ri), .val (.int ((Int32.ofNat S) - (1 : Int32))), .val (.int hv), .val (.int nv), .unset] [(.ref a)]))
        obtain ⟨T23, X23, e23, st23⟩ := getF X21 hx hZ hown (host := "") (Or.inl (hw _ (List.mem_of_getElem? (i := 13) rfl))) Via.refl e21 (Ob_lpU_a.fld 1 rfl rfl) (g := (mkF m 91 #[.val (.ref a), .val (.int ri), .val (.int ((Int32.ofNat S) - (1 : Int32))), .val (.int hv), .val (.int nv), .unset] [(.ref a)])) rfl rfl (hb hby d13_91)
        refine own_by (st23) ?_
        show OEnds p e below s _ _ _ (T23.setTop (mkF m 94 #[.val (.ref a), .val (.int ri), .val (.int ((Int32.ofNat S) - (1 : Int32))), .val (.int hv), .val (.int nv), .unset] [(.ref sb)]))
        refine own_by (fun _ k => XS.iloadN X23.here hx rfl (hb hby d13_94) rfl k) ?_
        show OEnds p e below s _ _ _ (T23.setTop (mkF m 95 #[.val (.ref a), .val (.int ri), .val (.int ((Int32.ofNat S) - (1 : Int32))), .val (.int hv), .val (.int nv), .unset] [(.int hv), (.ref sb)]))
        refine own_by (fun _ k => XS.iconst X23.here hx rfl (hb hby d13_95) k) ?_
        show OEnds p e below s _ _ _ (T23.setTop (mkF m 96 #[.val (.ref a), .val (.int ri), .val (.int ((Int32.ofNat S) - (1 : Int32))), .val (.int hv), .val (.int nv), .unset] [(.int (0 : Int32)), (.int hv), (.ref sb)]))
        obtain ⟨T24, h24, X24, e24, W24, st24⟩ := own_iastore X23 hx hZ e23 Fa_lpU_sb hole hhv hP.1 (g := (mkF m 96 #[.val (.ref a), .val (.int ri), .val (.int ((Int32.ofNat S) - (1 : Int32))), .val (.int hv), .val (.int nv), .unset] [(.int (0 : Int32)), (.int hv), (.ref sb)])) rfl rfl (hb hby d13_96)
        refine own_by (st24) ?_
        have F24 : FA Z h24 sb .int S (fun i => .int ((updI cl hole (0 : Int32)) i)) := Fa_lpU_sb.setI W24
        have N24 := Fr.snoc X24 N_lpU g_sb
        have Z24 : n0 ≤ h24.size := Nat.le_trans Zz_lpU (Keep.of_wr W24).1
        have K24 : Keep h0 h24 [sb] := Kp_lpU.wr W24 (Or.inl (List.mem_of_getElem? (i := 0) rfl))
        show OEnds p e below s _ _ _ (T24.setTop (mkF m 97 #[.val (.ref a), .val (.int ri), .val (.int ((Int32.ofNat S) - (1 : Int32))), .val (.int hv), .val (.int nv), .unset] []))
        exact own_retV X24 hx hlk Bd.returns (hb hby d13_97) (by rw [e24]; exact ⟨rfl, N24, K24, _, ⟨nn_upd hnn (by decide), cl_done hSz.or hP hK (by omega) (gn_of hc24_22)⟩, F24⟩) (by decide) (by decide)
      · refine own_by (fun _ k => XS.ifNo X21.here hx rfl (hb hby d13_24) rfl ((if0 _ _).trans (feq hc24_22).1) k) ?_
        show OEnds p e below s _ _ _ (T21.setTop (mkF m 27 #[.val (.ref a), .val (.int ri), .val (.int ((Int32.ofNat S) - (1 : Int32))), .val (.int hv), .val (.int nv), .unset] []))
        refine own_by (fun _ k => XS.aloadN X21.here hx rfl (hb hby d13_27) rfl rfl k) ?_
        show OEnds p e below s _ _ _ (T21.setTop (mkF m 28 #[.val (.ref a), .val (.int ri), .val (.int ((Int32.ofNat S) - (1 : Int32))), .val (.int hv), .val (.int nv), .unset] [(.ref a)]))
        refine own_by (fun _ k => XS.aloadN X21.here hx rfl (hb hby d13_28) rfl rfl k) ?_
        show OEnds p e below s _ _ _ (T21.setTop (mkF m 29 #[.val (.ref a), .val (.int ri), .val (.int ((Int32.ofNat S) - (1 : Int32))), .val (.int hv), .val (.int nv), .unset] [(.ref a), (.ref a)]))
        obtain ⟨T25, X25, e25, st25⟩ := getF X21 hx hZ hown (host := "") (Or.inl (hw _ (List.mem_of_getElem? (i := 10) rfl))) Via.refl e21 (Ob_lpU_a.fld 0 rfl rfl) (g := (mkF m 29 #[.val (.ref a), .val (.int ri), .val (.int ((Int32.ofNat S) - (1 : Int32))), .val (.int hv), .val (.int nv), .unset] [(.ref a), (.ref a)])) rfl rfl (hb hby d13_29)
        refine own_by (st25) ?_
        show OEnds p e below s _ _ _ (T25.setTop (mkF m 32 #[.val (.ref a), .val (.int ri), .val (.int ((Int32.ofNat S) - (1 : Int32))), .val (.int hv), .val (.int nv), .unset] [(.ref kb), (.ref a)]))
        refine own_by (fun _ k => XS.aloadN X25.here hx rfl (hb hby d13_32) rfl rfl k) ?_
        show OEnds p e below s _ _ _ (T25.setTop (mkF m 33 #[.val (.ref a), .val (.int ri), .val (.int ((Int32.ofNat S) - (1 : Int32))), .val (.int hv), .val (.int nv), .unset] [(.ref a), (.ref kb), (.ref a)]))
        obtain ⟨T26, X26, e26, st26⟩ := getF X25 hx hZ hown (host := "") (Or.inl (hw _ (List.mem_of_getElem? (i := 13) rfl))) Via.refl e25 (Ob_lpU_a.fld 1 rfl rfl) (g := (mkF m 33 #[.val (.ref a), .val (.int ri), .val (.int ((Int32.ofNat S) - (1 : Int32))), .val (.int hv), .val (.int nv), .unset] [(.ref a), (.ref kb), (.ref a)])) rfl rfl (hb hby d13_33)
        refine own_by (st26) ?_
        show OEnds p e below s _ _ _ (T26.setTop (mkF m 36 #[.val (.ref a), .val (.int ri), .val (.int ((Int32.ofNat S) - (1 : Int32))), .val (.int hv), .val (.int nv), .unset] [(.ref sb), (.ref kb), (.ref a)]))
        refine own_by (fun _ k => XS.iload X26.here hx rfl (hb hby d13_36) rfl k) ?_
        show OEnds p e below s _ _ _ (T26.setTop (mkF m 38 #[.val (.ref a), .val (.int ri), .val (.int ((Int32.ofNat S) - (1 : Int32))), .val (.int hv), .val (.int nv), .unset] [(.int nv), (.ref sb), (.ref kb), (.ref a)]))
        refine own_by (own_iaload X26 hx hZ e26 Fa_lpU_sb ((hole + K) % S) hnv hlt (v := (.int (cl ((hole + K) % S)))) rfl (g := (mkF m 38 #[.val (.ref a), .val (.int ri), .val (.int ((Int32.ofNat S) - (1 : Int32))), .val (.int hv), .val (.int nv), .unset] [(.int nv), (.ref sb), (.ref kb), (.ref a)])) rfl rfl (hb hby d13_38)) ?_
        show OEnds p e below s _ _ _ (T26.setTop (mkF m 39 #[.val (.ref a), .val (.int ri), .val (.int ((Int32.ofNat S) - (1 : Int32))), .val (.int hv), .val (.int nv), .unset] [(.int (cl ((hole + K) % S))), (.ref kb), (.ref a)]))
        refine own_by (fun _ k => XS.iconst X26.here hx rfl (hb hby d13_39) k) ?_
        show OEnds p e below s _ _ _ (T26.setTop (mkF m 40 #[.val (.ref a), .val (.int ri), .val (.int ((Int32.ofNat S) - (1 : Int32))), .val (.int hv), .val (.int nv), .unset] [(.int (1 : Int32)), (.int (cl ((hole + K) % S))), (.ref kb), (.ref a)]))
        refine own_by (fun _ k => XS.isub X26.here hx rfl (hb hby d13_40) rfl k) ?_
        show OEnds p e below s _ _ _ (T26.setTop (mkF m 41 #[.val (.ref a), .val (.int ri), .val (.int ((Int32.ofNat S) - (1 : Int32))), .val (.int hv), .val (.int nv), .unset] [(.int ((cl ((hole + K) % S)) - (1 : Int32))), (.ref kb), (.ref a)]))
        have hgp := gn_pos hnn0 hc24_22
        refine own_by (own_laload X26 hx hZ e26 Fa_lpU_kb (gn cl ((hole + K) % S) - 1) (idx_of hnn0 hgp) (hbd _ hlt hgp) (v := (.long (kf (gn cl ((hole + K) % S) - 1)))) rfl (g := (mkF m 41 #[.val (.ref a), .val (.int ri), .val (.int ((Int32.ofNat S) - (1 : Int32))), .val (.int hv), .val (.int nv), .unset] [(.int ((cl ((hole + K) % S)) - (1 : Int32))), (.ref kb), (.ref a)])) rfl rfl (hb hby d13_41)) ?_
        show OEnds p e below s _ _ _ (T26.setTop (mkF m 42 #[.val (.ref a), .val (.int ri), .val (.int ((Int32.ofNat S) - (1 : Int32))), .val (.int hv), .val (.int nv), .unset] [(.long (kf (gn cl ((hole + K) % S) - 1))), (.ref a)]))
        obtain ⟨T27, X27, e27, st27⟩ := own_callXR X26 hx hZ (y := (⟨"com/example/tristream/tristream/LongIndex", "home", "(J)I"⟩ : MethodName)) hown (hw _ (List.mem_of_getElem? (i := 31) rfl)) (hw _ (List.mem_of_getElem? (i := 32) rfl)) (hw _ (List.mem_of_getElem? (i := 33) rfl)) (hw _ (List.mem_of_getElem? (i := 34) rfl)) (hw _ (List.mem_of_getElem? (i := 2) rfl)) (hw _ (List.mem_of_getElem? (i := 1) rfl)) (by decide) Ob_lpU_a.exa (rm_home l Z a0 hw [] a (kf (gn cl ((hole + K) % S) - 1)) kb sb sf z h_lpU n0 Zz_lpU Ob_lpU_a) e26 (g := (mkF m 42 #[.val (.ref a), .val (.int ri), .val (.int ((Int32.ofNat S) - (1 : Int32))), .val (.int hv), .val (.int nv), .unset] [(.long (kf (gn cl ((hole + K) % S) - 1))), (.ref a)])) rfl (by rw [hml]; rfl) (argsL := [(.long (kf (gn cl ((hole + K) % S) - 1)))]) (rest := []) (lenOf pd_pJrI rfl) rfl (W := 0) (by show 2 * 0 + _ ≤ _; exact Nat.le_of_eq rfl) (hb hby d13_42) (by decide) (by decide) (by decide) (by decide)
        refine own_by (st27) ?_
        show OEnds p e below s _ _ _ (T27.setTop (mkF m 45 #[.val (.ref a), .val (.int ri), .val (.int ((Int32.ofNat S) - (1 : Int32))), .val (.int hv), .val (.int nv), .unset] [(.int (home_r (kf (gn cl ((hole + K) % S) - 1)) sf))]))
        refine own_by (fun _ k => XS.istore X27.here hx rfl (hb hby d13_45) rfl (l' := #[.val (.ref a), .val (.int ri), .val (.int ((Int32.ofNat S) - (1 : Int32))), .val (.int hv), .val (.int nv), .val (.int (home_r (kf (gn cl ((hole + K) % S) - 1)) sf))]) rfl k) ?_
        show OEnds p e below s _ _ _ (T27.setTop (mkF m 47 #[.val (.ref a), .val (.int ri), .val (.int ((Int32.ofNat S) - (1 : Int32))), .val (.int hv), .val (.int nv), .val (.int (home_r (kf (gn cl ((hole + K) % S) - 1)) sf))] []))
        refine own_by (fun _ k => XS.iload X27.here hx rfl (hb hby d13_47) rfl k) ?_
        show OEnds p e below s _ _ _ (T27.setTop (mkF m 49 #[.val (.ref a), .val (.int ri), .val (.int ((Int32.ofNat S) - (1 : Int32))), .val (.int hv), .val (.int nv), .val (.int (home_r (kf (gn cl ((hole + K) % S) - 1)) sf))] [(.int nv)]))
        refine own_by (fun _ k => XS.iload X27.here hx rfl (hb hby d13_49) rfl k) ?_
        show OEnds p e below s _ _ _ (T27.setTop (mkF m 51 #[.val (.ref a), .val (.int ri), .val (.int ((Int32.ofNat S) - (1 : Int32))), .val (.int hv), .val (.int nv), .val (.int (home_r (kf (gn cl ((hole + K) % S) - 1)) sf))] [(.int (home_r (kf (gn cl ((hole + K) % S) - 1)) sf)), (.int nv)]))
        refine own_by (fun _ k => XS.isub X27.here hx rfl (hb hby d13_51) rfl k) ?_
        show OEnds p e below s _ _ _ (T27.setTop (mkF m 52 #[.val (.ref a), .val (.int ri), .val (.int ((Int32.ofNat S) - (1 : Int32))), .val (.int hv), .val (.int nv), .val (.int (home_r (kf (gn cl ((hole + K) % S) - 1)) sf))] [(.int (nv - (home_r (kf (gn cl ((hole + K) % S) - 1)) sf)))]))
        refine own_by (fun _ k => XS.iloadN X27.here hx rfl (hb hby d13_52) rfl k) ?_
        show OEnds p e below s _ _ _ (T27.setTop (mkF m 53 #[.val (.ref a), .val (.int ri), .val (.int ((Int32.ofNat S) - (1 : Int32))), .val (.int hv), .val (.int nv), .val (.int (home_r (kf (gn cl ((hole + K) % S) - 1)) sf))] [(.int ((Int32.ofNat S) - (1 : Int32))), (.int (nv - (home_r (kf (gn cl ((hole + K) % S) - 1)) sf)))]))
        refine own_by (fun _ k => XS.iand X27.here hx rfl (hb hby d13_53) rfl k) ?_
        show OEnds p e below s _ _ _ (T27.setTop (mkF m 54 #[.val (.ref a), .val (.int ri), .val (.int ((Int32.ofNat S) - (1 : Int32))), .val (.int hv), .val (.int nv), .val (.int (home_r (kf (gn cl ((hole + K) % S) - 1)) sf))] [(.int ((nv - (home_r (kf (gn cl ((hole + K) % S) - 1)) sf)) &&& ((Int32.ofNat S) - (1 : Int32))))]))
        refine own_by (fun _ k => XS.iload X27.here hx rfl (hb hby d13_54) rfl k) ?_
        show OEnds p e below s _ _ _ (T27.setTop (mkF m 56 #[.val (.ref a), .val (.int ri), .val (.int ((Int32.ofNat S) - (1 : Int32))), .val (.int hv), .val (.int nv), .val (.int (home_r (kf (gn cl ((hole + K) % S) - 1)) sf))] [(.int nv), (.int ((nv - (home_r (kf (gn cl ((hole + K) % S) - 1)) sf)) &&& ((Int32.ofNat S) - (1 : Int32))))]))
        refine own_by (fun _ k => XS.iloadN X27.here hx rfl (hb hby d13_56) rfl k) ?_
        show OEnds p e below s _ _ _ (T27.setTop (mkF m 57 #[.val (.ref a), .val (.int ri), .val (.int ((Int32.ofNat S) - (1 : Int32))), .val (.int hv), .val (.int nv), .val (.int (home_r (kf (gn cl ((hole + K) % S) - 1)) sf))] [(.int hv), (.int nv), (.int ((nv - (home_r (kf (gn cl ((hole + K) % S) - 1)) sf)) &&& ((Int32.ofNat S) - (1 : Int32))))]))
        refine own_by (fun _ k => XS.isub X27.here hx rfl (hb hby d13_57) rfl k) ?_
        show OEnds p e below s _ _ _ (T27.setTop (mkF m 58 #[.val (.ref a), .val (.int ri), .val (.int ((Int32.ofNat S) - (1 : Int32))), .val (.int hv), .val (.int nv), .val (.int (home_r (kf (gn cl ((hole + K) % S) - 1)) sf))] [(.int (nv - hv)), (.int ((nv - (home_r (kf (gn cl ((hole + K) % S) - 1)) sf)) &&& ((Int32.ofNat S) - (1 : Int32))))]))
        refine own_by (fun _ k => XS.iloadN X27.here hx rfl (hb hby d13_58) rfl k) ?_
        show OEnds p e below s _ _ _ (T27.setTop (mkF m 59 #[.val (.ref a), .val (.int ri), .val (.int ((Int32.ofNat S) - (1 : Int32))), .val (.int hv), .val (.int nv), .val (.int (home_r (kf (gn cl ((hole + K) % S) - 1)) sf))] [(.int ((Int32.ofNat S) - (1 : Int32))), (.int (nv - hv)), (.int ((nv - (home_r (kf (gn cl ((hole + K) % S) - 1)) sf)) &&& ((Int32.ofNat S) - (1 : Int32))))]))
        refine own_by (fun _ k => XS.iand X27.here hx rfl (hb hby d13_59) rfl k) ?_
        show OEnds p e below s _ _ _ (T27.setTop (mkF m 60 #[.val (.ref a), .val (.int ri), .val (.int ((Int32.ofNat S) - (1 : Int32))), .val (.int hv), .val (.int nv), .val (.int (home_r (kf (gn cl ((hole + K) % S) - 1)) sf))] [(.int ((nv - hv) &&& ((Int32.ofNat S) - (1 : Int32)))), (.int ((nv - (home_r (kf (gn cl ((hole + K) % S) - 1)) sf)) &&& ((Int32.ofNat S) - (1 : Int32))))]))
        by_cases hc60_28 : ((nv - (home_r (kf (gn cl ((hole + K) % S) - 1)) sf)) &&& ((Int32.ofNat S) - (1 : Int32))) < ((nv - hv) &&& ((Int32.ofNat S) - (1 : Int32)))
        · refine own_by (fun _ k => XS.icmpYes X27.here hx rfl (pc0 := 60) (pc' := 79) rfl (hb hby d13_60) rfl (tlt hc60_28).1 (by decide) (by decide) k) ?_
          show OEnds p e below s _ _ _ (T27.setTop (mkF m 79 #[.val (.ref a), .val (.int ri), .val (.int ((Int32.ofNat S) - (1 : Int32))), .val (.int hv), .val (.int nv), .val (.int (home_r (kf (gn cl ((hole + K) % S) - 1)) sf))] []))
          refine own_by (fun _ k => XS.iload X27.here hx rfl (hb hby d13_79) rfl k) ?_
          show OEnds p e below s _ _ _ (T27.setTop (mkF m 81 #[.val (.ref a), .val (.int ri), .val (.int ((Int32.ofNat S) - (1 : Int32))), .val (.int hv), .val (.int nv), .val (.int (home_r (kf (gn cl ((hole + K) % S) - 1)) sf))] [(.int nv)]))
          refine own_by (fun _ k => XS.iconst X27.here hx rfl (hb hby d13_81) k) ?_
          show OEnds p e below s _ _ _ (T27.setTop (mkF m 82 #[.val (.ref a), .val (.int ri), .val (.int ((Int32.ofNat S) - (1 : Int32))), .val (.int hv), .val (.int nv), .val (.int (home_r (kf (gn cl ((hole + K) % S) - 1)) sf))] [(.int (1 : Int32)), (.int nv)]))
          refine own_by (fun _ k => XS.iadd X27.here hx rfl (hb hby d13_82) rfl k) ?_
          show OEnds p e below s _ _ _ (T27.setTop (mkF m 83 #[.val (.ref a), .val (.int ri), .val (.int ((Int32.ofNat S) - (1 : Int32))), .val (.int hv), .val (.int nv), .val (.int (home_r (kf (gn cl ((hole + K) % S) - 1)) sf))] [(.int (nv + (1 : Int32)))]))
          refine own_by (fun _ k => XS.iloadN X27.here hx rfl (hb hby d13_83) rfl k) ?_
          show OEnds p e below s _ _ _ (T27.setTop (mkF m 84 #[.val (.ref a), .val (.int ri), .val (.int ((Int32.ofNat S) - (1 : Int32))), .val (.int hv), .val (.int nv), .val (.int (home_r (kf (gn cl ((hole + K) % S) - 1)) sf))] [(.int ((Int32.ofNat S) - (1 : Int32))), (.int (nv + (1 : Int32)))]))
          refine own_by (fun _ k => XS.iand X27.here hx rfl (hb hby d13_84) rfl k) ?_
          show OEnds p e below s _ _ _ (T27.setTop (mkF m 85 #[.val (.ref a), .val (.int ri), .val (.int ((Int32.ofNat S) - (1 : Int32))), .val (.int hv), .val (.int nv), .val (.int (home_r (kf (gn cl ((hole + K) % S) - 1)) sf))] [(.int ((nv + (1 : Int32)) &&& ((Int32.ofNat S) - (1 : Int32))))]))
          refine own_by (fun _ k => XS.istore X27.here hx rfl (hb hby d13_85) rfl (l' := #[.val (.ref a), .val (.int ri), .val (.int ((Int32.ofNat S) - (1 : Int32))), .val (.int hv), .val (.int ((nv + (1 : Int32)) &&& ((Int32.ofNat S) - (1 : Int32)))), .val (.int (home_r (kf (gn cl ((hole + K) % S) - 1)) sf))]) rfl k) ?_
          show OEnds p e below s _ _ _ (T27.setTop (mkF m 87 #[.val (.ref a), .val (.int ri), .val (.int ((Int32.ofNat S) - (1 : Int32))), .val (.int hv), .val (.int ((nv + (1 : Int32)) &&& ((Int32.ofNat S) - (1 : Int32)))), .val (.int (home_r (kf (gn cl ((hole + K) % S) - 1)) sf))] []))
          refine own_by (fun _ k => XS.goto X27.here hx rfl (pc0 := 87) (pc' := 17) rfl (hb hby d13_87) (by decide) (by decide) k) ?_
          show OEnds p e below s _ _ _ (T27.setTop (mkF m 17 #[.val (.ref a), .val (.int ri), .val (.int ((Int32.ofNat S) - (1 : Int32))), .val (.int hv), .val (.int ((nv + (1 : Int32)) &&& ((Int32.ofNat S) - (1 : Int32)))), .val (.int (home_r (kf (gn cl ((hole + K) % S) - 1)) sf))] []))
          have hcmp := lt_toI (dist (x := 0) (y := 0) hSz.or hnv (hm_spec hSz (kf (gn cl ((hole + K) % S) - 1))).1 hlt (hm_spec hSz (kf (gn cl ((hole + K) % S) - 1))).2) (dist (x := 0) (y := 0) hSz.or hnv hhv hlt hP.1) hc60_28
          have hso := hSz.or
          exact lp j T27 _ hv ((nv + (1 : Int32)) &&& ((Int32.ofNat S) - (1 : Int32))) _ cl hole (K + 1) h_lpU Zz_lpU X27 e27 N_lpU Kp_lpU Ob_lpU_a Fa_lpU_kb Fa_lpU_sb hhv (by rw [nxt hSz.or hnv hlt]; congr 1; rcases hso with rfl | rfl <;> omega) (cl_skip hSz.or hP hK (by omega) rfl hgp rfl (hm_spec hSz (kf (gn cl ((hole + K) % S) - 1))).2 hcmp) (by omega) (by omega) (by rw [← hs0]; congr 1; omega) hz0 hnn hbd
        · refine own_by (fun _ k => XS.icmpNo X27.here hx rfl (hb hby d13_60) rfl (flt hc60_28).1 k) ?_
          show OEnds p e below s _ _ _ (T27.setTop (mkF m 63 #[.val (.ref a), .val (.int ri), .val (.int ((Int32.ofNat S) - (1 : Int32))), .val (.int hv), .val (.int nv), .val (.int (home_r (kf (gn cl ((hole + K) % S) - 1)) sf))] []))
          refine own_by (fun _ k => XS.aloadN X27.here hx rfl (hb hby d13_63) rfl rfl k) ?_
          show OEnds p e below s _ _ _ (T27.setTop (mkF m 64 #[.val (.ref a), .val (.int ri), .val (.int ((Int32.ofNat S) - (1 : Int32))), .val (.int hv), .val (.int nv), .val (.int (home_r (kf (gn cl ((hole + K) % S) - 1)) sf))] [(.ref a)]))
          obtain ⟨T29, X29, e29, st29⟩ := getF X27 hx hZ hown (host := "") (Or.inl (hw _ (List.mem_of_getElem? (i := 13) rfl))) Via.refl e27 (Ob_lpU_a.fld 1 rfl rfl) (g := (mkF m 64 #[.val (.ref a), .val (.int ri), .val (.int ((Int32.ofNat S) - (1 : Int32))), .val (.int hv), .val (.int nv), .val (.int (home_r (kf (gn cl ((hole + K) % S) - 1)) sf))] [(.ref a)])) rfl rfl (hb hby d13_64)
          refine own_by (st29) ?_
          show OEnds p e below s _ _ _ (T29.setTop (mkF m 67 #[.val (.ref a), .val (.int ri), .val (.int ((Int32.ofNat S) - (1 : Int32))), .val (.int hv), .val (.int nv), .val (.int (home_r (kf (gn cl ((hole + K) % S) - 1)) sf))] [(.ref sb)]))
          refine own_by (fun _ k => XS.iloadN X29.here hx rfl (hb hby d13_67) rfl k) ?_
          show OEnds p e below s _ _ _ (T29.setTop (mkF m 68 #[.val (.ref a), .val (.int ri), .val (.int ((Int32.ofNat S) - (1 : Int32))), .val (.int hv), .val (.int nv), .val (.int (home_r (kf (gn cl ((hole + K) % S) - 1)) sf))] [(.int hv), (.ref sb)]))
          refine own_by (fun _ k => XS.aloadN X29.here hx rfl (hb hby d13_68) rfl rfl k) ?_
          show OEnds p e below s _ _ _ (T29.setTop (mkF m 69 #[.val (.ref a), .val (.int ri), .val (.int ((Int32.ofNat S) - (1 : Int32))), .val (.int hv), .val (.int nv), .val (.int (home_r (kf (gn cl ((hole + K) % S) - 1)) sf))] [(.ref a), (.int hv), (.ref sb)]))
          obtain ⟨T30, X30, e30, st30⟩ := getF X29 hx hZ hown (host := "") (Or.inl (hw _ (List.mem_of_getElem? (i := 13) rfl))) Via.refl e29 (Ob_lpU_a.fld 1 rfl rfl) (g := (mkF m 69 #[.val (.ref a), .val (.int ri), .val (.int ((Int32.ofNat S) - (1 : Int32))), .val (.int hv), .val (.int nv), .val (.int (home_r (kf (gn cl ((hole + K) % S) - 1)) sf))] [(.ref a), (.int hv), (.ref sb)])) rfl rfl (hb hby d13_69)
          refine own_by (st30) ?_
          show OEnds p e below s _ _ _ (T30.setTop (mkF m 72 #[.val (.ref a), .val (.int ri), .val (.int ((Int32.ofNat S) - (1 : Int32))), .val (.int hv), .val (.int nv), .val (.int (home_r (kf (gn cl ((hole + K) % S) - 1)) sf))] [(.ref sb), (.int hv), (.ref sb)]))
          refine own_by (fun _ k => XS.iload X30.here hx rfl (hb hby d13_72) rfl k) ?_
          show OEnds p e below s _ _ _ (T30.setTop (mkF m 74 #[.val (.ref a), .val (.int ri), .val (.int ((Int32.ofNat S) - (1 : Int32))), .val (.int hv), .val (.int nv), .val (.int (home_r (kf (gn cl ((hole + K) % S) - 1)) sf))] [(.int nv), (.ref sb), (.int hv), (.ref sb)]))
          refine own_by (own_iaload X30 hx hZ e30 Fa_lpU_sb ((hole + K) % S) hnv hlt (v := (.int (cl ((hole + K) % S)))) rfl (g := (mkF m 74 #[.val (.ref a), .val (.int ri), .val (.int ((Int32.ofNat S) - (1 : Int32))), .val (.int hv), .val (.int nv), .val (.int (home_r (kf (gn cl ((hole + K) % S) - 1)) sf))] [(.int nv), (.ref sb), (.int hv), (.ref sb)])) rfl rfl (hb hby d13_74)) ?_
          show OEnds p e below s _ _ _ (T30.setTop (mkF m 75 #[.val (.ref a), .val (.int ri), .val (.int ((Int32.ofNat S) - (1 : Int32))), .val (.int hv), .val (.int nv), .val (.int (home_r (kf (gn cl ((hole + K) % S) - 1)) sf))] [(.int (cl ((hole + K) % S))), (.int hv), (.ref sb)]))
          obtain ⟨T31, h31, X31, e31, W31, st31⟩ := own_iastore X30 hx hZ e30 Fa_lpU_sb hole hhv hP.1 (g := (mkF m 75 #[.val (.ref a), .val (.int ri), .val (.int ((Int32.ofNat S) - (1 : Int32))), .val (.int hv), .val (.int nv), .val (.int (home_r (kf (gn cl ((hole + K) % S) - 1)) sf))] [(.int (cl ((hole + K) % S))), (.int hv), (.ref sb)])) rfl rfl (hb hby d13_75)
          refine own_by (st31) ?_
          have F31 : FA Z h31 sb .int S (fun i => .int ((updI cl hole (cl ((hole + K) % S))) i)) := Fa_lpU_sb.setI W31
          have N31 := Fr.snoc X31 N_lpU g_sb
          have Z31 : n0 ≤ h31.size := Nat.le_trans Zz_lpU (Keep.of_wr W31).1
          have K31 : Keep h0 h31 [sb] := Kp_lpU.wr W31 (Or.inl (List.mem_of_getElem? (i := 0) rfl))
          show OEnds p e below s _ _ _ (T31.setTop (mkF m 76 #[.val (.ref a), .val (.int ri), .val (.int ((Int32.ofNat S) - (1 : Int32))), .val (.int hv), .val (.int nv), .val (.int (home_r (kf (gn cl ((hole + K) % S) - 1)) sf))] []))
          refine own_by (fun _ k => XS.iload X31.here hx rfl (hb hby d13_76) rfl k) ?_
          show OEnds p e below s _ _ _ (T31.setTop (mkF m 78 #[.val (.ref a), .val (.int ri), .val (.int ((Int32.ofNat S) - (1 : Int32))), .val (.int hv), .val (.int nv), .val (.int (home_r (kf (gn cl ((hole + K) % S) - 1)) sf))] [(.int nv)]))
          refine own_by (fun _ k => XS.istoreN X31.here hx rfl (hb hby d13_78) rfl (l' := #[.val (.ref a), .val (.int ri), .val (.int ((Int32.ofNat S) - (1 : Int32))), .val (.int nv), .val (.int nv), .val (.int (home_r (kf (gn cl ((hole + K) % S) - 1)) sf))]) rfl k) ?_
          show OEnds p e below s _ _ _ (T31.setTop (mkF m 79 #[.val (.ref a), .val (.int ri), .val (.int ((Int32.ofNat S) - (1 : Int32))), .val (.int nv), .val (.int nv), .val (.int (home_r (kf (gn cl ((hole + K) % S) - 1)) sf))] []))
          refine own_by (fun _ k => XS.iload X31.here hx rfl (hb hby d13_79) rfl k) ?_
          show OEnds p e below s _ _ _ (T31.setTop (mkF m 81 #[.val (.ref a), .val (.int ri), .val (.int ((Int32.ofNat S) - (1 : Int32))), .val (.int nv), .val (.int nv), .val (.int (home_r (kf (gn cl ((hole + K) % S) - 1)) sf))] [(.int nv)]))
          refine own_by (fun _ k => XS.iconst X31.here hx rfl (hb hby d13_81) k) ?_
          show OEnds p e below s _ _ _ (T31.setTop (mkF m 82 #[.val (.ref a), .val (.int ri), .val (.int ((Int32.ofNat S) - (1 : Int32))), .val (.int nv), .val (.int nv), .val (.int (home_r (kf (gn cl ((hole + K) % S) - 1)) sf))] [(.int (1 : Int32)), (.int nv)]))
          refine own_by (fun _ k => XS.iadd X31.here hx rfl (hb hby d13_82) rfl k) ?_
          show OEnds p e below s _ _ _ (T31.setTop (mkF m 83 #[.val (.ref a), .val (.int ri), .val (.int ((Int32.ofNat S) - (1 : Int32))), .val (.int nv), .val (.int nv), .val (.int (home_r (kf (gn cl ((hole + K) % S) - 1)) sf))] [(.int (nv + (1 : Int32)))]))
          refine own_by (fun _ k => XS.iloadN X31.here hx rfl (hb hby d13_83) rfl k) ?_
          show OEnds p e below s _ _ _ (T31.setTop (mkF m 84 #[.val (.ref a), .val (.int ri), .val (.int ((Int32.ofNat S) - (1 : Int32))), .val (.int nv), .val (.int nv), .val (.int (home_r (kf (gn cl ((hole + K) % S) - 1)) sf))] [(.int ((Int32.ofNat S) - (1 : Int32))), (.int (nv + (1 : Int32)))]))
          refine own_by (fun _ k => XS.iand X31.here hx rfl (hb hby d13_84) rfl k) ?_
          show OEnds p e below s _ _ _ (T31.setTop (mkF m 85 #[.val (.ref a), .val (.int ri), .val (.int ((Int32.ofNat S) - (1 : Int32))), .val (.int nv), .val (.int nv), .val (.int (home_r (kf (gn cl ((hole + K) % S) - 1)) sf))] [(.int ((nv + (1 : Int32)) &&& ((Int32.ofNat S) - (1 : Int32))))]))
          refine own_by (fun _ k => XS.istore X31.here hx rfl (hb hby d13_85) rfl (l' := #[.val (.ref a), .val (.int ri), .val (.int ((Int32.ofNat S) - (1 : Int32))), .val (.int nv), .val (.int ((nv + (1 : Int32)) &&& ((Int32.ofNat S) - (1 : Int32)))), .val (.int (home_r (kf (gn cl ((hole + K) % S) - 1)) sf))]) rfl k) ?_
          show OEnds p e below s _ _ _ (T31.setTop (mkF m 87 #[.val (.ref a), .val (.int ri), .val (.int ((Int32.ofNat S) - (1 : Int32))), .val (.int nv), .val (.int ((nv + (1 : Int32)) &&& ((Int32.ofNat S) - (1 : Int32)))), .val (.int (home_r (kf (gn cl ((hole + K) % S) - 1)) sf))] []))
          refine own_by (fun _ k => XS.goto X31.here hx rfl (pc0 := 87) (pc' := 17) rfl (hb hby d13_87) (by decide) (by decide) k) ?_
          show OEnds p e below s _ _ _ (T31.setTop (mkF m 17 #[.val (.ref a), .val (.int ri), .val (.int ((Int32.ofNat S) - (1 : Int32))), .val (.int nv), .val (.int ((nv + (1 : Int32)) &&& ((Int32.ofNat S) - (1 : Int32)))), .val (.int (home_r (kf (gn cl ((hole + K) % S) - 1)) sf))] []))
          have hcmp := ge_toI (dist (x := 0) (y := 0) hSz.or hnv (hm_spec hSz (kf (gn cl ((hole + K) % S) - 1))).1 hlt (hm_spec hSz (kf (gn cl ((hole + K) % S) - 1))).2) (dist (x := 0) (y := 0) hSz.or hnv hhv hlt hP.1) hc60_28
          have hso := hSz.or
          have O32 : Obj Z h31 a "com/example/tristream/tristream/LongIndex" sch_li [(.ref kb), (.ref sb), (.int sf), (.int z)] := (Ob_lpU_a.other W31 (Ob_lpU_a.ne_fa (hw _ (List.mem_of_getElem? (i := 1) rfl)) Fa_lpU_sb))
          have F33 : FA Z h31 kb .long kn (fun i => .long (kf i)) := (Fa_lpU_kb.other W31 (Fa_lpU_kb.ne_ty Fa_lpU_sb (by decide)))
          exact lp j T31 _ nv ((nv + (1 : Int32)) &&& ((Int32.ofNat S) - (1 : Int32))) _ _ ((hole + K) % S) 1 h31 Z31 X31 e31 N31 K31 O32 F33 F31 hnv (nxt hSz.or hnv hlt) (cl_mv hSz.or hP hK (by omega) rfl hgp rfl (hm_spec hSz (kf (gn cl ((hole + K) % S) - 1))).2 hcmp) (by omega) (by omega) (by rcases hso with rfl | rfl <;> omega) (by rw [gn_ne (by have := hP.1; rcases hso with rfl | rfl <;> omega)]; exact hz0) (nn_upd hnn hnn0) (bd_upd hbd hlt)
  exact lpU (D - 1) T1 _ ri ((ri + (1 : Int32)) &&& ((Int32.ofNat S) - (1 : Int32))) sl rn0 1 h0 Z0 X1 e1 N0 K0 O0 F_kb F_sb hri (nxt hSz.or hri hr) (part_init hInv hr hg) (by decide) (by omega) (by rw [← hD0]; congr 1; omega) hsA0 hnnA hbdA
theorem d12_0 : decode prog_25_method_6_code 0 = .ok (.aload_n 0, 1) := by decide +kernel
theorem d12_1 : decode prog_25_method_6_code 1 = .ok (.lload_n 1, 1) := by decide +kernel
theorem d12_2 : decode prog_25_method_6_code 2 = .ok (.invokevirtual 30, 3) := by decide +kernel
theorem d12_5 : decode prog_25_method_6_code 5 = .ok (.istore_n 3, 1) := by decide +kernel
theorem d12_6 : decode prog_25_method_6_code 6 = .ok (.aload_n 0, 1) := by decide +kernel
theorem d12_7 : decode prog_25_method_6_code 7 = .ok (.getfield 13, 3) := by decide +kernel
theorem d12_10 : decode prog_25_method_6_code 10 = .ok (.iload_n 3, 1) := by decide +kernel
theorem d12_11 : decode prog_25_method_6_code 11 = .ok (.iaload, 1) := by decide +kernel
theorem d12_12 : decode prog_25_method_6_code 12 = .ok (.ifCond .ne 4, 3) := by decide +kernel
theorem d12_15 : decode prog_25_method_6_code 15 = .ok (.return_, 1) := by decide +kernel
theorem d12_16 : decode prog_25_method_6_code 16 = .ok (.aload_n 0, 1) := by decide +kernel
theorem d12_17 : decode prog_25_method_6_code 17 = .ok (.getfield 13, 3) := by decide +kernel
theorem d12_20 : decode prog_25_method_6_code 20 = .ok (.iload_n 3, 1) := by decide +kernel
theorem d12_21 : decode prog_25_method_6_code 21 = .ok (.iaload, 1) := by decide +kernel
theorem d12_22 : decode prog_25_method_6_code 22 = .ok (.iconst 1, 1) := by decide +kernel
theorem d12_23 : decode prog_25_method_6_code 23 = .ok (.isub, 1) := by decide +kernel
theorem d12_24 : decode prog_25_method_6_code 24 = .ok (.istore 4, 2) := by decide +kernel
theorem d12_26 : decode prog_25_method_6_code 26 = .ok (.aload_n 0, 1) := by decide +kernel
theorem d12_27 : decode prog_25_method_6_code 27 = .ok (.iload_n 3, 1) := by decide +kernel
theorem d12_28 : decode prog_25_method_6_code 28 = .ok (.invokevirtual 52, 3) := by decide +kernel
theorem d12_31 : decode prog_25_method_6_code 31 = .ok (.aload_n 0, 1) := by decide +kernel
theorem d12_32 : decode prog_25_method_6_code 32 = .ok (.dup, 1) := by decide +kernel
theorem d12_33 : decode prog_25_method_6_code 33 = .ok (.getfield 27, 3) := by decide +kernel
theorem d12_36 : decode prog_25_method_6_code 36 = .ok (.iconst 1, 1) := by decide +kernel
theorem d12_37 : decode prog_25_method_6_code 37 = .ok (.isub, 1) := by decide +kernel
theorem d12_38 : decode prog_25_method_6_code 38 = .ok (.putfield 27, 3) := by decide +kernel
theorem d12_41 : decode prog_25_method_6_code 41 = .ok (.iload 4, 2) := by decide +kernel
theorem d12_43 : decode prog_25_method_6_code 43 = .ok (.aload_n 0, 1) := by decide +kernel
theorem d12_44 : decode prog_25_method_6_code 44 = .ok (.getfield 27, 3) := by decide +kernel
theorem d12_47 : decode prog_25_method_6_code 47 = .ok (.if_icmp .ge 38, 3) := by decide +kernel
theorem d12_50 : decode prog_25_method_6_code 50 = .ok (.aload_n 0, 1) := by decide +kernel
theorem d12_51 : decode prog_25_method_6_code 51 = .ok (.getfield 9, 3) := by decide +kernel
theorem d12_54 : decode prog_25_method_6_code 54 = .ok (.aload_n 0, 1) := by decide +kernel
theorem d12_55 : decode prog_25_method_6_code 55 = .ok (.getfield 27, 3) := by decide +kernel
theorem d12_58 : decode prog_25_method_6_code 58 = .ok (.laload, 1) := by decide +kernel
theorem d12_59 : decode prog_25_method_6_code 59 = .ok (.lstore 5, 2) := by decide +kernel
theorem d12_61 : decode prog_25_method_6_code 61 = .ok (.aload_n 0, 1) := by decide +kernel
theorem d12_62 : decode prog_25_method_6_code 62 = .ok (.getfield 9, 3) := by decide +kernel
theorem d12_65 : decode prog_25_method_6_code 65 = .ok (.iload 4, 2) := by decide +kernel
theorem d12_67 : decode prog_25_method_6_code 67 = .ok (.lload 5, 2) := by decide +kernel
theorem d12_69 : decode prog_25_method_6_code 69 = .ok (.lastore, 1) := by decide +kernel
theorem d12_70 : decode prog_25_method_6_code 70 = .ok (.aload_n 0, 1) := by decide +kernel
theorem d12_71 : decode prog_25_method_6_code 71 = .ok (.getfield 13, 3) := by decide +kernel
theorem d12_74 : decode prog_25_method_6_code 74 = .ok (.aload_n 0, 1) := by decide +kernel
theorem d12_75 : decode prog_25_method_6_code 75 = .ok (.lload 5, 2) := by decide +kernel
theorem d12_77 : decode prog_25_method_6_code 77 = .ok (.invokevirtual 30, 3) := by decide +kernel
theorem d12_80 : decode prog_25_method_6_code 80 = .ok (.iload 4, 2) := by decide +kernel
theorem d12_82 : decode prog_25_method_6_code 82 = .ok (.iconst 1, 1) := by decide +kernel
theorem d12_83 : decode prog_25_method_6_code 83 = .ok (.iadd, 1) := by decide +kernel
theorem d12_84 : decode prog_25_method_6_code 84 = .ok (.iastore, 1) := by decide +kernel
theorem d12_85 : decode prog_25_method_6_code 85 = .ok (.aload_n 0, 1) := by decide +kernel
theorem d12_86 : decode prog_25_method_6_code 86 = .ok (.getfield 13, 3) := by decide +kernel
theorem d12_89 : decode prog_25_method_6_code 89 = .ok (.arraylength, 1) := by decide +kernel
theorem d12_90 : decode prog_25_method_6_code 90 = .ok (.iconst 4, 1) := by decide +kernel
theorem d12_91 : decode prog_25_method_6_code 91 = .ok (.if_icmp .le 47, 3) := by decide +kernel
theorem d12_94 : decode prog_25_method_6_code 94 = .ok (.aload_n 0, 1) := by decide +kernel
theorem d12_95 : decode prog_25_method_6_code 95 = .ok (.getfield 27, 3) := by decide +kernel
theorem d12_98 : decode prog_25_method_6_code 98 = .ok (.bipush 8, 2) := by decide +kernel
theorem d12_100 : decode prog_25_method_6_code 100 = .ok (.imul, 1) := by decide +kernel
theorem d12_101 : decode prog_25_method_6_code 101 = .ok (.aload_n 0, 1) := by decide +kernel
theorem d12_102 : decode prog_25_method_6_code 102 = .ok (.getfield 13, 3) := by decide +kernel
theorem d12_105 : decode prog_25_method_6_code 105 = .ok (.arraylength, 1) := by decide +kernel
theorem d12_106 : decode prog_25_method_6_code 106 = .ok (.if_icmp .ge 32, 3) := by decide +kernel
theorem d12_138 : decode prog_25_method_6_code 138 = .ok (.return_, 1) := by decide +kernel
theorem pn_12 : plainName "com/example/tristream/tristream/LongIndex" = true := by first | (simp [plainName, overriddenIn]; done) | decide +kernel
theorem ef_12 (m : MethodId) (x0 : Addr) (x1 : Int64) : entryFrame m #[(.ref x0), (.long x1)] 7 = mkF m 0 #[.val (.ref x0), .val (.long x1), .second, .unset, .unset, .unset, .unset] [] := by first | (simp [entryFrame, mkF, argsToLocals, Value.category]; done) | rfl
def Q_lirem (Z : State) (a kb sb : Addr) (S : Nat) (kk : Int64) (ks : List Int64) (h0 : Heap) (n0 : Nat) (r : Option Value) (h : Heap) (L : List Loc) : Prop := r = none ∧ Fr n0 L ∧ Keep h0 h [a, kb, sb] ∧ ∃ (kb' sb' : Addr) (z' sf' : Int32) (kn' : Nat) (kf' : Nat → Int64) (S' : Nat) (sl' : Nat → Int32) (ks' : List Int64), (kb' = kb ∨ h0.size ≤ kb') ∧ (sb' = sb ∨ h0.size ≤ sb') ∧ n0 ≤ kb' ∧ n0 ≤ sb' ∧ RemR ks kk ks' ∧ S' = S ∧ LI S' sf' z' sl' kf' kn' ks' ∧ Obj Z h a "com/example/tristream/tristream/LongIndex" sch_li [(.ref kb'), (.ref sb'), (.int sf'), (.int z')] ∧ FA Z h kb' .long kn' (fun i => .long (kf' i)) ∧ FA Z h sb' .int S' (fun i => .int (sl' i))
set_option maxRecDepth 65536 in
set_option maxHeartbeats 40000000 in
theorem rm_lirem (l : Launch) (Z : State) (a0 : Array Value) (hw : ∀ d ∈ tables_1, d.before a0 Z = true) (ws : List Jvm.Cond) (a : Addr) (kk : Int64) (kb : Addr) (sb : Addr) (z : Int32) (sf : Int32) (kn : Nat) (kf : Nat → Int64) (S : Nat) (sl : Nat → Int32) (ks : List Int64) (h0 : Heap) (n0 : Nat) (Z0 : n0 ≤ h0.size) (O0 : Obj Z h0 a "com/example/tristream/tristream/LongIndex" sch_li [(.ref kb), (.ref sb), (.int sf), (.int z)]) (F_kb : FA Z h0 kb .long kn (fun i => .long (kf i))) (F_sb : FA Z h0 sb .int S (fun i => .int (sl i))) (g_a : n0 ≤ a) (g_kb : n0 ≤ kb) (g_sb : n0 ≤ sb) (hLI : LI S sf z sl kf kn ks) (hsm : S = 4 ∨ 2 ≤ ks.length) :
    MetFree l (⟨"com/example/tristream/tristream/LongIndex", "remove", "(J)V"⟩ : MethodName) (head1 (Jvm.Cond.code (⟨"com/example/tristream/tristream/LongIndex", "remove", "(J)V"⟩ : MethodName) prog_25_method_6_code 7 none :: ws) ({ frames := 2, cells := 0, slots := 0, locals := 31 } : Room)) (fun a_ U => a_ = #[(.ref a), (.long kk)] ∧ Z.Warmed39 U.vm ∧ U.heap = h0) (fun _ _ _ _ _ => True) (fun _ U o U' => ∃ v_ L_, o = .returned v_ ∧ Q_lirem Z a kb sb S kk ks h0 n0 v_ U'.heap L_ ∧ FrameEnd U o U' L_ ({ frames := 2, cells := 0, slots := 0, locals := 31 } : Room).cells ({ frames := 2, cells := 0, slots := 0, locals := 31 } : Room).slots) := by
  refine MetFree.of_bodySF (plainFor_of_name pn_12) hisR ?_
  intro p e s m args below meth c s₁ Bd hml0 hP hK
  obtain ⟨rfl, hZ, hh⟩ := hP
  have hx := Bd.exec
  have hby := Bd.bytes
  have hlk : meth.locks = false := Bd.notSynchronized
  have hml : c.maxLocals = 7 := hml0
  have hown : s.vm.findClass "com/example/tristream/tristream/LongIndex" = some m.cls := findClass_of_methodNamed Bd.named
  have hnm := (name_of_methodNamed Bd.named Bd.method).1
  have X0 : Stand p l e ({ frames := 2, cells := 0, slots := 0, locals := 31 } : Room) s m #[(.ref a), (.long kk)] below meth c s₁ [] 0 0 := Stand.of_body Bd
  have e0 : s₁.heap = h0 := by rw [← hh, Bd.state]; rfl
  have N0 := Fr.nil n0
  have K0 : Keep h0 h0 [a, kb, sb] := Keep.refl _ _
  show OEnds p e below s (Q_lirem Z a kb sb S kk ks h0 n0) _ _ _
  refine own_by (fun t k => castTop (ef_12 m a kk) k) ?_
  show OEnds p e below s _ _ _ (s₁.setTop (mkF m 0 #[.val (.ref a), .val (.long kk), .second, .unset, .unset, .unset, .unset] []))
  obtain ⟨hz, hz2, hkn, hSo⟩ := li_len hLI
  refine own_by (fun _ k => XS.aloadN X0.here hx rfl (hb hby d12_0) rfl rfl k) ?_
  show OEnds p e below s _ _ _ (s₁.setTop (mkF m 1 #[.val (.ref a), .val (.long kk), .second, .unset, .unset, .unset, .unset] [(.ref a)]))
  refine own_by (fun _ k => XS.lloadN X0.here hx rfl (hb hby d12_1) rfl k) ?_
  show OEnds p e below s _ _ _ (s₁.setTop (mkF m 2 #[.val (.ref a), .val (.long kk), .second, .unset, .unset, .unset, .unset] [(.long kk), (.ref a)]))
  obtain ⟨v1, T1, L1, h1, X1, e1, hQ1, st1⟩ := own_callX X0 hx hZ (y := (⟨"com/example/tristream/tristream/LongIndex", "find", "(J)I"⟩ : MethodName)) hown (hw _ (List.mem_of_getElem? (i := 27) rfl)) (hw _ (List.mem_of_getElem? (i := 28) rfl)) (hw _ (List.mem_of_getElem? (i := 29) rfl)) (hw _ (List.mem_of_getElem? (i := 30) rfl)) (hw _ (List.mem_of_getElem? (i := 2) rfl)) (hw _ (List.mem_of_getElem? (i := 1) rfl)) (by decide) O0.exa (rm_lifind l Z a0 hw [] a kk kb sb z sf kn kf S sl h0 n0 Z0 O0 F_kb F_sb hLI.fo) e0 (g := (mkF m 2 #[.val (.ref a), .val (.long kk), .second, .unset, .unset, .unset, .unset] [(.long kk), (.ref a)])) rfl (by rw [hml]; rfl) (argsL := [(.long kk)]) (rest := []) (lenOf pd_pJrI rfl) rfl (W := 0) (by show 2 * 0 + _ ≤ _; exact Nat.le_of_eq rfl) (hb hby d12_2) (by decide) (by decide) (by decide) (by decide)
  obtain ⟨r1, rn1, rfl, rfl, hq1, hr1, hst1⟩ := hQ1
  rw [hq1] at e1
  have N1 := Fr.app N0 (Fr.nil n0)
  refine own_tr st1 ?_
  show OEnds p e below s _ _ _ (T1.setTop (mkF m 5 #[.val (.ref a), .val (.long kk), .second, .unset, .unset, .unset, .unset] [(.int r1)]))
  refine own_by (fun _ k => XS.istoreN X1.here hx rfl (hb hby d12_5) rfl (l' := #[.val (.ref a), .val (.long kk), .second, .val (.int r1), .unset, .unset, .unset]) rfl k) ?_
  show OEnds p e below s _ _ _ (T1.setTop (mkF m 6 #[.val (.ref a), .val (.long kk), .second, .val (.int r1), .unset, .unset, .unset] []))
  refine own_by (fun _ k => XS.aloadN X1.here hx rfl (hb hby d12_6) rfl rfl k) ?_
  show OEnds p e below s _ _ _ (T1.setTop (mkF m 7 #[.val (.ref a), .val (.long kk), .second, .val (.int r1), .unset, .unset, .unset] [(.ref a)]))
  obtain ⟨T2, X2, e2, st2⟩ := getF X1 hx hZ hown (host := "") (Or.inl (hw _ (List.mem_of_getElem? (i := 13) rfl))) Via.refl e1 (O0.fld 1 rfl rfl) (g := (mkF m 7 #[.val (.ref a), .val (.long kk), .second, .val (.int r1), .unset, .unset, .unset] [(.ref a)])) rfl rfl (hb hby d12_7)
  refine own_by (st2) ?_
  show OEnds p e below s _ _ _ (T2.setTop (mkF m 10 #[.val (.ref a), .val (.long kk), .second, .val (.int r1), .unset, .unset, .unset] [(.ref sb)]))
  refine own_by (fun _ k => XS.iloadN X2.here hx rfl (hb hby d12_10) rfl k) ?_
  show OEnds p e below s _ _ _ (T2.setTop (mkF m 11 #[.val (.ref a), .val (.long kk), .second, .val (.int r1), .unset, .unset, .unset] [(.int r1), (.ref sb)]))
  refine own_by (own_iaload X2 hx hZ e2 F_sb rn1 hr1 hst1.lt (v := (.int (sl rn1))) rfl (g := (mkF m 11 #[.val (.ref a), .val (.long kk), .second, .val (.int r1), .unset, .unset, .unset] [(.int r1), (.ref sb)])) rfl rfl (hb hby d12_11)) ?_
  show OEnds p e below s _ _ _ (T2.setTop (mkF m 12 #[.val (.ref a), .val (.long kk), .second, .val (.int r1), .unset, .unset, .unset] [(.int (sl rn1))]))
  by_cases hc12_3 : (sl rn1) = (0 : Int32)
  · refine own_by (fun _ k => XS.ifNo X2.here hx rfl (hb hby d12_12) rfl ((if0 _ _).trans (teq hc12_3).2) k) ?_
    show OEnds p e below s _ _ _ (T2.setTop (mkF m 15 #[.val (.ref a), .val (.long kk), .second, .val (.int r1), .unset, .unset, .unset] []))
    exact own_retV X2 hx hlk Bd.returns (hb hby d12_15) (by rw [e2]; exact ⟨rfl, N1, K0, kb, sb, _, _, _, _, _, _, _, Or.inl rfl, Or.inl rfl, g_kb, g_sb, Or.inr ⟨add_new hLI hst1 hc12_3, rfl⟩, rfl, hLI, O0, F_kb, F_sb⟩) (by decide) (by decide)
  · refine own_by (fun _ k => XS.ifYes X2.here hx rfl (pc0 := 12) (pc' := 16) rfl (hb hby d12_12) rfl ((if0 _ _).trans (feq hc12_3).2) (by decide) (by decide) k) ?_
    show OEnds p e below s _ _ _ (T2.setTop (mkF m 16 #[.val (.ref a), .val (.long kk), .second, .val (.int r1), .unset, .unset, .unset] []))
    obtain ⟨hadd, i0, hi0, hki, hgi⟩ := add_found hLI hst1 hc12_3
    obtain ⟨nk, hnk⟩ : ∃ nk, ks.length = nk + 1 := ⟨ks.length - 1, by omega⟩
    have hix : ((sl rn1) - (1 : Int32)).toInt = (i0 : Int) := by rw [idx_of (hLI.2.2.2.2.2.2.1 _ hst1.lt) (by omega), hgi]; rfl
    have hzd : (z - (1 : Int32)).toInt = (nk : Int) := zdec (by rw [hz, hnk]) (by omega)
    refine own_by (fun _ k => XS.aloadN X2.here hx rfl (hb hby d12_16) rfl rfl k) ?_
    show OEnds p e below s _ _ _ (T2.setTop (mkF m 17 #[.val (.ref a), .val (.long kk), .second, .val (.int r1), .unset, .unset, .unset] [(.ref a)]))
    obtain ⟨T4, X4, e4, st4⟩ := getF X2 hx hZ hown (host := "") (Or.inl (hw _ (List.mem_of_getElem? (i := 13) rfl))) Via.refl e2 (O0.fld 1 rfl rfl) (g := (mkF m 17 #[.val (.ref a), .val (.long kk), .second, .val (.int r1), .unset, .unset, .unset] [(.ref a)])) rfl rfl (hb hby d12_17)
    refine own_by (st4) ?_
    show OEnds p e below s _ _ _ (T4.setTop (mkF m 20 #[.val (.ref a), .val (.long kk), .second, .val (.int r1), .unset, .unset, .unset] [(.ref sb)]))
    refine own_by (fun _ k => XS.iloadN X4.here hx rfl (hb hby d12_20) rfl k) ?_
    show OEnds p e below s _ _ _ (T4.setTop (mkF m 21 #[.val (.ref a), .val (.long kk), .second, .val (.int r1), .unset, .unset, .unset] [(.int r1), (.ref sb)]))
    refine own_by (own_iaload X4 hx hZ e4 F_sb rn1 hr1 hst1.lt (v := (.int (sl rn1))) rfl (g := (mkF m 21 #[.val (.ref a), .val (.long kk), .second, .val (.int r1), .unset, .unset, .unset] [(.int r1), (.ref sb)])) rfl rfl (hb hby d12_21)) ?_
    show OEnds p e below s _ _ _ (T4.setTop (mkF m 22 #[.val (.ref a), .val (.long kk), .second, .val (.int r1), .unset, .unset, .unset] [(.int (sl rn1))]))
    refine own_by (fun _ k => XS.iconst X4.here hx rfl (hb hby d12_22) k) ?_
    show OEnds p e below s _ _ _ (T4.setTop (mkF m 23 #[.val (.ref a), .val (.long kk), .second, .val (.int r1), .unset, .unset, .unset] [(.int (1 : Int32)), (.int (sl rn1))]))
    refine own_by (fun _ k => XS.isub X4.here hx rfl (hb hby d12_23) rfl k) ?_
    show OEnds p e below s _ _ _ (T4.setTop (mkF m 24 #[.val (.ref a), .val (.long kk), .second, .val (.int r1), .unset, .unset, .unset] [(.int ((sl rn1) - (1 : Int32)))]))
    refine own_by (fun _ k => XS.istore X4.here hx rfl (hb hby d12_24) rfl (l' := #[.val (.ref a), .val (.long kk), .second, .val (.int r1), .val (.int ((sl rn1) - (1 : Int32))), .unset, .unset]) rfl k) ?_
    show OEnds p e below s _ _ _ (T4.setTop (mkF m 26 #[.val (.ref a), .val (.long kk), .second, .val (.int r1), .val (.int ((sl rn1) - (1 : Int32))), .unset, .unset] []))
    refine own_by (fun _ k => XS.aloadN X4.here hx rfl (hb hby d12_26) rfl rfl k) ?_
    show OEnds p e below s _ _ _ (T4.setTop (mkF m 27 #[.val (.ref a), .val (.long kk), .second, .val (.int r1), .val (.int ((sl rn1) - (1 : Int32))), .unset, .unset] [(.ref a)]))
    refine own_by (fun _ k => XS.iloadN X4.here hx rfl (hb hby d12_27) rfl k) ?_
    show OEnds p e below s _ _ _ (T4.setTop (mkF m 28 #[.val (.ref a), .val (.long kk), .second, .val (.int r1), .val (.int ((sl rn1) - (1 : Int32))), .unset, .unset] [(.int r1), (.ref a)]))
    obtain ⟨v5, T5, L5, h5, X5, e5, hQ5, st5⟩ := own_callX X4 hx hZ (y := (⟨"com/example/tristream/tristream/LongIndex", "clear", "(I)V"⟩ : MethodName)) hown (hw _ (List.mem_of_getElem? (i := 69) rfl)) (hw _ (List.mem_of_getElem? (i := 70) rfl)) (hw _ (List.mem_of_getElem? (i := 71) rfl)) (hw _ (List.mem_of_getElem? (i := 72) rfl)) (hw _ (List.mem_of_getElem? (i := 2) rfl)) (hw _ (List.mem_of_getElem? (i := 1) rfl)) (by decide) O0.exa (rm_liclear l Z a0 hw [] a r1 kb sb z sf kn kf S sl i0 ks.length rn1 h0 n0 Z0 O0 F_kb F_sb g_sb hLI.fo hr1 hst1.lt hgi hLI.2.2.2.2.2.2.2) e4 (g := (mkF m 28 #[.val (.ref a), .val (.long kk), .second, .val (.int r1), .val (.int ((sl rn1) - (1 : Int32))), .unset, .unset] [(.int r1), (.ref a)])) rfl (by rw [hml]; rfl) (argsL := [(.int r1)]) (rest := []) (lenOf pd_pIrV rfl) rfl (W := 0) (by show 2 * 0 + _ ≤ _; exact Nat.le_of_eq rfl) (hb hby d12_28) (by decide) (by decide) (by decide) (by decide)
    obtain ⟨rfl, Nq5, Kq5, sl5, hcl5, F5⟩ := hQ5
    have N5 := Fr.app N1 Nq5
    have K5 : Keep h0 h5 [a, kb, sb] := K0.trans Kq5 (allS (Or.inl (List.mem_of_getElem? (i := 2) rfl)) all0)
    have Z5 : n0 ≤ h5.size := Nat.le_trans Z0 Kq5.1
    refine own_tr st5 ?_
    show OEnds p e below s _ _ _ (T5.setTop (mkF m 31 #[.val (.ref a), .val (.long kk), .second, .val (.int r1), .val (.int ((sl rn1) - (1 : Int32))), .unset, .unset] []))
    refine own_by (fun _ k => XS.aloadN X5.here hx rfl (hb hby d12_31) rfl rfl k) ?_
    show OEnds p e below s _ _ _ (T5.setTop (mkF m 32 #[.val (.ref a), .val (.long kk), .second, .val (.int r1), .val (.int ((sl rn1) - (1 : Int32))), .unset, .unset] [(.ref a)]))
    refine own_by (fun _ k => XS.dup X5.here hx rfl (hb hby d12_32) rfl rfl k) ?_
    show OEnds p e below s _ _ _ (T5.setTop (mkF m 33 #[.val (.ref a), .val (.long kk), .second, .val (.int r1), .val (.int ((sl rn1) - (1 : Int32))), .unset, .unset] [(.ref a), (.ref a)]))
    have O7 : Obj Z h5 a "com/example/tristream/tristream/LongIndex" sch_li [(.ref kb), (.ref sb), (.int sf), (.int z)] := (O0.keep Kq5 (ninS (O0.ne_fa (hw _ (List.mem_of_getElem? (i := 1) rfl)) F_sb) nin0))
    obtain ⟨T6, X6, e6, st6⟩ := getF X5 hx hZ hown (host := "") (Or.inl (hw _ (List.mem_of_getElem? (i := 36) rfl))) Via.refl e5 (O7.fld 3 rfl rfl) (g := (mkF m 33 #[.val (.ref a), .val (.long kk), .second, .val (.int r1), .val (.int ((sl rn1) - (1 : Int32))), .unset, .unset] [(.ref a), (.ref a)])) rfl rfl (hb hby d12_33)
    refine own_by (st6) ?_
    show OEnds p e below s _ _ _ (T6.setTop (mkF m 36 #[.val (.ref a), .val (.long kk), .second, .val (.int r1), .val (.int ((sl rn1) - (1 : Int32))), .unset, .unset] [(.int z), (.ref a)]))
    refine own_by (fun _ k => XS.iconst X6.here hx rfl (hb hby d12_36) k) ?_
    show OEnds p e below s _ _ _ (T6.setTop (mkF m 37 #[.val (.ref a), .val (.long kk), .second, .val (.int r1), .val (.int ((sl rn1) - (1 : Int32))), .unset, .unset] [(.int (1 : Int32)), (.int z), (.ref a)]))
    refine own_by (fun _ k => XS.isub X6.here hx rfl (hb hby d12_37) rfl k) ?_
    show OEnds p e below s _ _ _ (T6.setTop (mkF m 38 #[.val (.ref a), .val (.long kk), .second, .val (.int r1), .val (.int ((sl rn1) - (1 : Int32))), .unset, .unset] [(.int (z - (1 : Int32))), (.ref a)]))
    have F9 : FA Z h5 kb .long kn (fun i => .long (kf i)) := (F_kb.keep Kq5 (ninS (F_kb.ne_ty F_sb (by decide)) nin0))
    obtain ⟨T8, h8, X8, e8, W8, st8⟩ := putF X6 hx hZ hown (host := "") (Or.inl (hw _ (List.mem_of_getElem? (i := 36) rfl))) Via.refl e6 (O7.fld 3 rfl rfl) O7.exa (Or.inl (hw _ (List.mem_of_getElem? (i := 37) rfl))) (hw _ (List.mem_of_getElem? (i := 1) rfl)) (ty := .int) (by decide) rfl rfl (g := (mkF m 38 #[.val (.ref a), .val (.long kk), .second, .val (.int r1), .val (.int ((sl rn1) - (1 : Int32))), .unset, .unset] [(.int (z - (1 : Int32))), (.ref a)])) rfl rfl (hb hby d12_38)
    refine own_by (st8) ?_
    have O8 : Obj Z h8 a "com/example/tristream/tristream/LongIndex" sch_li [(.ref kb), (.ref sb), (.int sf), (.int (z - (1 : Int32)))] := O7.set (so_sch_li hw) W8 3 rfl (Nat.le_of_ble_eq_true rfl)
    have N8 := Fr.snoc X8 N5 g_a
    have Z8 : n0 ≤ h8.size := Nat.le_trans Z5 (Keep.of_wr W8).1
    have K8 : Keep h0 h8 [a, kb, sb] := K5.wr W8 (Or.inl (List.mem_of_getElem? (i := 0) rfl))
    show OEnds p e below s _ _ _ (T8.setTop (mkF m 41 #[.val (.ref a), .val (.long kk), .second, .val (.int r1), .val (.int ((sl rn1) - (1 : Int32))), .unset, .unset] []))
    refine own_by (fun _ k => XS.iload X8.here hx rfl (hb hby d12_41) rfl k) ?_
    show OEnds p e below s _ _ _ (T8.setTop (mkF m 43 #[.val (.ref a), .val (.long kk), .second, .val (.int r1), .val (.int ((sl rn1) - (1 : Int32))), .unset, .unset] [(.int ((sl rn1) - (1 : Int32)))]))
    refine own_by (fun _ k => XS.aloadN X8.here hx rfl (hb hby d12_43) rfl rfl k) ?_
    show OEnds p e below s _ _ _ (T8.setTop (mkF m 44 #[.val (.ref a), .val (.long kk), .second, .val (.int r1), .val (.int ((sl rn1) - (1 : Int32))), .unset, .unset] [(.ref a), (.int ((sl rn1) - (1 : Int32)))]))
    obtain ⟨T10, X10, e10, st10⟩ := getF X8 hx hZ hown (host := "") (Or.inl (hw _ (List.mem_of_getElem? (i := 36) rfl))) Via.refl e8 (O8.fld 3 rfl rfl) (g := (mkF m 44 #[.val (.ref a), .val (.long kk), .second, .val (.int r1), .val (.int ((sl rn1) - (1 : Int32))), .unset, .unset] [(.ref a), (.int ((sl rn1) - (1 : Int32)))])) rfl rfl (hb hby d12_44)
    refine own_by (st10) ?_
    show OEnds p e below s _ _ _ (T10.setTop (mkF m 47 #[.val (.ref a), .val (.long kk), .second, .val (.int r1), .val (.int ((sl rn1) - (1 : Int32))), .unset, .unset] [(.int (z - (1 : Int32))), (.int ((sl rn1) - (1 : Int32)))]))
    by_cases hc47_11 : ((sl rn1) - (1 : Int32)) < (z - (1 : Int32))
    · refine own_by (fun _ k => XS.icmpNo X10.here hx rfl (hb hby d12_47) rfl (tlt hc47_11).2.1 k) ?_
      show OEnds p e below s _ _ _ (T10.setTop (mkF m 50 #[.val (.ref a), .val (.long kk), .second, .val (.int r1), .val (.int ((sl rn1) - (1 : Int32))), .unset, .unset] []))
      refine own_by (fun _ k => XS.aloadN X10.here hx rfl (hb hby d12_50) rfl rfl k) ?_
      show OEnds p e below s _ _ _ (T10.setTop (mkF m 51 #[.val (.ref a), .val (.long kk), .second, .val (.int r1), .val (.int ((sl rn1) - (1 : Int32))), .unset, .unset] [(.ref a)]))
      obtain ⟨T12, X12, e12, st12⟩ := getF X10 hx hZ hown (host := "") (Or.inl (hw _ (List.mem_of_getElem? (i := 10) rfl))) Via.refl e10 (O8.fld 0 rfl rfl) (g := (mkF m 51 #[.val (.ref a), .val (.long kk), .second, .val (.int r1), .val (.int ((sl rn1) - (1 : Int32))), .unset, .unset] [(.ref a)])) rfl rfl (hb hby d12_51)
      refine own_by (st12) ?_
      show OEnds p e below s _ _ _ (T12.setTop (mkF m 54 #[.val (.ref a), .val (.long kk), .second, .val (.int r1), .val (.int ((sl rn1) - (1 : Int32))), .unset, .unset] [(.ref kb)]))
      refine own_by (fun _ k => XS.aloadN X12.here hx rfl (hb hby d12_54) rfl rfl k) ?_
      show OEnds p e below s _ _ _ (T12.setTop (mkF m 55 #[.val (.ref a), .val (.long kk), .second, .val (.int r1), .val (.int ((sl rn1) - (1 : Int32))), .unset, .unset] [(.ref a), (.ref kb)]))
      obtain ⟨T13, X13, e13, st13⟩ := getF X12 hx hZ hown (host := "") (Or.inl (hw _ (List.mem_of_getElem? (i := 36) rfl))) Via.refl e12 (O8.fld 3 rfl rfl) (g := (mkF m 55 #[.val (.ref a), .val (.long kk), .second, .val (.int r1), .val (.int ((sl rn1) - (1 : Int32))), .unset, .unset] [(.ref a), (.ref kb)])) rfl rfl (hb hby d12_55)
      refine own_by (st13) ?_
      show OEnds p e below s _ _ _ (T13.setTop (mkF m 58 #[.val (.ref a), .val (.long kk), .second, .val (.int r1), .val (.int ((sl rn1) - (1 : Int32))), .unset, .unset] [(.int (z - (1 : Int32))), (.ref kb)]))
      have F14 : FA Z h8 kb .long kn (fun i => .long (kf i)) := (F9.other W8 (Ne.symm (O7.ne_fa (hw _ (List.mem_of_getElem? (i := 1) rfl)) F9)))
      refine own_by (own_laload X13 hx hZ e13 F14 nk hzd (by omega) (v := (.long (kf nk))) rfl (g := (mkF m 58 #[.val (.ref a), .val (.long kk), .second, .val (.int r1), .val (.int ((sl rn1) - (1 : Int32))), .unset, .unset] [(.int (z - (1 : Int32))), (.ref kb)])) rfl rfl (hb hby d12_58)) ?_
      show OEnds p e below s _ _ _ (T13.setTop (mkF m 59 #[.val (.ref a), .val (.long kk), .second, .val (.int r1), .val (.int ((sl rn1) - (1 : Int32))), .unset, .unset] [(.long (kf nk))]))
      refine own_by (fun _ k => XS.lstore X13.here hx rfl (hb hby d12_59) rfl (l' := #[.val (.ref a), .val (.long kk), .second, .val (.int r1), .val (.int ((sl rn1) - (1 : Int32))), .val (.long (kf nk)), .second]) rfl k) ?_
      show OEnds p e below s _ _ _ (T13.setTop (mkF m 61 #[.val (.ref a), .val (.long kk), .second, .val (.int r1), .val (.int ((sl rn1) - (1 : Int32))), .val (.long (kf nk)), .second] []))
      refine own_by (fun _ k => XS.aloadN X13.here hx rfl (hb hby d12_61) rfl rfl k) ?_
      show OEnds p e below s _ _ _ (T13.setTop (mkF m 62 #[.val (.ref a), .val (.long kk), .second, .val (.int r1), .val (.int ((sl rn1) - (1 : Int32))), .val (.long (kf nk)), .second] [(.ref a)]))
      obtain ⟨T15, X15, e15, st15⟩ := getF X13 hx hZ hown (host := "") (Or.inl (hw _ (List.mem_of_getElem? (i := 10) rfl))) Via.refl e13 (O8.fld 0 rfl rfl) (g := (mkF m 62 #[.val (.ref a), .val (.long kk), .second, .val (.int r1), .val (.int ((sl rn1) - (1 : Int32))), .val (.long (kf nk)), .second] [(.ref a)])) rfl rfl (hb hby d12_62)
      refine own_by (st15) ?_
      show OEnds p e below s _ _ _ (T15.setTop (mkF m 65 #[.val (.ref a), .val (.long kk), .second, .val (.int r1), .val (.int ((sl rn1) - (1 : Int32))), .val (.long (kf nk)), .second] [(.ref kb)]))
      refine own_by (fun _ k => XS.iload X15.here hx rfl (hb hby d12_65) rfl k) ?_
      show OEnds p e below s _ _ _ (T15.setTop (mkF m 67 #[.val (.ref a), .val (.long kk), .second, .val (.int r1), .val (.int ((sl rn1) - (1 : Int32))), .val (.long (kf nk)), .second] [(.int ((sl rn1) - (1 : Int32))), (.ref kb)]))
      refine own_by (fun _ k => XS.lload X15.here hx rfl (hb hby d12_67) rfl k) ?_
      show OEnds p e below s _ _ _ (T15.setTop (mkF m 69 #[.val (.ref a), .val (.long kk), .second, .val (.int r1), .val (.int ((sl rn1) - (1 : Int32))), .val (.long (kf nk)), .second] [(.long (kf nk)), (.int ((sl rn1) - (1 : Int32))), (.ref kb)]))
      have F17 : FA Z h8 sb .int S (fun i => .int (sl5 i)) := (F5.other W8 (Ne.symm (O7.ne_fa (hw _ (List.mem_of_getElem? (i := 1) rfl)) F5)))
      obtain ⟨T16, h16, X16, e16, W16, st16⟩ := own_lastore X15 hx hZ e15 F14 i0 hix (by omega) (g := (mkF m 69 #[.val (.ref a), .val (.long kk), .second, .val (.int r1), .val (.int ((sl rn1) - (1 : Int32))), .val (.long (kf nk)), .second] [(.long (kf nk)), (.int ((sl rn1) - (1 : Int32))), (.ref kb)])) rfl rfl (hb hby d12_69)
      refine own_by (st16) ?_
      have F16 : FA Z h16 kb .long kn (fun i => .long ((updL kf i0 (kf nk)) i)) := F14.setL W16
      have N16 := Fr.snoc X16 N8 g_kb
      have Z16 : n0 ≤ h16.size := Nat.le_trans Z8 (Keep.of_wr W16).1
      have K16 : Keep h0 h16 [a, kb, sb] := K8.wr W16 (Or.inl (List.mem_of_getElem? (i := 1) rfl))
      show OEnds p e below s _ _ _ (T16.setTop (mkF m 70 #[.val (.ref a), .val (.long kk), .second, .val (.int r1), .val (.int ((sl rn1) - (1 : Int32))), .val (.long (kf nk)), .second] []))
      refine own_by (fun _ k => XS.aloadN X16.here hx rfl (hb hby d12_70) rfl rfl k) ?_
      show OEnds p e below s _ _ _ (T16.setTop (mkF m 71 #[.val (.ref a), .val (.long kk), .second, .val (.int r1), .val (.int ((sl rn1) - (1 : Int32))), .val (.long (kf nk)), .second] [(.ref a)]))
      have O19 : Obj Z h16 a "com/example/tristream/tristream/LongIndex" sch_li [(.ref kb), (.ref sb), (.int sf), (.int (z - (1 : Int32)))] := (O8.other W16 (O8.ne_fa (hw _ (List.mem_of_getElem? (i := 1) rfl)) F14))
      obtain ⟨T18, X18, e18, st18⟩ := getF X16 hx hZ hown (host := "") (Or.inl (hw _ (List.mem_of_getElem? (i := 13) rfl))) Via.refl e16 (O19.fld 1 rfl rfl) (g := (mkF m 71 #[.val (.ref a), .val (.long kk), .second, .val (.int r1), .val (.int ((sl rn1) - (1 : Int32))), .val (.long (kf nk)), .second] [(.ref a)])) rfl rfl (hb hby d12_71)
      refine own_by (st18) ?_
      show OEnds p e below s _ _ _ (T18.setTop (mkF m 74 #[.val (.ref a), .val (.long kk), .second, .val (.int r1), .val (.int ((sl rn1) - (1 : Int32))), .val (.long (kf nk)), .second] [(.ref sb)]))
      refine own_by (fun _ k => XS.aloadN X18.here hx rfl (hb hby d12_74) rfl rfl k) ?_
      show OEnds p e below s _ _ _ (T18.setTop (mkF m 75 #[.val (.ref a), .val (.long kk), .second, .val (.int r1), .val (.int ((sl rn1) - (1 : Int32))), .val (.long (kf nk)), .second] [(.ref a), (.ref sb)]))
      refine own_by (fun _ k => XS.lload X18.here hx rfl (hb hby d12_75) rfl k) ?_
      show OEnds p e below s _ _ _ (T18.setTop (mkF m 77 #[.val (.ref a), .val (.long kk), .second, .val (.int r1), .val (.int ((sl rn1) - (1 : Int32))), .val (.long (kf nk)), .second] [(.long (kf nk)), (.ref a), (.ref sb)]))
      have F21 : FA Z h16 sb .int S (fun i => .int (sl5 i)) := (F17.other W16 (F17.ne_ty F14 (by decide)))
      obtain ⟨v20, T20, L20, h20, X20, e20, hQ20, st20⟩ := own_callX X18 hx hZ (y := (⟨"com/example/tristream/tristream/LongIndex", "find", "(J)I"⟩ : MethodName)) hown (hw _ (List.mem_of_getElem? (i := 27) rfl)) (hw _ (List.mem_of_getElem? (i := 28) rfl)) (hw _ (List.mem_of_getElem? (i := 29) rfl)) (hw _ (List.mem_of_getElem? (i := 30) rfl)) (hw _ (List.mem_of_getElem? (i := 2) rfl)) (hw _ (List.mem_of_getElem? (i := 1) rfl)) (by decide) O19.exa (rm_lifind l Z a0 hw [] a (kf nk) kb sb (z - (1 : Int32)) sf kn (updL kf i0 (kf nk)) S sl5 h16 n0 Z16 O19 F16 F21 (cl_fo (kf' := kf) hLI hcl5)) e18 (g := (mkF m 77 #[.val (.ref a), .val (.long kk), .second, .val (.int r1), .val (.int ((sl rn1) - (1 : Int32))), .val (.long (kf nk)), .second] [(.long (kf nk)), (.ref a), (.ref sb)])) rfl (by rw [hml]; rfl) (argsL := [(.long (kf nk))]) (rest := [(.ref sb)]) (lenOf pd_pJrI rfl) rfl (W := 1) (by show 2 * 0 + _ ≤ _; exact Nat.le_of_eq rfl) (hb hby d12_77) (by decide) (by decide) (by decide) (by decide)
      obtain ⟨r20, rn20, rfl, rfl, hq20, hr20, hst20⟩ := hQ20
      rw [hq20] at e20
      have N20 := Fr.app N16 (Fr.nil n0)
      refine own_tr st20 ?_
      show OEnds p e below s _ _ _ (T20.setTop (mkF m 80 #[.val (.ref a), .val (.long kk), .second, .val (.int r1), .val (.int ((sl rn1) - (1 : Int32))), .val (.long (kf nk)), .second] [(.int r20), (.ref sb)]))
      refine own_by (fun _ k => XS.iload X20.here hx rfl (hb hby d12_80) rfl k) ?_
      show OEnds p e below s _ _ _ (T20.setTop (mkF m 82 #[.val (.ref a), .val (.long kk), .second, .val (.int r1), .val (.int ((sl rn1) - (1 : Int32))), .val (.long (kf nk)), .second] [(.int ((sl rn1) - (1 : Int32))), (.int r20), (.ref sb)]))
      refine own_by (fun _ k => XS.iconst X20.here hx rfl (hb hby d12_82) k) ?_
      show OEnds p e below s _ _ _ (T20.setTop (mkF m 83 #[.val (.ref a), .val (.long kk), .second, .val (.int r1), .val (.int ((sl rn1) - (1 : Int32))), .val (.long (kf nk)), .second] [(.int (1 : Int32)), (.int ((sl rn1) - (1 : Int32))), (.int r20), (.ref sb)]))
      refine own_by (fun _ k => XS.iadd X20.here hx rfl (hb hby d12_83) rfl k) ?_
      show OEnds p e below s _ _ _ (T20.setTop (mkF m 84 #[.val (.ref a), .val (.long kk), .second, .val (.int r1), .val (.int ((sl rn1) - (1 : Int32))), .val (.long (kf nk)), .second] [(.int (((sl rn1) - (1 : Int32)) + (1 : Int32))), (.int r20), (.ref sb)]))
      obtain ⟨T22, h22, X22, e22, W22, st22⟩ := own_iastore X20 hx hZ e20 F21 rn20 hr20 hst20.lt (g := (mkF m 84 #[.val (.ref a), .val (.long kk), .second, .val (.int r1), .val (.int ((sl rn1) - (1 : Int32))), .val (.long (kf nk)), .second] [(.int (((sl rn1) - (1 : Int32)) + (1 : Int32))), (.int r20), (.ref sb)])) rfl rfl (hb hby d12_84)
      refine own_by (st22) ?_
      have F22 : FA Z h22 sb .int S (fun i => .int ((updI sl5 rn20 (((sl rn1) - (1 : Int32)) + (1 : Int32))) i)) := F21.setI W22
      have N22 := Fr.snoc X22 N20 g_sb
      have Z22 : n0 ≤ h22.size := Nat.le_trans Z16 (Keep.of_wr W22).1
      have K22 : Keep h0 h22 [a, kb, sb] := K16.wr W22 (Or.inl (List.mem_of_getElem? (i := 2) rfl))
      show OEnds p e below s _ _ _ (T22.setTop (mkF m 85 #[.val (.ref a), .val (.long kk), .second, .val (.int r1), .val (.int ((sl rn1) - (1 : Int32))), .val (.long (kf nk)), .second] []))
      refine own_by (fun _ k => XS.aloadN X22.here hx rfl (hb hby d12_85) rfl rfl k) ?_
      show OEnds p e below s _ _ _ (T22.setTop (mkF m 86 #[.val (.ref a), .val (.long kk), .second, .val (.int r1), .val (.int ((sl rn1) - (1 : Int32))), .val (.long (kf nk)), .second] [(.ref a)]))
      have O24 : Obj Z h22 a "com/example/tristream/tristream/LongIndex" sch_li [(.ref kb), (.ref sb), (.int sf), (.int (z - (1 : Int32)))] := (O19.other W22 (O19.ne_fa (hw _ (List.mem_of_getElem? (i := 1) rfl)) F21))
      obtain ⟨T23, X23, e23, st23⟩ := getF X22 hx hZ hown (host := "") (Or.inl (hw _ (List.mem_of_getElem? (i := 13) rfl))) Via.refl e22 (O24.fld 1 rfl rfl) (g := (mkF m 86 #[.val (.ref a), .val (.long kk), .second, .val (.int r1), .val (.int ((sl rn1) - (1 : Int32))), .val (.long (kf nk)), .second] [(.ref a)])) rfl rfl (hb hby d12_86)
      refine own_by (st23) ?_
      show OEnds p e below s _ _ _ (T23.setTop (mkF m 89 #[.val (.ref a), .val (.long kk), .second, .val (.int r1), .val (.int ((sl rn1) - (1 : Int32))), .val (.long (kf nk)), .second] [(.ref sb)]))
      refine own_by (own_len X23 hx hZ e23 F22 (z := (Int32.ofNat S)) rfl (g := (mkF m 89 #[.val (.ref a), .val (.long kk), .second, .val (.int r1), .val (.int ((sl rn1) - (1 : Int32))), .val (.long (kf nk)), .second] [(.ref sb)])) rfl rfl (hb hby d12_89)) ?_
      show OEnds p e below s _ _ _ (T23.setTop (mkF m 90 #[.val (.ref a), .val (.long kk), .second, .val (.int r1), .val (.int ((sl rn1) - (1 : Int32))), .val (.long (kf nk)), .second] [(.int (Int32.ofNat S))]))
      refine own_by (fun _ k => XS.iconst X23.here hx rfl (hb hby d12_90) k) ?_
      show OEnds p e below s _ _ _ (T23.setTop (mkF m 91 #[.val (.ref a), .val (.long kk), .second, .val (.int r1), .val (.int ((sl rn1) - (1 : Int32))), .val (.long (kf nk)), .second] [(.int (4 : Int32)), (.int (Int32.ofNat S))]))
      by_cases hc91_25 : (4 : Int32) < (Int32.ofNat S)
      · refine own_by (fun _ k => XS.icmpNo X23.here hx rfl (hb hby d12_91) rfl (tlt hc91_25).2.2.2 k) ?_
        show OEnds p e below s _ _ _ (T23.setTop (mkF m 94 #[.val (.ref a), .val (.long kk), .second, .val (.int r1), .val (.int ((sl rn1) - (1 : Int32))), .val (.long (kf nk)), .second] []))
        refine own_by (fun _ k => XS.aloadN X23.here hx rfl (hb hby d12_94) rfl rfl k) ?_
        show OEnds p e below s _ _ _ (T23.setTop (mkF m 95 #[.val (.ref a), .val (.long kk), .second, .val (.int r1), .val (.int ((sl rn1) - (1 : Int32))), .val (.long (kf nk)), .second] [(.ref a)]))
        obtain ⟨T26, X26, e26, st26⟩ := getF X23 hx hZ hown (host := "") (Or.inl (hw _ (List.mem_of_getElem? (i := 36) rfl))) Via.refl e23 (O24.fld 3 rfl rfl) (g := (mkF m 95 #[.val (.ref a), .val (.long kk), .second, .val (.int r1), .val (.int ((sl rn1) - (1 : Int32))), .val (.long (kf nk)), .second] [(.ref a)])) rfl rfl (hb hby d12_95)
        refine own_by (st26) ?_
        show OEnds p e below s _ _ _ (T26.setTop (mkF m 98 #[.val (.ref a), .val (.long kk), .second, .val (.int r1), .val (.int ((sl rn1) - (1 : Int32))), .val (.long (kf nk)), .second] [(.int (z - (1 : Int32)))]))
        refine own_by (fun _ k => XS.bipush X26.here hx rfl (hb hby d12_98) k) ?_
        show OEnds p e below s _ _ _ (T26.setTop (mkF m 100 #[.val (.ref a), .val (.long kk), .second, .val (.int r1), .val (.int ((sl rn1) - (1 : Int32))), .val (.long (kf nk)), .second] [(.int (8 : Int32)), (.int (z - (1 : Int32)))]))
        refine own_by (fun _ k => XS.imul X26.here hx rfl (hb hby d12_100) rfl k) ?_
        show OEnds p e below s _ _ _ (T26.setTop (mkF m 101 #[.val (.ref a), .val (.long kk), .second, .val (.int r1), .val (.int ((sl rn1) - (1 : Int32))), .val (.long (kf nk)), .second] [(.int ((z - (1 : Int32)) * (8 : Int32)))]))
        refine own_by (fun _ k => XS.aloadN X26.here hx rfl (hb hby d12_101) rfl rfl k) ?_
        show OEnds p e below s _ _ _ (T26.setTop (mkF m 102 #[.val (.ref a), .val (.long kk), .second, .val (.int r1), .val (.int ((sl rn1) - (1 : Int32))), .val (.long (kf nk)), .second] [(.ref a), (.int ((z - (1 : Int32)) * (8 : Int32)))]))
        obtain ⟨T27, X27, e27, st27⟩ := getF X26 hx hZ hown (host := "") (Or.inl (hw _ (List.mem_of_getElem? (i := 13) rfl))) Via.refl e26 (O24.fld 1 rfl rfl) (g := (mkF m 102 #[.val (.ref a), .val (.long kk), .second, .val (.int r1), .val (.int ((sl rn1) - (1 : Int32))), .val (.long (kf nk)), .second] [(.ref a), (.int ((z - (1 : Int32)) * (8 : Int32)))])) rfl rfl (hb hby d12_102)
        refine own_by (st27) ?_
        show OEnds p e below s _ _ _ (T27.setTop (mkF m 105 #[.val (.ref a), .val (.long kk), .second, .val (.int r1), .val (.int ((sl rn1) - (1 : Int32))), .val (.long (kf nk)), .second] [(.ref sb), (.int ((z - (1 : Int32)) * (8 : Int32)))]))
        refine own_by (own_len X27 hx hZ e27 F22 (z := (Int32.ofNat S)) rfl (g := (mkF m 105 #[.val (.ref a), .val (.long kk), .second, .val (.int r1), .val (.int ((sl rn1) - (1 : Int32))), .val (.long (kf nk)), .second] [(.ref sb), (.int ((z - (1 : Int32)) * (8 : Int32)))])) rfl rfl (hb hby d12_105)) ?_
        show OEnds p e below s _ _ _ (T27.setTop (mkF m 106 #[.val (.ref a), .val (.long kk), .second, .val (.int r1), .val (.int ((sl rn1) - (1 : Int32))), .val (.long (kf nk)), .second] [(.int (Int32.ofNat S)), (.int ((z - (1 : Int32)) * (8 : Int32)))]))
        refine own_by (fun _ k => XS.icmpYes X27.here hx rfl (pc0 := 106) (pc' := 138) rfl (hb hby d12_106) rfl (flt (no_shrink hzd (by have h8 := is_8 hSo hc91_25; rcases hsm with q | q <;> omega) (by omega) (is_8 hSo hc91_25))).2.1 (by decide) (by decide) k) ?_
        show OEnds p e below s _ _ _ (T27.setTop (mkF m 138 #[.val (.ref a), .val (.long kk), .second, .val (.int r1), .val (.int ((sl rn1) - (1 : Int32))), .val (.long (kf nk)), .second] []))
        have F28 : FA Z h22 kb .long kn (fun i => .long ((updL kf i0 (kf nk)) i)) := (F16.other W22 (F16.ne_ty F21 (by decide)))
        exact own_retV X27 hx hlk Bd.returns (hb hby d12_138) (by rw [e27]; exact ⟨rfl, N22, K22, kb, sb, _, _, _, _, _, _, _, Or.inl rfl, Or.inl rfl, g_kb, g_sb, Or.inl ⟨i0, hi0, hki, rfl⟩, rfl, (li_remB hLI hnk (lt_toI hix hzd hc47_11) hcl5 hzd hst20 (zinc hix (by omega))), O24, F28, F22⟩) (by decide) (by decide)
      · refine own_by (fun _ k => XS.icmpYes X23.here hx rfl (pc0 := 91) (pc' := 138) rfl (hb hby d12_91) rfl (flt hc91_25).2.2.2 (by decide) (by decide) k) ?_
        show OEnds p e below s _ _ _ (T23.setTop (mkF m 138 #[.val (.ref a), .val (.long kk), .second, .val (.int r1), .val (.int ((sl rn1) - (1 : Int32))), .val (.long (kf nk)), .second] []))
        have F29 : FA Z h22 kb .long kn (fun i => .long ((updL kf i0 (kf nk)) i)) := (F16.other W22 (F16.ne_ty F21 (by decide)))
        exact own_retV X23 hx hlk Bd.returns (hb hby d12_138) (by rw [e23]; exact ⟨rfl, N22, K22, kb, sb, _, _, _, _, _, _, _, Or.inl rfl, Or.inl rfl, g_kb, g_sb, Or.inl ⟨i0, hi0, hki, rfl⟩, rfl, (li_remB hLI hnk (lt_toI hix hzd hc47_11) hcl5 hzd hst20 (zinc hix (by omega))), O24, F29, F22⟩) (by decide) (by decide)
    · refine own_by (fun _ k => XS.icmpYes X10.here hx rfl (pc0 := 47) (pc' := 85) rfl (hb hby d12_47) rfl (flt hc47_11).2.1 (by decide) (by decide) k) ?_
      show OEnds p e below s _ _ _ (T10.setTop (mkF m 85 #[.val (.ref a), .val (.long kk), .second, .val (.int r1), .val (.int ((sl rn1) - (1 : Int32))), .unset, .unset] []))
      refine own_by (fun _ k => XS.aloadN X10.here hx rfl (hb hby d12_85) rfl rfl k) ?_
      show OEnds p e below s _ _ _ (T10.setTop (mkF m 86 #[.val (.ref a), .val (.long kk), .second, .val (.int r1), .val (.int ((sl rn1) - (1 : Int32))), .unset, .unset] [(.ref a)]))
      obtain ⟨T30, X30, e30, st30⟩ := getF X10 hx hZ hown (host := "") (Or.inl (hw _ (List.mem_of_getElem? (i := 13) rfl))) Via.refl e10 (O8.fld 1 rfl rfl) (g := (mkF m 86 #[.val (.ref a), .val (.long kk), .second, .val (.int r1), .val (.int ((sl rn1) - (1 : Int32))), .unset, .unset] [(.ref a)])) rfl rfl (hb hby d12_86)
      refine own_by (st30) ?_
      show OEnds p e below s _ _ _ (T30.setTop (mkF m 89 #[.val (.ref a), .val (.long kk), .second, .val (.int r1), .val (.int ((sl rn1) - (1 : Int32))), .unset, .unset] [(.ref sb)]))
      have F31 : FA Z h8 sb .int S (fun i => .int (sl5 i)) := (F5.other W8 (Ne.symm (O7.ne_fa (hw _ (List.mem_of_getElem? (i := 1) rfl)) F5)))
      refine own_by (own_len X30 hx hZ e30 F31 (z := (Int32.ofNat S)) rfl (g := (mkF m 89 #[.val (.ref a), .val (.long kk), .second, .val (.int r1), .val (.int ((sl rn1) - (1 : Int32))), .unset, .unset] [(.ref sb)])) rfl rfl (hb hby d12_89)) ?_
      show OEnds p e below s _ _ _ (T30.setTop (mkF m 90 #[.val (.ref a), .val (.long kk), .second, .val (.int r1), .val (.int ((sl rn1) - (1 : Int32))), .unset, .unset] [(.int (Int32.ofNat S))]))
      refine own_by (fun _ k => XS.iconst X30.here hx rfl (hb hby d12_90) k) ?_
      show OEnds p e below s _ _ _ (T30.setTop (mkF m 91 #[.val (.ref a), .val (.long kk), .second, .val (.int r1), .val (.int ((sl rn1) - (1 : Int32))), .unset, .unset] [(.int (4 : Int32)), (.int (Int32.ofNat S))]))
      by_cases hc91_32 : (4 : Int32) < (Int32.ofNat S)
      · refine own_by (fun _ k => XS.icmpNo X30.here hx rfl (hb hby d12_91) rfl (tlt hc91_32).2.2.2 k) ?_
        show OEnds p e below s _ _ _ (T30.setTop (mkF m 94 #[.val (.ref a), .val (.long kk), .second, .val (.int r1), .val (.int ((sl rn1) - (1 : Int32))), .unset, .unset] []))
        refine own_by (fun _ k => XS.aloadN X30.here hx rfl (hb hby d12_94) rfl rfl k) ?_
        show OEnds p e below s _ _ _ (T30.setTop (mkF m 95 #[.val (.ref a), .val (.long kk), .second, .val (.int r1), .val (.int ((sl rn1) - (1 : Int32))), .unset, .unset] [(.ref a)]))
        obtain ⟨T33, X33, e33, st33⟩ := getF X30 hx hZ hown (host := "") (Or.inl (hw _ (List.mem_of_getElem? (i := 36) rfl))) Via.refl e30 (O8.fld 3 rfl rfl) (g := (mkF m 95 #[.val (.ref a), .val (.long kk), .second, .val (.int r1), .val (.int ((sl rn1) - (1 : Int32))), .unset, .unset] [(.ref a)])) rfl rfl (hb hby d12_95)
        refine own_by (st33) ?_
        show OEnds p e below s _ _ _ (T33.setTop (mkF m 98 #[.val (.ref a), .val (.long kk), .second, .val (.int r1), .val (.int ((sl rn1) - (1 : Int32))), .unset, .unset] [(.int (z - (1 : Int32)))]))
        refine own_by (fun _ k => XS.bipush X33.here hx rfl (hb hby d12_98) k) ?_
        show OEnds p e below s _ _ _ (T33.setTop (mkF m 100 #[.val (.ref a), .val (.long kk), .second, .val (.int r1), .val (.int ((sl rn1) - (1 : Int32))), .unset, .unset] [(.int (8 : Int32)), (.int (z - (1 : Int32)))]))
        refine own_by (fun _ k => XS.imul X33.here hx rfl (hb hby d12_100) rfl k) ?_
        show OEnds p e below s _ _ _ (T33.setTop (mkF m 101 #[.val (.ref a), .val (.long kk), .second, .val (.int r1), .val (.int ((sl rn1) - (1 : Int32))), .unset, .unset] [(.int ((z - (1 : Int32)) * (8 : Int32)))]))
        refine own_by (fun _ k => XS.aloadN X33.here hx rfl (hb hby d12_101) rfl rfl k) ?_
        show OEnds p e below s _ _ _ (T33.setTop (mkF m 102 #[.val (.ref a), .val (.long kk), .second, .val (.int r1), .val (.int ((sl rn1) - (1 : Int32))), .unset, .unset] [(.ref a), (.int ((z - (1 : Int32)) * (8 : Int32)))]))
        obtain ⟨T34, X34, e34, st34⟩ := getF X33 hx hZ hown (host := "") (Or.inl (hw _ (List.mem_of_getElem? (i := 13) rfl))) Via.refl e33 (O8.fld 1 rfl rfl) (g := (mkF m 102 #[.val (.ref a), .val (.long kk), .second, .val (.int r1), .val (.int ((sl rn1) - (1 : Int32))), .unset, .unset] [(.ref a), (.int ((z - (1 : Int32)) * (8 : Int32)))])) rfl rfl (hb hby d12_102)
        refine own_by (st34) ?_
        show OEnds p e below s _ _ _ (T34.setTop (mkF m 105 #[.val (.ref a), .val (.long kk), .second, .val (.int r1), .val (.int ((sl rn1) - (1 : Int32))), .unset, .unset] [(.ref sb), (.int ((z - (1 : Int32)) * (8 : Int32)))]))
        refine own_by (own_len X34 hx hZ e34 F31 (z := (Int32.ofNat S)) rfl (g := (mkF m 105 #[.val (.ref a), .val (.long kk), .second, .val (.int r1), .val (.int ((sl rn1) - (1 : Int32))), .unset, .unset] [(.ref sb), (.int ((z - (1 : Int32)) * (8 : Int32)))])) rfl rfl (hb hby d12_105)) ?_
        show OEnds p e below s _ _ _ (T34.setTop (mkF m 106 #[.val (.ref a), .val (.long kk), .second, .val (.int r1), .val (.int ((sl rn1) - (1 : Int32))), .unset, .unset] [(.int (Int32.ofNat S)), (.int ((z - (1 : Int32)) * (8 : Int32)))]))
        refine own_by (fun _ k => XS.icmpYes X34.here hx rfl (pc0 := 106) (pc' := 138) rfl (hb hby d12_106) rfl (flt (no_shrink hzd (by have h8 := is_8 hSo hc91_32; rcases hsm with q | q <;> omega) (by omega) (is_8 hSo hc91_32))).2.1 (by decide) (by decide) k) ?_
        show OEnds p e below s _ _ _ (T34.setTop (mkF m 138 #[.val (.ref a), .val (.long kk), .second, .val (.int r1), .val (.int ((sl rn1) - (1 : Int32))), .unset, .unset] []))
        have F35 : FA Z h8 kb .long kn (fun i => .long (kf i)) := (F9.other W8 (Ne.symm (O7.ne_fa (hw _ (List.mem_of_getElem? (i := 1) rfl)) F9)))
        exact own_retV X34 hx hlk Bd.returns (hb hby d12_138) (by rw [e34]; exact ⟨rfl, N8, K8, kb, sb, _, _, _, _, _, _, _, Or.inl rfl, Or.inl rfl, g_kb, g_sb, Or.inl ⟨i0, hi0, hki, rfl⟩, rfl, (li_remA hLI hnk (by have := ge_toI hix hzd hc47_11; omega) hcl5 hzd), O8, F35, F31⟩) (by decide) (by decide)
      · refine own_by (fun _ k => XS.icmpYes X30.here hx rfl (pc0 := 91) (pc' := 138) rfl (hb hby d12_91) rfl (flt hc91_32).2.2.2 (by decide) (by decide) k) ?_
        show OEnds p e below s _ _ _ (T30.setTop (mkF m 138 #[.val (.ref a), .val (.long kk), .second, .val (.int r1), .val (.int ((sl rn1) - (1 : Int32))), .unset, .unset] []))
        have F36 : FA Z h8 kb .long kn (fun i => .long (kf i)) := (F9.other W8 (Ne.symm (O7.ne_fa (hw _ (List.mem_of_getElem? (i := 1) rfl)) F9)))
        exact own_retV X30 hx hlk Bd.returns (hb hby d12_138) (by rw [e30]; exact ⟨rfl, N8, K8, kb, sb, _, _, _, _, _, _, _, Or.inl rfl, Or.inl rfl, g_kb, g_sb, Or.inl ⟨i0, hi0, hki, rfl⟩, rfl, (li_remA hLI hnk (by have := ge_toI hix hzd hc47_11; omega) hcl5 hzd), O8, F36, F31⟩) (by decide) (by decide)
def ex_3 (gv : Nat → Int64) (nv : Int32) (k : Int64) : Int32 := (-1 : Int32)
def ex_2 (gv : Nat → Int64) (nv : Int32) (k : Int64) : Int32 := if (2 : Int32) < nv ∧ (gv 2) = k then (2 : Int32) else ex_3 gv nv k
def ex_1 (gv : Nat → Int64) (nv : Int32) (k : Int64) : Int32 := if (1 : Int32) < nv ∧ (gv 1) = k then (1 : Int32) else ex_2 gv nv k
def ex_0 (gv : Nat → Int64) (nv : Int32) (k : Int64) : Int32 := if (0 : Int32) < nv ∧ (gv 0) = k then (0 : Int32) else ex_1 gv nv k
theorem d11_0 : decode method_3_code 0 = .ok (.iload_n 1, 1) := by decide +kernel
theorem d11_1 : decode method_3_code 1 = .ok (.ifCond .le 13, 3) := by decide +kernel
theorem d11_4 : decode method_3_code 4 = .ok (.aload_n 0, 1) := by decide +kernel
theorem d11_5 : decode method_3_code 5 = .ok (.iconst 0, 1) := by decide +kernel
theorem d11_6 : decode method_3_code 6 = .ok (.laload, 1) := by decide +kernel
theorem d11_7 : decode method_3_code 7 = .ok (.lload_n 2, 1) := by decide +kernel
theorem d11_8 : decode method_3_code 8 = .ok (.lcmp, 1) := by decide +kernel
theorem d11_9 : decode method_3_code 9 = .ok (.ifCond .ne 5, 3) := by decide +kernel
theorem d11_12 : decode method_3_code 12 = .ok (.iconst 0, 1) := by decide +kernel
theorem d11_13 : decode method_3_code 13 = .ok (.ireturn, 1) := by decide +kernel
theorem d11_14 : decode method_3_code 14 = .ok (.iload_n 1, 1) := by decide +kernel
theorem d11_15 : decode method_3_code 15 = .ok (.iconst 1, 1) := by decide +kernel
theorem d11_16 : decode method_3_code 16 = .ok (.if_icmp .le 13, 3) := by decide +kernel
theorem d11_19 : decode method_3_code 19 = .ok (.aload_n 0, 1) := by decide +kernel
theorem d11_20 : decode method_3_code 20 = .ok (.iconst 1, 1) := by decide +kernel
theorem d11_21 : decode method_3_code 21 = .ok (.laload, 1) := by decide +kernel
theorem d11_22 : decode method_3_code 22 = .ok (.lload_n 2, 1) := by decide +kernel
theorem d11_23 : decode method_3_code 23 = .ok (.lcmp, 1) := by decide +kernel
theorem d11_24 : decode method_3_code 24 = .ok (.ifCond .ne 5, 3) := by decide +kernel
theorem d11_27 : decode method_3_code 27 = .ok (.iconst 1, 1) := by decide +kernel
theorem d11_28 : decode method_3_code 28 = .ok (.ireturn, 1) := by decide +kernel
theorem d11_29 : decode method_3_code 29 = .ok (.iload_n 1, 1) := by decide +kernel
theorem d11_30 : decode method_3_code 30 = .ok (.iconst 2, 1) := by decide +kernel
theorem d11_31 : decode method_3_code 31 = .ok (.if_icmp .le 13, 3) := by decide +kernel
theorem d11_34 : decode method_3_code 34 = .ok (.aload_n 0, 1) := by decide +kernel
theorem d11_35 : decode method_3_code 35 = .ok (.iconst 2, 1) := by decide +kernel
theorem d11_36 : decode method_3_code 36 = .ok (.laload, 1) := by decide +kernel
theorem d11_37 : decode method_3_code 37 = .ok (.lload_n 2, 1) := by decide +kernel
theorem d11_38 : decode method_3_code 38 = .ok (.lcmp, 1) := by decide +kernel
theorem d11_39 : decode method_3_code 39 = .ok (.ifCond .ne 5, 3) := by decide +kernel
theorem d11_42 : decode method_3_code 42 = .ok (.iconst 2, 1) := by decide +kernel
theorem d11_43 : decode method_3_code 43 = .ok (.ireturn, 1) := by decide +kernel
theorem d11_44 : decode method_3_code 44 = .ok (.iconst (-1), 1) := by decide +kernel
theorem d11_45 : decode method_3_code 45 = .ok (.ireturn, 1) := by decide +kernel
theorem pn_11 : plainName "com/example/tristream/tristream/LongIndexIndexOfPinLaw" = true := by first | (simp [plainName, overriddenIn]; done) | decide +kernel
theorem ef_11 (m : MethodId) (x0 : Addr) (x1 : Int32) (x2 : Int64) : entryFrame m #[(.ref x0), (.int x1), (.long x2)] 4 = mkF m 0 #[.val (.ref x0), .val (.int x1), .val (.long x2), .second] [] := by first | (simp [entryFrame, mkF, argsToLocals, Value.category]; done) | rfl
set_option maxRecDepth 65536 in
set_option maxHeartbeats 40000000 in
theorem rm_ex (l : Launch) (Z : State) (a0 : Array Value) (hw : ∀ d ∈ tables_1, d.before a0 Z = true) (ws : List Jvm.Cond) (b0 : Addr) (q1 : Int32) (q2 : Int64) (gv : Nat → Int64) (h0 : Heap) (n0 : Nat) (Z0 : n0 ≤ h0.size) (F0 : FA Z h0 b0 .long 3 (fun i => .long (gv i))) :
    MetFree l (⟨"com/example/tristream/tristream/LongIndexIndexOfPinLaw", "expected", "([JIJ)I"⟩ : MethodName) (head1 (Jvm.Cond.code (⟨"com/example/tristream/tristream/LongIndexIndexOfPinLaw", "expected", "([JIJ)I"⟩ : MethodName) method_3_code 4 (some .int) :: ws) ({ frames := 0, cells := 0, slots := 0, locals := 0 } : Room)) (fun a_ U => a_ = #[(.ref b0), (.int q1), (.long q2)] ∧ Z.Warmed39 U.vm ∧ U.heap = h0) (fun _ _ _ _ _ => True) (fun _ U o U' => ∃ v_ L_, o = .returned v_ ∧ QP (.int (ex_0 gv q1 q2)) h0 v_ U'.heap L_ ∧ FrameEnd U o U' L_ ({ frames := 0, cells := 0, slots := 0, locals := 0 } : Room).cells ({ frames := 0, cells := 0, slots := 0, locals := 0 } : Room).slots) := by
  refine MetFree.of_bodySF (plainFor_of_name pn_11) hisR ?_
  intro p e s m args below meth c s₁ Bd hml0 hP hK
  obtain ⟨rfl, hZ, hh⟩ := hP
  have hx := Bd.exec
  have hby := Bd.bytes
  have hlk : meth.locks = false := Bd.notSynchronized
  have hml : c.maxLocals = 4 := hml0
  have hown : s.vm.findClass "com/example/tristream/tristream/LongIndexIndexOfPinLaw" = some m.cls := findClass_of_methodNamed Bd.named
  have hnm := (name_of_methodNamed Bd.named Bd.method).1
  have X0 : Stand p l e ({ frames := 0, cells := 0, slots := 0, locals := 0 } : Room) s m #[(.ref b0), (.int q1), (.long q2)] below meth c s₁ [] 0 0 := Stand.of_body Bd
  have e0 : s₁.heap = h0 := by rw [← hh, Bd.state]; rfl
  have N0 := Fr.nil n0
  have K0 : Keep h0 h0 [] := Keep.refl _ _
  show OEnds p e below s (QP (.int (ex_0 gv q1 q2)) h0) _ _ _
  refine own_by (fun t k => castTop (ef_11 m b0 q1 q2) k) ?_
  show OEnds p e below s _ _ _ (s₁.setTop (mkF m 0 #[.val (.ref b0), .val (.int q1), .val (.long q2), .second] []))
  have b44 : ∀ (T : State) (lo : List Loc) (X_b44 : Stand p l e ({ frames := 0, cells := 0, slots := 0, locals := 0 } : Room) s m #[(.ref b0), (.int q1), (.long q2)] below meth c T lo 0 0) (e_b44 : T.heap = h0) (N_b44 : Fr n0 lo) (hlo : lo = []) (hres : ex_3 gv q1 q2 = ex_0 gv q1 q2), OEnds p e below s (QP (.int (ex_0 gv q1 q2)) h0) 0 0 (T.setTop (mkF m 44 #[.val (.ref b0), .val (.int q1), .val (.long q2), .second] [])) := by
    intro T lo  X_b44 e_b44 N_b44 hlo hres
    show OEnds p e below s _ _ _ (T.setTop (mkF m 44 #[.val (.ref b0), .val (.int q1), .val (.long q2), .second] []))
    refine own_by (fun _ k => XS.iconst X_b44.here hx rfl (hb hby d11_44) k) ?_
    show OEnds p e below s _ _ _ (T.setTop (mkF m 45 #[.val (.ref b0), .val (.int q1), .val (.long q2), .second] [(.int (-1 : Int32))]))
    exact own_retI X_b44 hx hlk Bd.returns (hb hby d11_45) ⟨congrArg (fun z => some (Value.int z)) hres, hlo, e_b44⟩ (by decide) (by decide)
  have b29 : ∀ (T : State) (lo : List Loc) (X_b29 : Stand p l e ({ frames := 0, cells := 0, slots := 0, locals := 0 } : Room) s m #[(.ref b0), (.int q1), (.long q2)] below meth c T lo 0 0) (e_b29 : T.heap = h0) (N_b29 : Fr n0 lo) (hlo : lo = []) (hres : ex_2 gv q1 q2 = ex_0 gv q1 q2), OEnds p e below s (QP (.int (ex_0 gv q1 q2)) h0) 0 0 (T.setTop (mkF m 29 #[.val (.ref b0), .val (.int q1), .val (.long q2), .second] [])) := by
    intro T lo  X_b29 e_b29 N_b29 hlo hres
    show OEnds p e below s _ _ _ (T.setTop (mkF m 29 #[.val (.ref b0), .val (.int q1), .val (.long q2), .second] []))
    refine own_by (fun _ k => XS.iloadN X_b29.here hx rfl (hb hby d11_29) rfl k) ?_
    show OEnds p e below s _ _ _ (T.setTop (mkF m 30 #[.val (.ref b0), .val (.int q1), .val (.long q2), .second] [(.int q1)]))
    refine own_by (fun _ k => XS.iconst X_b29.here hx rfl (hb hby d11_30) k) ?_
    show OEnds p e below s _ _ _ (T.setTop (mkF m 31 #[.val (.ref b0), .val (.int q1), .val (.long q2), .second] [(.int (2 : Int32)), (.int q1)]))
    by_cases hc31_1 : (2 : Int32) < q1
    · refine own_by (fun _ k => XS.icmpNo X_b29.here hx rfl (hb hby d11_31) rfl (tlt hc31_1).2.2.2 k) ?_
      show OEnds p e below s _ _ _ (T.setTop (mkF m 34 #[.val (.ref b0), .val (.int q1), .val (.long q2), .second] []))
      refine own_by (fun _ k => XS.aloadN X_b29.here hx rfl (hb hby d11_34) rfl rfl k) ?_
      show OEnds p e below s _ _ _ (T.setTop (mkF m 35 #[.val (.ref b0), .val (.int q1), .val (.long q2), .second] [(.ref b0)]))
      refine own_by (fun _ k => XS.iconst X_b29.here hx rfl (hb hby d11_35) k) ?_
      show OEnds p e below s _ _ _ (T.setTop (mkF m 36 #[.val (.ref b0), .val (.int q1), .val (.long q2), .second] [(.int (2 : Int32)), (.ref b0)]))
      refine own_by (own_laload X_b29 hx hZ e_b29 F0 2 (by decide) (by decide) (v := (.long (gv 2))) rfl (g := (mkF m 36 #[.val (.ref b0), .val (.int q1), .val (.long q2), .second] [(.int (2 : Int32)), (.ref b0)])) rfl rfl (hb hby d11_36)) ?_
      show OEnds p e below s _ _ _ (T.setTop (mkF m 37 #[.val (.ref b0), .val (.int q1), .val (.long q2), .second] [(.long (gv 2))]))
      refine own_by (fun _ k => XS.lloadN X_b29.here hx rfl (hb hby d11_37) rfl k) ?_
      show OEnds p e below s _ _ _ (T.setTop (mkF m 38 #[.val (.ref b0), .val (.int q1), .val (.long q2), .second] [(.long q2), (.long (gv 2))]))
      refine own_by (fun _ k => XS.lcmp X_b29.here hx rfl (hb hby d11_38) rfl k) ?_
      show OEnds p e below s _ _ _ (T.setTop (mkF m 39 #[.val (.ref b0), .val (.int q1), .val (.long q2), .second] [(.int (lcmpW (gv 2) q2))]))
      by_cases hc39_2 : (gv 2) = q2
      · refine own_by (fun _ k => XS.ifNo X_b29.here hx rfl (hb hby d11_39) rfl ((if0 _ _).trans (teq ((lw_eq _ _).mpr hc39_2)).2) k) ?_
        show OEnds p e below s _ _ _ (T.setTop (mkF m 42 #[.val (.ref b0), .val (.int q1), .val (.long q2), .second] []))
        refine own_by (fun _ k => XS.iconst X_b29.here hx rfl (hb hby d11_42) k) ?_
        show OEnds p e below s _ _ _ (T.setTop (mkF m 43 #[.val (.ref b0), .val (.int q1), .val (.long q2), .second] [(.int (2 : Int32))]))
        exact own_retI X_b29 hx hlk Bd.returns (hb hby d11_43) ⟨congrArg (fun z => some (Value.int z)) ((if_pos ⟨hc31_1, hc39_2⟩).symm.trans hres), hlo, e_b29⟩ (by decide) (by decide)
      · refine own_by (fun _ k => XS.ifYes X_b29.here hx rfl (pc0 := 39) (pc' := 44) rfl (hb hby d11_39) rfl ((if0 _ _).trans (feq (fun q => hc39_2 ((lw_eq _ _).mp q))).2) (by decide) (by decide) k) ?_
        show OEnds p e below s _ _ _ (T.setTop (mkF m 44 #[.val (.ref b0), .val (.int q1), .val (.long q2), .second] []))
        exact b44 T _  X_b29 e_b29 N_b29 hlo ((if_neg (fun z => hc39_2 z.2)).symm.trans hres)
    · refine own_by (fun _ k => XS.icmpYes X_b29.here hx rfl (pc0 := 31) (pc' := 44) rfl (hb hby d11_31) rfl (flt hc31_1).2.2.2 (by decide) (by decide) k) ?_
      show OEnds p e below s _ _ _ (T.setTop (mkF m 44 #[.val (.ref b0), .val (.int q1), .val (.long q2), .second] []))
      exact b44 T _  X_b29 e_b29 N_b29 hlo ((if_neg (fun z => hc31_1 z.1)).symm.trans hres)
  have b14 : ∀ (T : State) (lo : List Loc) (X_b14 : Stand p l e ({ frames := 0, cells := 0, slots := 0, locals := 0 } : Room) s m #[(.ref b0), (.int q1), (.long q2)] below meth c T lo 0 0) (e_b14 : T.heap = h0) (N_b14 : Fr n0 lo) (hlo : lo = []) (hres : ex_1 gv q1 q2 = ex_0 gv q1 q2), OEnds p e below s (QP (.int (ex_0 gv q1 q2)) h0) 0 0 (T.setTop (mkF m 14 #[.val (.ref b0), .val (.int q1), .val (.long q2), .second] [])) := by
    intro T lo  X_b14 e_b14 N_b14 hlo hres
    show OEnds p e below s _ _ _ (T.setTop (mkF m 14 #[.val (.ref b0), .val (.int q1), .val (.long q2), .second] []))
    refine own_by (fun _ k => XS.iloadN X_b14.here hx rfl (hb hby d11_14) rfl k) ?_
    show OEnds p e below s _ _ _ (T.setTop (mkF m 15 #[.val (.ref b0), .val (.int q1), .val (.long q2), .second] [(.int q1)]))
    refine own_by (fun _ k => XS.iconst X_b14.here hx rfl (hb hby d11_15) k) ?_
    show OEnds p e below s _ _ _ (T.setTop (mkF m 16 #[.val (.ref b0), .val (.int q1), .val (.long q2), .second] [(.int (1 : Int32)), (.int q1)]))
    by_cases hc16_3 : (1 : Int32) < q1
    · refine own_by (fun _ k => XS.icmpNo X_b14.here hx rfl (hb hby d11_16) rfl (tlt hc16_3).2.2.2 k) ?_
      show OEnds p e below s _ _ _ (T.setTop (mkF m 19 #[.val (.ref b0), .val (.int q1), .val (.long q2), .second] []))
      refine own_by (fun _ k => XS.aloadN X_b14.here hx rfl (hb hby d11_19) rfl rfl k) ?_
      show OEnds p e below s _ _ _ (T.setTop (mkF m 20 #[.val (.ref b0), .val (.int q1), .val (.long q2), .second] [(.ref b0)]))
      refine own_by (fun _ k => XS.iconst X_b14.here hx rfl (hb hby d11_20) k) ?_
      show OEnds p e below s _ _ _ (T.setTop (mkF m 21 #[.val (.ref b0), .val (.int q1), .val (.long q2), .second] [(.int (1 : Int32)), (.ref b0)]))
      refine own_by (own_laload X_b14 hx hZ e_b14 F0 1 (by decide) (by decide) (v := (.long (gv 1))) rfl (g := (mkF m 21 #[.val (.ref b0), .val (.int q1), .val (.long q2), .second] [(.int (1 : Int32)), (.ref b0)])) rfl rfl (hb hby d11_21)) ?_
      show OEnds p e below s _ _ _ (T.setTop (mkF m 22 #[.val (.ref b0), .val (.int q1), .val (.long q2), .second] [(.long (gv 1))]))
      refine own_by (fun _ k => XS.lloadN X_b14.here hx rfl (hb hby d11_22) rfl k) ?_
      show OEnds p e below s _ _ _ (T.setTop (mkF m 23 #[.val (.ref b0), .val (.int q1), .val (.long q2), .second] [(.long q2), (.long (gv 1))]))
      refine own_by (fun _ k => XS.lcmp X_b14.here hx rfl (hb hby d11_23) rfl k) ?_
      show OEnds p e below s _ _ _ (T.setTop (mkF m 24 #[.val (.ref b0), .val (.int q1), .val (.long q2), .second] [(.int (lcmpW (gv 1) q2))]))
      by_cases hc24_4 : (gv 1) = q2
      · refine own_by (fun _ k => XS.ifNo X_b14.here hx rfl (hb hby d11_24) rfl ((if0 _ _).trans (teq ((lw_eq _ _).mpr hc24_4)).2) k) ?_
        show OEnds p e below s _ _ _ (T.setTop (mkF m 27 #[.val (.ref b0), .val (.int q1), .val (.long q2), .second] []))
        refine own_by (fun _ k => XS.iconst X_b14.here hx rfl (hb hby d11_27) k) ?_
        show OEnds p e below s _ _ _ (T.setTop (mkF m 28 #[.val (.ref b0), .val (.int q1), .val (.long q2), .second] [(.int (1 : Int32))]))
        exact own_retI X_b14 hx hlk Bd.returns (hb hby d11_28) ⟨congrArg (fun z => some (Value.int z)) ((if_pos ⟨hc16_3, hc24_4⟩).symm.trans hres), hlo, e_b14⟩ (by decide) (by decide)
      · refine own_by (fun _ k => XS.ifYes X_b14.here hx rfl (pc0 := 24) (pc' := 29) rfl (hb hby d11_24) rfl ((if0 _ _).trans (feq (fun q => hc24_4 ((lw_eq _ _).mp q))).2) (by decide) (by decide) k) ?_
        show OEnds p e below s _ _ _ (T.setTop (mkF m 29 #[.val (.ref b0), .val (.int q1), .val (.long q2), .second] []))
        exact b29 T _  X_b14 e_b14 N_b14 hlo ((if_neg (fun z => hc24_4 z.2)).symm.trans hres)
    · refine own_by (fun _ k => XS.icmpYes X_b14.here hx rfl (pc0 := 16) (pc' := 29) rfl (hb hby d11_16) rfl (flt hc16_3).2.2.2 (by decide) (by decide) k) ?_
      show OEnds p e below s _ _ _ (T.setTop (mkF m 29 #[.val (.ref b0), .val (.int q1), .val (.long q2), .second] []))
      exact b29 T _  X_b14 e_b14 N_b14 hlo ((if_neg (fun z => hc16_3 z.1)).symm.trans hres)
  have hlo : ([] : List Loc) = [] := rfl
  have hres : ex_0 gv q1 q2 = ex_0 gv q1 q2 := rfl
  show OEnds p e below s _ _ _ (s₁.setTop (mkF m 0 #[.val (.ref b0), .val (.int q1), .val (.long q2), .second] []))
  refine own_by (fun _ k => XS.iloadN X0.here hx rfl (hb hby d11_0) rfl k) ?_
  show OEnds p e below s _ _ _ (s₁.setTop (mkF m 1 #[.val (.ref b0), .val (.int q1), .val (.long q2), .second] [(.int q1)]))
  by_cases hc1_5 : (0 : Int32) < q1
  · refine own_by (fun _ k => XS.ifNo X0.here hx rfl (hb hby d11_1) rfl ((if0 _ _).trans (tlt hc1_5).2.2.2) k) ?_
    show OEnds p e below s _ _ _ (s₁.setTop (mkF m 4 #[.val (.ref b0), .val (.int q1), .val (.long q2), .second] []))
    refine own_by (fun _ k => XS.aloadN X0.here hx rfl (hb hby d11_4) rfl rfl k) ?_
    show OEnds p e below s _ _ _ (s₁.setTop (mkF m 5 #[.val (.ref b0), .val (.int q1), .val (.long q2), .second] [(.ref b0)]))
    refine own_by (fun _ k => XS.iconst X0.here hx rfl (hb hby d11_5) k) ?_
    show OEnds p e below s _ _ _ (s₁.setTop (mkF m 6 #[.val (.ref b0), .val (.int q1), .val (.long q2), .second] [(.int (0 : Int32)), (.ref b0)]))
    refine own_by (own_laload X0 hx hZ e0 F0 0 (by decide) (by decide) (v := (.long (gv 0))) rfl (g := (mkF m 6 #[.val (.ref b0), .val (.int q1), .val (.long q2), .second] [(.int (0 : Int32)), (.ref b0)])) rfl rfl (hb hby d11_6)) ?_
    show OEnds p e below s _ _ _ (s₁.setTop (mkF m 7 #[.val (.ref b0), .val (.int q1), .val (.long q2), .second] [(.long (gv 0))]))
    refine own_by (fun _ k => XS.lloadN X0.here hx rfl (hb hby d11_7) rfl k) ?_
    show OEnds p e below s _ _ _ (s₁.setTop (mkF m 8 #[.val (.ref b0), .val (.int q1), .val (.long q2), .second] [(.long q2), (.long (gv 0))]))
    refine own_by (fun _ k => XS.lcmp X0.here hx rfl (hb hby d11_8) rfl k) ?_
    show OEnds p e below s _ _ _ (s₁.setTop (mkF m 9 #[.val (.ref b0), .val (.int q1), .val (.long q2), .second] [(.int (lcmpW (gv 0) q2))]))
    by_cases hc9_6 : (gv 0) = q2
    · refine own_by (fun _ k => XS.ifNo X0.here hx rfl (hb hby d11_9) rfl ((if0 _ _).trans (teq ((lw_eq _ _).mpr hc9_6)).2) k) ?_
      show OEnds p e below s _ _ _ (s₁.setTop (mkF m 12 #[.val (.ref b0), .val (.int q1), .val (.long q2), .second] []))
      refine own_by (fun _ k => XS.iconst X0.here hx rfl (hb hby d11_12) k) ?_
      show OEnds p e below s _ _ _ (s₁.setTop (mkF m 13 #[.val (.ref b0), .val (.int q1), .val (.long q2), .second] [(.int (0 : Int32))]))
      exact own_retI X0 hx hlk Bd.returns (hb hby d11_13) ⟨congrArg (fun z => some (Value.int z)) ((if_pos ⟨hc1_5, hc9_6⟩).symm.trans hres), hlo, e0⟩ (by decide) (by decide)
    · refine own_by (fun _ k => XS.ifYes X0.here hx rfl (pc0 := 9) (pc' := 14) rfl (hb hby d11_9) rfl ((if0 _ _).trans (feq (fun q => hc9_6 ((lw_eq _ _).mp q))).2) (by decide) (by decide) k) ?_
      show OEnds p e below s _ _ _ (s₁.setTop (mkF m 14 #[.val (.ref b0), .val (.int q1), .val (.long q2), .second] []))
      exact b14 s₁ _  X0 e0 N0 hlo ((if_neg (fun z => hc9_6 z.2)).symm.trans hres)
  · refine own_by (fun _ k => XS.ifYes X0.here hx rfl (pc0 := 1) (pc' := 14) rfl (hb hby d11_1) rfl ((if0 _ _).trans (flt hc1_5).2.2.2) (by decide) (by decide) k) ?_
    show OEnds p e below s _ _ _ (s₁.setTop (mkF m 14 #[.val (.ref b0), .val (.int q1), .val (.long q2), .second] []))
    exact b14 s₁ _  X0 e0 N0 hlo ((if_neg (fun z => hc1_5 z.1)).symm.trans hres)
theorem addR_len {ks ks' : List Int64} {k : Int64} {m : Nat} (h : AddR ks k ks') (hm : ks.length ≤ m) : ks'.length ≤ m + 1 := by
  rcases h with ⟨-, -, -, rfl⟩ | ⟨-, rfl⟩
  · omega
  · rw [List.length_append]; simp; omega
theorem addR_in {ks ks' : List Int64} {k : Int64} (h : AddR ks k ks') {i : Nat} (hi : i < ks.length) (hk : ks.getD i 0 = k) : ks' = ks := by
  rcases h with ⟨-, -, -, rfl⟩ | ⟨h, -⟩
  · rfl
  · exact absurd hk (h i hi)
theorem addR_out {ks ks' : List Int64} {k : Int64} (h : AddR ks k ks') (hk : ∀ i, i < ks.length → ks.getD i 0 ≠ k) : ks' = ks ++ [k] := by
  rcases h with ⟨i, hi, h, -⟩ | ⟨-, h⟩
  · exact absurd h (hk i hi)
  · exact h
theorem ks1 {a : Int64} {k1 : List Int64} (h1 : AddR [] a k1) : k1 = [a] := addR_out h1 (fun i hi => absurd hi (Nat.not_lt_zero i))
theorem ks2e {a b : Int64} {k1 k2 : List Int64} (h1 : AddR [] a k1) (h2 : AddR k1 b k2) (e : b = a) : k2 = [a] := by
  rw [ks1 h1] at h2
  exact addR_in h2 (i := 0) (by simp) e.symm
theorem ks2n {a b : Int64} {k1 k2 : List Int64} (h1 : AddR [] a k1) (h2 : AddR k1 b k2) (e : ¬ b = a) : k2 = [a, b] := by
  rw [ks1 h1] at h2
  exact addR_out h2 (fun i hi q => by
    have : i = 0 := by simp at hi; omega
    subst this; exact e q.symm)
theorem ks_ee {a b c : Int64} {k1 k2 k3 : List Int64} (h1 : AddR [] a k1) (h2 : AddR k1 b k2) (h3 : AddR k2 c k3) (e : b = a) (e2 : c = a) : k3 = [a] := by
  rw [ks2e h1 h2 e] at h3
  exact addR_in h3 (i := 0) (by simp) e2.symm
theorem ks_en {a b c : Int64} {k1 k2 k3 : List Int64} (h1 : AddR [] a k1) (h2 : AddR k1 b k2) (h3 : AddR k2 c k3) (e : b = a) (e2 : ¬ c = a) : k3 = [a, c] := by
  rw [ks2e h1 h2 e] at h3
  exact addR_out h3 (fun i hi q => by
    have : i = 0 := by simp at hi; omega
    subst this; exact e2 q.symm)
theorem ks_ne {a b c : Int64} {k1 k2 k3 : List Int64} (h1 : AddR [] a k1) (h2 : AddR k1 b k2) (h3 : AddR k2 c k3) (e : ¬ b = a) (e2 : c = a ∨ c = b) : k3 = [a, b] := by
  rw [ks2n h1 h2 e] at h3
  rcases e2 with q | q
  · exact addR_in h3 (i := 0) (by simp) q.symm
  · exact addR_in h3 (i := 1) (by simp) q.symm
theorem ks_nn {a b c : Int64} {k1 k2 k3 : List Int64} (h1 : AddR [] a k1) (h2 : AddR k1 b k2) (h3 : AddR k2 c k3) (e : ¬ b = a) (e2 : ¬ c = a) (e3 : ¬ c = b) : k3 = [a, b, c] := by
  rw [ks2n h1 h2 e] at h3
  exact addR_out h3 (fun i hi q => by
    have : i = 0 ∨ i = 1 := by simp at hi; omega
    rcases this with rfl | rfl
    · exact e2 q.symm
    · exact e3 q.symm)
theorem fv1 {f : Nat → Int64} {ks : List Int64} {a : Int64} (e : ks = [a]) (h0 : f 0 = a) : ∀ i, i < ks.length → f i = ks.getD i 0 := by
  subst e
  intro i hi
  have : i = 0 := by simp at hi; omega
  subst this; exact h0
theorem fv2 {f : Nat → Int64} {ks : List Int64} {a b : Int64} (e : ks = [a, b]) (h0 : f 0 = a) (h1 : f 1 = b) : ∀ i, i < ks.length → f i = ks.getD i 0 := by
  subst e
  intro i hi
  have : i = 0 ∨ i = 1 := by simp at hi; omega
  rcases this with rfl | rfl
  · exact h0
  · exact h1
theorem fv3 {f : Nat → Int64} {ks : List Int64} {a b c : Int64} (e : ks = [a, b, c]) (h0 : f 0 = a) (h1 : f 1 = b) (h2 : f 2 = c) : ∀ i, i < ks.length → f i = ks.getD i 0 := by
  subst e
  intro i hi
  have : i = 0 ∨ i = 1 ∨ i = 2 := by simp at hi; omega
  rcases this with rfl | rfl | rfl
  · exact h0
  · exact h1
  · exact h2
theorem ex_idx {f : Nat → Int64} {ks : List Int64} {nv : Int32} {k : Int64} (hn : nv.toInt = (ks.length : Int)) (h3 : ks.length ≤ 3) (hf : ∀ i, i < ks.length → f i = ks.getD i 0) : IdxR ks k (ex_0 f nv k) := by
  have t0 : (0 : Int32).toInt = 0 := by decide
  have t1 : (1 : Int32).toInt = 1 := by decide
  have t2 : (2 : Int32).toInt = 2 := by decide
  have l0 : ((0 : Int32) < nv) ↔ 0 < ks.length := by rw [Int32.lt_iff_toInt_lt, t0, hn]; omega
  have l1 : ((1 : Int32) < nv) ↔ 1 < ks.length := by rw [Int32.lt_iff_toInt_lt, t1, hn]; omega
  have l2 : ((2 : Int32) < nv) ↔ 2 < ks.length := by rw [Int32.lt_iff_toInt_lt, t2, hn]; omega
  rw [ex_0]
  by_cases c0 : (0 : Int32) < nv ∧ f 0 = k
  · rw [if_pos c0]; exact Or.inl ⟨0, l0.mp c0.1, by rw [← hf 0 (l0.mp c0.1)]; exact c0.2, by rw [t0]; rfl⟩
  · rw [if_neg c0, ex_1]
    by_cases c1 : (1 : Int32) < nv ∧ f 1 = k
    · rw [if_pos c1]; exact Or.inl ⟨1, l1.mp c1.1, by rw [← hf 1 (l1.mp c1.1)]; exact c1.2, by rw [t1]; rfl⟩
    · rw [if_neg c1, ex_2]
      by_cases c2 : (2 : Int32) < nv ∧ f 2 = k
      · rw [if_pos c2]; exact Or.inl ⟨2, l2.mp c2.1, by rw [← hf 2 (l2.mp c2.1)]; exact c2.2, by rw [t2]; rfl⟩
      · rw [if_neg c2]
        refine Or.inr ⟨fun i hi q => ?_, rfl⟩
        have : i = 0 ∨ i = 1 ∨ i = 2 := by omega
        rcases this with rfl | rfl | rfl
        · exact c0 ⟨l0.mpr hi, (hf 0 hi).trans q⟩
        · exact c1 ⟨l1.mpr hi, (hf 1 hi).trans q⟩
        · exact c2 ⟨l2.mpr hi, (hf 2 hi).trans q⟩
theorem idx_uni {ks : List Int64} {k : Int64} {r r' : Int32} (hd : Dis ks) (h : IdxR ks k r) (h' : IdxR ks k r') : r = r' := by
  rcases h with ⟨i, hi, hk, hr⟩ | ⟨hn, hr⟩ <;> rcases h' with ⟨j, hj, hk', hr'⟩ | ⟨hn', hr'⟩
  · have := hd i j hi hj (hk.trans hk'.symm)
    exact Int32.toInt_inj.mp (by rw [hr, hr', this])
  · exact absurd hk (hn' i hi)
  · exact absurd hk' (hn j hj)
  · rw [hr, hr']
theorem LI.dis {S kn : Nat} {sf z : Int32} {sl : Nat → Int32} {kf : Nat → Int64} {ks : List Int64} (h : LI S sf z sl kf kn ks) : Dis ks := h.2.2.2.2.2.1
theorem neg_idx {ks : List Int64} {k : Int64} {r : Int32} (h : IdxR ks k r) (hn : r < (0 : Int32)) : ∀ i, i < ks.length → ks.getD i 0 ≠ k := by
  rcases h with ⟨i, -, -, hr⟩ | ⟨h, -⟩
  · have t0 : (0 : Int32).toInt = 0 := by decide
    rw [Int32.lt_iff_toInt_lt, t0, hr] at hn; omega
  · exact h
theorem pos_idx {ks : List Int64} {k : Int64} {r : Int32} (h : IdxR ks k r) (hn : ¬ r < (0 : Int32)) : ∃ i, i < ks.length ∧ ks.getD i 0 = k ∧ r.toInt = ((i : Nat) : Int) := by
  rcases h with h | ⟨-, h⟩
  · exact h
  · exact absurd (by rw [h]; decide) hn
theorem remR_out {ks ks' : List Int64} {k : Int64} (h : RemR ks k ks') (hn : ∀ i, i < ks.length → ks.getD i 0 ≠ k) : ks' = ks := by
  rcases h with ⟨i, hi, hk, -⟩ | ⟨-, h⟩
  · exact absurd hk (hn i hi)
  · exact h
theorem remR_in {ks ks' : List Int64} {k : Int64} (h : RemR ks k ks') (hd : Dis ks) {i : Nat} (hi : i < ks.length) (hk : ks.getD i 0 = k) : ks' = rmL ks i := by
  rcases h with ⟨j, hj, hk', h⟩ | ⟨h, -⟩
  · rw [h, hd j i hj hi (hk'.trans hk.symm)]
  · exact absurd hk (h i hi)
theorem ndec {nv : Int32} {n : Nat} (h : nv.toInt = ((n + 1 : Nat) : Int)) (hn : n ≤ 100) : (nv + (-1 : Int32)).toInt = (n : Int) := by
  have h1 := c_iadd nv (-1)
  have h2 := rng32 (nv + (-1))
  have h3 : (-1 : Int32).toInt = -1 := by decide
  omega
theorem fv_rmB {f : Nat → Int64} {ks : List Int64} {i n : Nat} (hn : ks.length = n + 1) (hi : ¬ i < n) (hf : ∀ i, i < ks.length → f i = ks.getD i 0) : ∀ j, j < (rmL ks i).length → f j = (rmL ks i).getD j 0 := by
  intro j hj
  rw [rmL_len] at hj
  rw [rmL_get hj, if_neg (by omega)]; exact hf j (by omega)
theorem fv_rmC {f : Nat → Int64} {ks : List Int64} {i n : Nat} (hn : ks.length = n + 1) (hf : ∀ i, i < ks.length → f i = ks.getD i 0) : ∀ j, j < (rmL ks i).length → updL f i (f n) j = (rmL ks i).getD j 0 := by
  intro j hj
  rw [rmL_len] at hj
  rw [rmL_get hj]
  by_cases q : j = i
  · rw [if_pos q, updL, if_pos q, hf n (by omega), show ks.length - 1 = n by omega]
  · rw [if_neg q, updL, if_neg q]; exact hf j (by omega)
theorem len_rm {ks : List Int64} {i n : Nat} {nv : Int32} (hn : ks.length = n + 1) (h : nv.toInt = (n : Int)) : nv.toInt = ((rmL ks i).length : Int) := by
  rw [rmL_len, hn]; exact h
theorem pn_0 : plainName "com/example/tristream/tristream/LongIndexIndexOfPinLaw" = true := by first | (simp [plainName, overriddenIn]; done) | decide +kernel
theorem ef_0 (m : MethodId) (x0 : Int64) (x1 : Int64) (x2 : Int64) (x3 : Int64) (x4 : Int32) : entryFrame m #[(.long x0), (.long x1), (.long x2), (.long x3), (.int x4)] maxLocals = mkF m 0 #[.val (.long x0), .second, .val (.long x1), .second, .val (.long x2), .second, .val (.long x3), .second, .val (.int x4), .unset, .unset, .unset, .unset, .unset, .unset, .unset, .unset, .unset, .unset, .unset, .unset] [] := by first | (simp [entryFrame, mkF, argsToLocals, Value.category, maxLocals]; done) | rfl
def QL (n0 : Nat) (v : Option Value) (h : Heap) (L : List Loc) : Prop := v = some (.int 1) ∧ Fr n0 L
set_option maxRecDepth 65536 in
set_option maxHeartbeats 40000000 in
theorem rm_law (l : Launch) (Z : State) (a0 : Array Value) (hw : ∀ d ∈ tables_1, d.before a0 Z = true) (ws : List Jvm.Cond) (q0 : Int64) (q1 : Int64) (q2 : Int64) (q3 : Int64) (q4 : Int32) (h0 : Heap) (n0 : Nat) (Z0 : n0 ≤ h0.size) :
    MetFree l x (head1 (Jvm.Cond.code x code maxLocals ret :: ws) room_1) (fun a_ U => a_ = #[(.long q0), (.long q1), (.long q2), (.long q3), (.int q4)] ∧ Z.Warmed39 U.vm ∧ U.heap = h0) (fun _ _ _ _ _ => True) (fun _ U o U' => ∃ v_ L_, o = .returned v_ ∧ QL n0 v_ U'.heap L_ ∧ FrameEnd U o U' L_ room_1.cells room_1.slots) := by
  refine MetFree.of_bodySF (plainFor_of_name pn_0) hisR ?_
  intro p e s m args below meth c s₁ Bd hml0 hP hK
  obtain ⟨rfl, hZ, hh⟩ := hP
  have hx := Bd.exec
  have hby := Bd.bytes
  have hlk : meth.locks = false := Bd.notSynchronized
  have hml : c.maxLocals = 21 := hml0
  have hown : s.vm.findClass "com/example/tristream/tristream/LongIndexIndexOfPinLaw" = some m.cls := findClass_of_methodNamed Bd.named
  have hnm := (name_of_methodNamed Bd.named Bd.method).1
  have X0 : Stand p l e room_1 s m #[(.long q0), (.long q1), (.long q2), (.long q3), (.int q4)] below meth c s₁ [] 0 0 := Stand.of_body Bd
  have e0 : s₁.heap = h0 := by rw [← hh, Bd.state]; rfl
  have N0 := Fr.nil n0
  have K0 : Keep h0 h0 [] := Keep.refl _ _
  show OEnds p e below s (QL n0) _ _ _
  refine own_by (fun t k => castTop (ef_0 m q0 q1 q2 q3 q4) k) ?_
  show OEnds p e below s _ _ _ (s₁.setTop (mkF m 0 #[.val (.long q0), .second, .val (.long q1), .second, .val (.long q2), .second, .val (.long q3), .second, .val (.int q4), .unset, .unset, .unset, .unset, .unset, .unset, .unset, .unset, .unset, .unset, .unset, .unset] []))
  refine own_by (fun _ k => XS.iload X0.here hx rfl (hb hby at_0) rfl k) ?_
  show OEnds p e below s _ _ _ (s₁.setTop (mkF m 2 #[.val (.long q0), .second, .val (.long q1), .second, .val (.long q2), .second, .val (.long q3), .second, .val (.int q4), .unset, .unset, .unset, .unset, .unset, .unset, .unset, .unset, .unset, .unset, .unset, .unset] [(.int q4)]))
  refine own_by (fun _ k => XS.iconst X0.here hx rfl (hb hby at_2) k) ?_
  show OEnds p e below s _ _ _ (s₁.setTop (mkF m 3 #[.val (.long q0), .second, .val (.long q1), .second, .val (.long q2), .second, .val (.long q3), .second, .val (.int q4), .unset, .unset, .unset, .unset, .unset, .unset, .unset, .unset, .unset, .unset, .unset, .unset] [(.int (3 : Int32)), (.int q4)]))
  refine own_by (fun _ k => XS.iand X0.here hx rfl (hb hby at_3) rfl k) ?_
  show OEnds p e below s _ _ _ (s₁.setTop (mkF m 4 #[.val (.long q0), .second, .val (.long q1), .second, .val (.long q2), .second, .val (.long q3), .second, .val (.int q4), .unset, .unset, .unset, .unset, .unset, .unset, .unset, .unset, .unset, .unset, .unset, .unset] [(.int (q4 &&& (3 : Int32)))]))
  refine own_by (fun _ k => XS.istore X0.here hx rfl (hb hby at_4) rfl (l' := #[.val (.long q0), .second, .val (.long q1), .second, .val (.long q2), .second, .val (.long q3), .second, .val (.int q4), .val (.int (q4 &&& (3 : Int32))), .unset, .unset, .unset, .unset, .unset, .unset, .unset, .unset, .unset, .unset, .unset]) rfl k) ?_
  show OEnds p e below s _ _ _ (s₁.setTop (mkF m 6 #[.val (.long q0), .second, .val (.long q1), .second, .val (.long q2), .second, .val (.long q3), .second, .val (.int q4), .val (.int (q4 &&& (3 : Int32))), .unset, .unset, .unset, .unset, .unset, .unset, .unset, .unset, .unset, .unset, .unset] []))
  generalize (q4 &&& (3 : Int32)) = sel
  show OEnds p e below s _ _ _ (s₁.setTop (mkF m 6 #[.val (.long q0), .second, .val (.long q1), .second, .val (.long q2), .second, .val (.long q3), .second, .val (.int q4), .val (.int sel), .unset, .unset, .unset, .unset, .unset, .unset, .unset, .unset, .unset, .unset, .unset] []))
  refine own_by (fun _ k => XS.iload X0.here hx rfl (hb hby at_6) rfl k) ?_
  show OEnds p e below s _ _ _ (s₁.setTop (mkF m 8 #[.val (.long q0), .second, .val (.long q1), .second, .val (.long q2), .second, .val (.long q3), .second, .val (.int q4), .val (.int sel), .unset, .unset, .unset, .unset, .unset, .unset, .unset, .unset, .unset, .unset, .unset] [(.int q4)]))
  refine own_by (fun _ k => XS.iconst X0.here hx rfl (hb hby at_8) k) ?_
  show OEnds p e below s _ _ _ (s₁.setTop (mkF m 9 #[.val (.long q0), .second, .val (.long q1), .second, .val (.long q2), .second, .val (.long q3), .second, .val (.int q4), .val (.int sel), .unset, .unset, .unset, .unset, .unset, .unset, .unset, .unset, .unset, .unset, .unset] [(.int (2 : Int32)), (.int q4)]))
  refine own_by (fun _ k => XS.iushr X0.here hx rfl (hb hby at_9) rfl k) ?_
  show OEnds p e below s _ _ _ (s₁.setTop (mkF m 10 #[.val (.long q0), .second, .val (.long q1), .second, .val (.long q2), .second, .val (.long q3), .second, .val (.int q4), .val (.int sel), .unset, .unset, .unset, .unset, .unset, .unset, .unset, .unset, .unset, .unset, .unset] [(.int ((q4.toUInt32 >>> ((2 : Int32) &&& 31).toUInt32).toInt32))]))
  refine own_by (fun _ k => XS.bipush X0.here hx rfl (hb hby at_10) k) ?_
  show OEnds p e below s _ _ _ (s₁.setTop (mkF m 12 #[.val (.long q0), .second, .val (.long q1), .second, .val (.long q2), .second, .val (.long q3), .second, .val (.int q4), .val (.int sel), .unset, .unset, .unset, .unset, .unset, .unset, .unset, .unset, .unset, .unset, .unset] [(.int (7 : Int32)), (.int ((q4.toUInt32 >>> ((2 : Int32) &&& 31).toUInt32).toInt32))]))
  refine own_by (fun _ k => XS.iand X0.here hx rfl (hb hby at_12) rfl k) ?_
  show OEnds p e below s _ _ _ (s₁.setTop (mkF m 13 #[.val (.long q0), .second, .val (.long q1), .second, .val (.long q2), .second, .val (.long q3), .second, .val (.int q4), .val (.int sel), .unset, .unset, .unset, .unset, .unset, .unset, .unset, .unset, .unset, .unset, .unset] [(.int (((q4.toUInt32 >>> ((2 : Int32) &&& 31).toUInt32).toInt32) &&& (7 : Int32)))]))
  refine own_by (fun _ k => XS.istore X0.here hx rfl (hb hby at_13) rfl (l' := #[.val (.long q0), .second, .val (.long q1), .second, .val (.long q2), .second, .val (.long q3), .second, .val (.int q4), .val (.int sel), .val (.int (((q4.toUInt32 >>> ((2 : Int32) &&& 31).toUInt32).toInt32) &&& (7 : Int32))), .unset, .unset, .unset, .unset, .unset, .unset, .unset, .unset, .unset, .unset]) rfl k) ?_
  show OEnds p e below s _ _ _ (s₁.setTop (mkF m 15 #[.val (.long q0), .second, .val (.long q1), .second, .val (.long q2), .second, .val (.long q3), .second, .val (.int q4), .val (.int sel), .val (.int (((q4.toUInt32 >>> ((2 : Int32) &&& 31).toUInt32).toInt32) &&& (7 : Int32))), .unset, .unset, .unset, .unset, .unset, .unset, .unset, .unset, .unset, .unset] []))
  generalize (((q4.toUInt32 >>> ((2 : Int32) &&& 31).toUInt32).toInt32) &&& (7 : Int32)) = rem
  show OEnds p e below s _ _ _ (s₁.setTop (mkF m 15 #[.val (.long q0), .second, .val (.long q1), .second, .val (.long q2), .second, .val (.long q3), .second, .val (.int q4), .val (.int sel), .val (.int rem), .unset, .unset, .unset, .unset, .unset, .unset, .unset, .unset, .unset, .unset] []))
  have bl49 : ∀ (T : State) (lo : List Loc) (qy : Int64) (X_bl49 : Stand p l e room_1 s m #[(.long q0), (.long q1), (.long q2), (.long q3), (.int q4)] below meth c T lo 0 0) (e_bl49 : T.heap = h0) (N_bl49 : Fr n0 lo), OEnds p e below s (QL n0) room_1.cells room_1.slots (T.setTop (mkF m 49 #[.val (.long q0), .second, .val (.long q1), .second, .val (.long q2), .second, .val (.long q3), .second, .val (.int q4), .val (.int sel), .val (.int rem), .val (.long qy), .second, .unset, .unset, .unset, .unset, .unset, .unset, .unset, .unset] [])) := by
    intro T lo qy X_bl49 e_bl49 N_bl49
    show OEnds p e below s _ _ _ (T.setTop (mkF m 49 #[.val (.long q0), .second, .val (.long q1), .second, .val (.long q2), .second, .val (.long q3), .second, .val (.int q4), .val (.int sel), .val (.int rem), .val (.long qy), .second, .unset, .unset, .unset, .unset, .unset, .unset, .unset, .unset] []))
    have bl83 : ∀ (T : State) (lo : List Loc) (rr : Int64) (X_bl83 : Stand p l e room_1 s m #[(.long q0), (.long q1), (.long q2), (.long q3), (.int q4)] below meth c T lo 0 0) (e_bl83 : T.heap = h0) (N_bl83 : Fr n0 lo), OEnds p e below s (QL n0) room_1.cells room_1.slots (T.setTop (mkF m 83 #[.val (.long q0), .second, .val (.long q1), .second, .val (.long q2), .second, .val (.long q3), .second, .val (.int q4), .val (.int sel), .val (.int rem), .val (.long qy), .second, .val (.long rr), .second, .unset, .unset, .unset, .unset, .unset, .unset] [])) := by
      intro T lo rr X_bl83 e_bl83 N_bl83
      show OEnds p e below s _ _ _ (T.setTop (mkF m 83 #[.val (.long q0), .second, .val (.long q1), .second, .val (.long q2), .second, .val (.long q3), .second, .val (.int q4), .val (.int sel), .val (.int rem), .val (.long qy), .second, .val (.long rr), .second, .unset, .unset, .unset, .unset, .unset, .unset] []))
      refine own_by (fun _ k => XS.iload X_bl83.here hx rfl (hb hby at_83) rfl k) ?_
      show OEnds p e below s _ _ _ (T.setTop (mkF m 85 #[.val (.long q0), .second, .val (.long q1), .second, .val (.long q2), .second, .val (.long q3), .second, .val (.int q4), .val (.int sel), .val (.int rem), .val (.long qy), .second, .val (.long rr), .second, .unset, .unset, .unset, .unset, .unset, .unset] [(.int rem)]))
      refine own_by (fun _ k => XS.iconst X_bl83.here hx rfl (hb hby at_85) k) ?_
      show OEnds p e below s _ _ _ (T.setTop (mkF m 86 #[.val (.long q0), .second, .val (.long q1), .second, .val (.long q2), .second, .val (.long q3), .second, .val (.int q4), .val (.int sel), .val (.int rem), .val (.long qy), .second, .val (.long rr), .second, .unset, .unset, .unset, .unset, .unset, .unset] [(.int (4 : Int32)), (.int rem)]))
      refine own_by (S' := T.setTop (mkF m 94 #[.val (.long q0), .second, .val (.long q1), .second, .val (.long q2), .second, .val (.long q3), .second, .val (.int q4), .val (.int sel), .val (.int rem), .val (.long qy), .second, .val (.long rr), .second, .unset, .unset, .unset, .unset, .unset, .unset] [(.int (if rem < (4 : Int32) then (1 : Int32) else (0 : Int32)))])) (fun t k => ?_) ?_
      · by_cases hc86_1 : rem < (4 : Int32)
        · rw [if_pos hc86_1] at k
          refine XS.icmpNo X_bl83.here hx rfl (hb hby at_86) rfl (tlt hc86_1).2.1 ?_
          show Steps p.tables e below (T.setTop (mkF m 89 #[.val (.long q0), .second, .val (.long q1), .second, .val (.long q2), .second, .val (.long q3), .second, .val (.int q4), .val (.int sel), .val (.int rem), .val (.long qy), .second, .val (.long rr), .second, .unset, .unset, .unset, .unset, .unset, .unset] [])) t
          refine XS.iconst X_bl83.here hx rfl (hb hby at_89) ?_
          show Steps p.tables e below (T.setTop (mkF m 90 #[.val (.long q0), .second, .val (.long q1), .second, .val (.long q2), .second, .val (.long q3), .second, .val (.int q4), .val (.int sel), .val (.int rem), .val (.long qy), .second, .val (.long rr), .second, .unset, .unset, .unset, .unset, .unset, .unset] [(.int (1 : Int32))])) t
          refine XS.goto X_bl83.here hx rfl (pc0 := 90) (pc' := 94) rfl (hb hby at_90) (by decide) (by decide) ?_
          show Steps p.tables e below (T.setTop (mkF m 94 #[.val (.long q0), .second, .val (.long q1), .second, .val (.long q2), .second, .val (.long q3), .second, .val (.int q4), .val (.int sel), .val (.int rem), .val (.long qy), .second, .val (.long rr), .second, .unset, .unset, .unset, .unset, .unset, .unset] [(.int (1 : Int32))])) t
          exact k
        · rw [if_neg hc86_1] at k
          refine XS.icmpYes X_bl83.here hx rfl (pc0 := 86) (pc' := 93) rfl (hb hby at_86) rfl (flt hc86_1).2.1 (by decide) (by decide) ?_
          show Steps p.tables e below (T.setTop (mkF m 93 #[.val (.long q0), .second, .val (.long q1), .second, .val (.long q2), .second, .val (.long q3), .second, .val (.int q4), .val (.int sel), .val (.int rem), .val (.long qy), .second, .val (.long rr), .second, .unset, .unset, .unset, .unset, .unset, .unset] [])) t
          refine XS.iconst X_bl83.here hx rfl (hb hby at_93) ?_
          show Steps p.tables e below (T.setTop (mkF m 94 #[.val (.long q0), .second, .val (.long q1), .second, .val (.long q2), .second, .val (.long q3), .second, .val (.int q4), .val (.int sel), .val (.int rem), .val (.long qy), .second, .val (.long rr), .second, .unset, .unset, .unset, .unset, .unset, .unset] [(.int (0 : Int32))])) t
          exact k
      show OEnds p e below s _ _ _ (T.setTop (mkF m 94 #[.val (.long q0), .second, .val (.long q1), .second, .val (.long q2), .second, .val (.long q3), .second, .val (.int q4), .val (.int sel), .val (.int rem), .val (.long qy), .second, .val (.long rr), .second, .unset, .unset, .unset, .unset, .unset, .unset] [(.int (if rem < (4 : Int32) then (1 : Int32) else (0 : Int32)))]))
      refine own_by (fun _ k => XS.istore X_bl83.here hx rfl (hb hby at_94) rfl (l' := #[.val (.long q0), .second, .val (.long q1), .second, .val (.long q2), .second, .val (.long q3), .second, .val (.int q4), .val (.int sel), .val (.int rem), .val (.long qy), .second, .val (.long rr), .second, .val (.int (if rem < (4 : Int32) then (1 : Int32) else (0 : Int32))), .unset, .unset, .unset, .unset, .unset]) rfl k) ?_
      show OEnds p e below s _ _ _ (T.setTop (mkF m 96 #[.val (.long q0), .second, .val (.long q1), .second, .val (.long q2), .second, .val (.long q3), .second, .val (.int q4), .val (.int sel), .val (.int rem), .val (.long qy), .second, .val (.long rr), .second, .val (.int (if rem < (4 : Int32) then (1 : Int32) else (0 : Int32))), .unset, .unset, .unset, .unset, .unset] []))
      generalize (if rem < (4 : Int32) then (1 : Int32) else (0 : Int32)) = dr
      show OEnds p e below s _ _ _ (T.setTop (mkF m 96 #[.val (.long q0), .second, .val (.long q1), .second, .val (.long q2), .second, .val (.long q3), .second, .val (.int q4), .val (.int sel), .val (.int rem), .val (.long qy), .second, .val (.long rr), .second, .val (.int dr), .unset, .unset, .unset, .unset, .unset] []))
      obtain ⟨T2, h2, X2, e2, E2, A2, D2, -, st2⟩ := newO X_bl83 hx hZ hown (hw _ (List.mem_of_getElem? (i := 0) rfl)) (hw _ (List.mem_of_getElem? (i := 1) rfl)) (hw _ (List.mem_of_getElem? (i := 2) rfl)) e_bl83 (g := (mkF m 96 #[.val (.long q0), .second, .val (.long q1), .second, .val (.long q2), .second, .val (.long q3), .second, .val (.int q4), .val (.int sel), .val (.int rem), .val (.long qy), .second, .val (.long rr), .second, .val (.int dr), .unset, .unset, .unset, .unset, .unset] [])) rfl (hb hby at_96) (by decide) (by decide)
      obtain ⟨nb2, g2⟩ : ∃ z, z = h0.size := ⟨_, rfl⟩
      rw [← g2] at A2 D2 st2
      refine own_by (st2) ?_
      have g_nb2 : n0 ≤ nb2 := Nat.le_trans Z0 (Nat.le_of_eq g2.symm)
      have Z2 : n0 ≤ h2.size := Nat.le_trans Z0 E2.1
      have O2 : Obj Z h2 nb2 "com/example/tristream/tristream/LongIndex" sch_li [.null, .null, (.int (0 : Int32)), (.int (0 : Int32))] := Obj.new (so_sch_li hw) A2 D2 [(.array .long), (.array .int), .int, .int] (by decide)
      show OEnds p e below s _ _ _ (T2.setTop (mkF m 99 #[.val (.long q0), .second, .val (.long q1), .second, .val (.long q2), .second, .val (.long q3), .second, .val (.int q4), .val (.int sel), .val (.int rem), .val (.long qy), .second, .val (.long rr), .second, .val (.int dr), .unset, .unset, .unset, .unset, .unset] [(.ref nb2)]))
      refine own_by (fun _ k => XS.dup X2.here hx rfl (hb hby at_99) rfl rfl k) ?_
      show OEnds p e below s _ _ _ (T2.setTop (mkF m 100 #[.val (.long q0), .second, .val (.long q1), .second, .val (.long q2), .second, .val (.long q3), .second, .val (.int q4), .val (.int sel), .val (.int rem), .val (.long qy), .second, .val (.long rr), .second, .val (.int dr), .unset, .unset, .unset, .unset, .unset] [(.ref nb2), (.ref nb2)]))
      obtain ⟨v3, T3, L3, h3, X3, e3, hQ3, st3⟩ := own_callI X2 hx hZ (y := (⟨"com/example/tristream/tristream/LongIndex", "<init>", "()V"⟩ : MethodName)) rfl hown (hw _ (List.mem_of_getElem? (i := 3) rfl)) (hw _ (List.mem_of_getElem? (i := 4) rfl)) (hw _ (List.mem_of_getElem? (i := 5) rfl)) (hw _ (List.mem_of_getElem? (i := 2) rfl)) (by decide) (rm_liinit l Z a0 hw [] nb2 h2 n0 Z2 O2 g_nb2) e2 (g := (mkF m 100 #[.val (.long q0), .second, .val (.long q1), .second, .val (.long q2), .second, .val (.long q3), .second, .val (.int q4), .val (.int sel), .val (.int rem), .val (.long qy), .second, .val (.long rr), .second, .val (.int dr), .unset, .unset, .unset, .unset, .unset] [(.ref nb2), (.ref nb2)])) rfl (by rw [hml]; rfl) (argsL := []) (rest := [(.ref nb2)]) (lenOf pd_prV rfl) rfl (W := 1) (by show 2 * 0 + _ ≤ _; exact Nat.le_of_eq rfl) (hb hby at_100) (by decide) (by decide) (by decide) (by decide)
      obtain ⟨rfl, Nq3, Kq3, kb3, sb3, ⟨sk3, ss3⟩, ⟨gk3, gs3⟩, nk3, O3, Fk3, Fs3⟩ := hQ3
      have N3 := Fr.app N_bl83 Nq3
      have Z3 : n0 ≤ h3.size := Nat.le_trans Z2 Kq3.1
      refine own_tr st3 ?_
      show OEnds p e below s _ _ _ (T3.setTop (mkF m 103 #[.val (.long q0), .second, .val (.long q1), .second, .val (.long q2), .second, .val (.long q3), .second, .val (.int q4), .val (.int sel), .val (.int rem), .val (.long qy), .second, .val (.long rr), .second, .val (.int dr), .unset, .unset, .unset, .unset, .unset] [(.ref nb2)]))
      refine own_by (fun _ k => XS.astore X3.here hx rfl (hb hby at_103) rfl rfl (l' := #[.val (.long q0), .second, .val (.long q1), .second, .val (.long q2), .second, .val (.long q3), .second, .val (.int q4), .val (.int sel), .val (.int rem), .val (.long qy), .second, .val (.long rr), .second, .val (.int dr), .val (.ref nb2), .unset, .unset, .unset, .unset]) rfl k) ?_
      show OEnds p e below s _ _ _ (T3.setTop (mkF m 105 #[.val (.long q0), .second, .val (.long q1), .second, .val (.long q2), .second, .val (.long q3), .second, .val (.int q4), .val (.int sel), .val (.int rem), .val (.long qy), .second, .val (.long rr), .second, .val (.int dr), .val (.ref nb2), .unset, .unset, .unset, .unset] []))
      refine own_by (fun _ k => XS.aload X3.here hx rfl (hb hby at_105) rfl rfl k) ?_
      show OEnds p e below s _ _ _ (T3.setTop (mkF m 107 #[.val (.long q0), .second, .val (.long q1), .second, .val (.long q2), .second, .val (.long q3), .second, .val (.int q4), .val (.int sel), .val (.int rem), .val (.long qy), .second, .val (.long rr), .second, .val (.int dr), .val (.ref nb2), .unset, .unset, .unset, .unset] [(.ref nb2)]))
      refine own_by (fun _ k => XS.lloadN X3.here hx rfl (hb hby at_107) rfl k) ?_
      show OEnds p e below s _ _ _ (T3.setTop (mkF m 108 #[.val (.long q0), .second, .val (.long q1), .second, .val (.long q2), .second, .val (.long q3), .second, .val (.int q4), .val (.int sel), .val (.int rem), .val (.long qy), .second, .val (.long rr), .second, .val (.int dr), .val (.ref nb2), .unset, .unset, .unset, .unset] [(.long q0), (.ref nb2)]))
      obtain ⟨v4, T4, L4, h4, X4, e4, hQ4, st4⟩ := own_callV X3 hx hZ (y := (⟨"com/example/tristream/tristream/LongIndex", "add", "(J)I"⟩ : MethodName)) hown (hw _ (List.mem_of_getElem? (i := 22) rfl)) (hw _ (List.mem_of_getElem? (i := 23) rfl)) (hw _ (List.mem_of_getElem? (i := 25) rfl)) (hw _ (List.mem_of_getElem? (i := 24) rfl)) (hw _ (List.mem_of_getElem? (i := 26) rfl)) (hw _ (List.mem_of_getElem? (i := 2) rfl)) (by decide) O3.exa (rm_liadd l Z a0 hw [] nb2 q0 kb3 sb3 (0 : Int32) (fun _ => (0 : Int64)) (fun _ => (0 : Int32)) [] h3 n0 Z3 O3 Fk3 Fs3 g_nb2 gk3 gs3 li_new) e3 (g := (mkF m 108 #[.val (.long q0), .second, .val (.long q1), .second, .val (.long q2), .second, .val (.long q3), .second, .val (.int q4), .val (.int sel), .val (.int rem), .val (.long qy), .second, .val (.long rr), .second, .val (.int dr), .val (.ref nb2), .unset, .unset, .unset, .unset] [(.long q0), (.ref nb2)])) rfl (by rw [hml]; rfl) (argsL := [(.long q0)]) (rest := []) (lenOf pd_pJrI rfl) rfl (W := 0) (by show 2 * 0 + _ ≤ _; exact Nat.le_of_eq rfl) (hb hby at_108) (by decide) (by decide) (by decide) (by decide)
      obtain ⟨rv4, rfl, Nq4, Kq4, kb4, sb4, z4, sf4, kn4, kf4, S4, sl4, ks4, ok4, os4, gk4, gs4, hrel4, hix4, hsz4, hli4, O4, Fk4, Fs4⟩ := hQ4
      have N4 := Fr.app N3 Nq4
      have Z4 : n0 ≤ h4.size := Nat.le_trans Z3 Kq4.1
      refine own_tr st4 ?_
      show OEnds p e below s _ _ _ (T4.setTop (mkF m 111 #[.val (.long q0), .second, .val (.long q1), .second, .val (.long q2), .second, .val (.long q3), .second, .val (.int q4), .val (.int sel), .val (.int rem), .val (.long qy), .second, .val (.long rr), .second, .val (.int dr), .val (.ref nb2), .unset, .unset, .unset, .unset] [(.int rv4)]))
      refine own_by (fun _ k => XS.pop X4.here hx rfl (hb hby at_111) rfl rfl k) ?_
      show OEnds p e below s _ _ _ (T4.setTop (mkF m 112 #[.val (.long q0), .second, .val (.long q1), .second, .val (.long q2), .second, .val (.long q3), .second, .val (.int q4), .val (.int sel), .val (.int rem), .val (.long qy), .second, .val (.long rr), .second, .val (.int dr), .val (.ref nb2), .unset, .unset, .unset, .unset] []))
      have hln1 := addR_len (m := 0) hrel4 (by decide)
      obtain ⟨rfl, rfl, rfl⟩ := hsz4 (by omega)
      show OEnds p e below s _ _ _ (T4.setTop (mkF m 112 #[.val (.long q0), .second, .val (.long q1), .second, .val (.long q2), .second, .val (.long q3), .second, .val (.int q4), .val (.int sel), .val (.int rem), .val (.long qy), .second, .val (.long rr), .second, .val (.int dr), .val (.ref nb2), .unset, .unset, .unset, .unset] []))
      refine own_by (fun _ k => XS.aload X4.here hx rfl (hb hby at_112) rfl rfl k) ?_
      show OEnds p e below s _ _ _ (T4.setTop (mkF m 114 #[.val (.long q0), .second, .val (.long q1), .second, .val (.long q2), .second, .val (.long q3), .second, .val (.int q4), .val (.int sel), .val (.int rem), .val (.long qy), .second, .val (.long rr), .second, .val (.int dr), .val (.ref nb2), .unset, .unset, .unset, .unset] [(.ref nb2)]))
      refine own_by (fun _ k => XS.lloadN X4.here hx rfl (hb hby at_114) rfl k) ?_
      show OEnds p e below s _ _ _ (T4.setTop (mkF m 115 #[.val (.long q0), .second, .val (.long q1), .second, .val (.long q2), .second, .val (.long q3), .second, .val (.int q4), .val (.int sel), .val (.int rem), .val (.long qy), .second, .val (.long rr), .second, .val (.int dr), .val (.ref nb2), .unset, .unset, .unset, .unset] [(.long q1), (.ref nb2)]))
      obtain ⟨v5, T5, L5, h5, X5, e5, hQ5, st5⟩ := own_callV X4 hx hZ (y := (⟨"com/example/tristream/tristream/LongIndex", "add", "(J)I"⟩ : MethodName)) hown (hw _ (List.mem_of_getElem? (i := 22) rfl)) (hw _ (List.mem_of_getElem? (i := 23) rfl)) (hw _ (List.mem_of_getElem? (i := 25) rfl)) (hw _ (List.mem_of_getElem? (i := 24) rfl)) (hw _ (List.mem_of_getElem? (i := 26) rfl)) (hw _ (List.mem_of_getElem? (i := 2) rfl)) (by decide) O4.exa (rm_liadd l Z a0 hw [] nb2 q1 kb4 sb4 z4 kf4 sl4 ks4 h4 n0 Z4 O4 Fk4 Fs4 g_nb2 gk4 gs4 hli4) e4 (g := (mkF m 115 #[.val (.long q0), .second, .val (.long q1), .second, .val (.long q2), .second, .val (.long q3), .second, .val (.int q4), .val (.int sel), .val (.int rem), .val (.long qy), .second, .val (.long rr), .second, .val (.int dr), .val (.ref nb2), .unset, .unset, .unset, .unset] [(.long q1), (.ref nb2)])) rfl (by rw [hml]; rfl) (argsL := [(.long q1)]) (rest := []) (lenOf pd_pJrI rfl) rfl (W := 0) (by show 2 * 0 + _ ≤ _; exact Nat.le_of_eq rfl) (hb hby at_115) (by decide) (by decide) (by decide) (by decide)
      obtain ⟨rv5, rfl, Nq5, Kq5, kb5, sb5, z5, sf5, kn5, kf5, S5, sl5, ks5, ok5, os5, gk5, gs5, hrel5, hix5, hsz5, hli5, O5, Fk5, Fs5⟩ := hQ5
      have N5 := Fr.app N4 Nq5
      have Z5 : n0 ≤ h5.size := Nat.le_trans Z4 Kq5.1
      refine own_tr st5 ?_
      show OEnds p e below s _ _ _ (T5.setTop (mkF m 118 #[.val (.long q0), .second, .val (.long q1), .second, .val (.long q2), .second, .val (.long q3), .second, .val (.int q4), .val (.int sel), .val (.int rem), .val (.long qy), .second, .val (.long rr), .second, .val (.int dr), .val (.ref nb2), .unset, .unset, .unset, .unset] [(.int rv5)]))
      refine own_by (fun _ k => XS.pop X5.here hx rfl (hb hby at_118) rfl rfl k) ?_
      show OEnds p e below s _ _ _ (T5.setTop (mkF m 119 #[.val (.long q0), .second, .val (.long q1), .second, .val (.long q2), .second, .val (.long q3), .second, .val (.int q4), .val (.int sel), .val (.int rem), .val (.long qy), .second, .val (.long rr), .second, .val (.int dr), .val (.ref nb2), .unset, .unset, .unset, .unset] []))
      have hln2 := addR_len (m := 1) hrel5 hln1
      obtain ⟨rfl, rfl, rfl⟩ := hsz5 (by omega)
      show OEnds p e below s _ _ _ (T5.setTop (mkF m 119 #[.val (.long q0), .second, .val (.long q1), .second, .val (.long q2), .second, .val (.long q3), .second, .val (.int q4), .val (.int sel), .val (.int rem), .val (.long qy), .second, .val (.long rr), .second, .val (.int dr), .val (.ref nb2), .unset, .unset, .unset, .unset] []))
      refine own_by (fun _ k => XS.aload X5.here hx rfl (hb hby at_119) rfl rfl k) ?_
      show OEnds p e below s _ _ _ (T5.setTop (mkF m 121 #[.val (.long q0), .second, .val (.long q1), .second, .val (.long q2), .second, .val (.long q3), .second, .val (.int q4), .val (.int sel), .val (.int rem), .val (.long qy), .second, .val (.long rr), .second, .val (.int dr), .val (.ref nb2), .unset, .unset, .unset, .unset] [(.ref nb2)]))
      refine own_by (fun _ k => XS.lload X5.here hx rfl (hb hby at_121) rfl k) ?_
      show OEnds p e below s _ _ _ (T5.setTop (mkF m 123 #[.val (.long q0), .second, .val (.long q1), .second, .val (.long q2), .second, .val (.long q3), .second, .val (.int q4), .val (.int sel), .val (.int rem), .val (.long qy), .second, .val (.long rr), .second, .val (.int dr), .val (.ref nb2), .unset, .unset, .unset, .unset] [(.long q2), (.ref nb2)]))
      obtain ⟨v6, T6, L6, h6, X6, e6, hQ6, st6⟩ := own_callV X5 hx hZ (y := (⟨"com/example/tristream/tristream/LongIndex", "add", "(J)I"⟩ : MethodName)) hown (hw _ (List.mem_of_getElem? (i := 22) rfl)) (hw _ (List.mem_of_getElem? (i := 23) rfl)) (hw _ (List.mem_of_getElem? (i := 25) rfl)) (hw _ (List.mem_of_getElem? (i := 24) rfl)) (hw _ (List.mem_of_getElem? (i := 26) rfl)) (hw _ (List.mem_of_getElem? (i := 2) rfl)) (by decide) O5.exa (rm_liadd l Z a0 hw [] nb2 q2 kb5 sb5 z5 kf5 sl5 ks5 h5 n0 Z5 O5 Fk5 Fs5 g_nb2 gk5 gs5 hli5) e5 (g := (mkF m 123 #[.val (.long q0), .second, .val (.long q1), .second, .val (.long q2), .second, .val (.long q3), .second, .val (.int q4), .val (.int sel), .val (.int rem), .val (.long qy), .second, .val (.long rr), .second, .val (.int dr), .val (.ref nb2), .unset, .unset, .unset, .unset] [(.long q2), (.ref nb2)])) rfl (by rw [hml]; rfl) (argsL := [(.long q2)]) (rest := []) (lenOf pd_pJrI rfl) rfl (W := 0) (by show 2 * 0 + _ ≤ _; exact Nat.le_of_eq rfl) (hb hby at_123) (by decide) (by decide) (by decide) (by decide)
      obtain ⟨rv6, rfl, Nq6, Kq6, kb6, sb6, z6, sf6, kn6, kf6, S6, sl6, ks6, ok6, os6, gk6, gs6, hrel6, hix6, hsz6, hli6, O6, Fk6, Fs6⟩ := hQ6
      have N6 := Fr.app N5 Nq6
      have Z6 : n0 ≤ h6.size := Nat.le_trans Z5 Kq6.1
      refine own_tr st6 ?_
      show OEnds p e below s _ _ _ (T6.setTop (mkF m 126 #[.val (.long q0), .second, .val (.long q1), .second, .val (.long q2), .second, .val (.long q3), .second, .val (.int q4), .val (.int sel), .val (.int rem), .val (.long qy), .second, .val (.long rr), .second, .val (.int dr), .val (.ref nb2), .unset, .unset, .unset, .unset] [(.int rv6)]))
      refine own_by (fun _ k => XS.pop X6.here hx rfl (hb hby at_126) rfl rfl k) ?_
      show OEnds p e below s _ _ _ (T6.setTop (mkF m 127 #[.val (.long q0), .second, .val (.long q1), .second, .val (.long q2), .second, .val (.long q3), .second, .val (.int q4), .val (.int sel), .val (.int rem), .val (.long qy), .second, .val (.long rr), .second, .val (.int dr), .val (.ref nb2), .unset, .unset, .unset, .unset] []))
      refine own_by (fun _ k => XS.iconst X6.here hx rfl (hb hby at_127) k) ?_
      show OEnds p e below s _ _ _ (T6.setTop (mkF m 128 #[.val (.long q0), .second, .val (.long q1), .second, .val (.long q2), .second, .val (.long q3), .second, .val (.int q4), .val (.int sel), .val (.int rem), .val (.long qy), .second, .val (.long rr), .second, .val (.int dr), .val (.ref nb2), .unset, .unset, .unset, .unset] [(.int (3 : Int32))]))
      obtain ⟨T7, h7, k7, X7, e7, E7, A7, st7⟩ := newP X6 hx hZ (hw _ (List.mem_of_getElem? (i := 9) rfl)) e6 (g := (mkF m 128 #[.val (.long q0), .second, .val (.long q1), .second, .val (.long q2), .second, .val (.long q3), .second, .val (.int q4), .val (.int sel), .val (.int rem), .val (.long qy), .second, .val (.long rr), .second, .val (.int dr), .val (.ref nb2), .unset, .unset, .unset, .unset] [(.int (3 : Int32))])) rfl (hb hby at_128) rfl (by decide) (cap := 3) (by decide) (by decide) (by decide) (by decide)
      obtain ⟨nb7, g7⟩ : ∃ z, z = h6.size := ⟨_, rfl⟩
      rw [← g7] at A7 st7
      refine own_by (st7) ?_
      have g_nb7 : n0 ≤ nb7 := Nat.le_trans Z6 (Nat.le_of_eq g7.symm)
      have Z7 : n0 ≤ h7.size := Nat.le_trans Z6 E7.1
      have F7 : FA Z h7 nb7 .long 3 (fun i => .long ((fun _ => (0 : Int64)) i)) := FA.new A7 (by decide) (by decide) rfl
      show OEnds p e below s _ _ _ (T7.setTop (mkF m 130 #[.val (.long q0), .second, .val (.long q1), .second, .val (.long q2), .second, .val (.long q3), .second, .val (.int q4), .val (.int sel), .val (.int rem), .val (.long qy), .second, .val (.long rr), .second, .val (.int dr), .val (.ref nb2), .unset, .unset, .unset, .unset] [(.ref nb7)]))
      refine own_by (fun _ k => XS.astore X7.here hx rfl (hb hby at_130) rfl rfl (l' := #[.val (.long q0), .second, .val (.long q1), .second, .val (.long q2), .second, .val (.long q3), .second, .val (.int q4), .val (.int sel), .val (.int rem), .val (.long qy), .second, .val (.long rr), .second, .val (.int dr), .val (.ref nb2), .val (.ref nb7), .unset, .unset, .unset]) rfl k) ?_
      show OEnds p e below s _ _ _ (T7.setTop (mkF m 132 #[.val (.long q0), .second, .val (.long q1), .second, .val (.long q2), .second, .val (.long q3), .second, .val (.int q4), .val (.int sel), .val (.int rem), .val (.long qy), .second, .val (.long rr), .second, .val (.int dr), .val (.ref nb2), .val (.ref nb7), .unset, .unset, .unset] []))
      have hln3 := addR_len (m := 2) hrel6 hln2
      have bl179 : ∀ (T : State) (lo : List Loc) (nv : Int32) (fv : Nat → Int64) (h_bl179 : Heap) (Zz_bl179 : n0 ≤ h_bl179.size) (X_bl179 : Stand p l e room_1 s m #[(.long q0), (.long q1), (.long q2), (.long q3), (.int q4)] below meth c T lo 10 49) (e_bl179 : T.heap = h_bl179) (N_bl179 : Fr n0 lo) (Ob_bl179_nb2 : Obj Z h_bl179 nb2 "com/example/tristream/tristream/LongIndex" sch_li [(.ref kb6), (.ref sb6), (.int sf6), (.int z6)]) (Fa_bl179_kb6 : FA Z h_bl179 kb6 .long kn6 (fun i => .long (kf6 i))) (Fa_bl179_sb6 : FA Z h_bl179 sb6 .int S6 (fun i => .int (sl6 i))) (Fa_bl179_nb7 : FA Z h_bl179 nb7 .long 3 (fun i => .long (fv i))) (hnv : nv.toInt = (ks6.length : Int)) (hfv : ∀ i, i < ks6.length → fv i = ks6.getD i 0), OEnds p e below s (QL n0) room_1.cells room_1.slots (T.setTop (mkF m 179 #[.val (.long q0), .second, .val (.long q1), .second, .val (.long q2), .second, .val (.long q3), .second, .val (.int q4), .val (.int sel), .val (.int rem), .val (.long qy), .second, .val (.long rr), .second, .val (.int dr), .val (.ref nb2), .val (.ref nb7), .val (.int nv), .unset, .unset] [])) := by
        intro T lo nv fv h_bl179 Zz_bl179 X_bl179 e_bl179 N_bl179 Ob_bl179_nb2 Fa_bl179_kb6 Fa_bl179_sb6 Fa_bl179_nb7 hnv hfv
        show OEnds p e below s _ _ _ (T.setTop (mkF m 179 #[.val (.long q0), .second, .val (.long q1), .second, .val (.long q2), .second, .val (.long q3), .second, .val (.int q4), .val (.int sel), .val (.int rem), .val (.long qy), .second, .val (.long rr), .second, .val (.int dr), .val (.ref nb2), .val (.ref nb7), .val (.int nv), .unset, .unset] []))
        refine own_by (fun _ k => XS.aload X_bl179.here hx rfl (hb hby at_179) rfl rfl k) ?_
        show OEnds p e below s _ _ _ (T.setTop (mkF m 181 #[.val (.long q0), .second, .val (.long q1), .second, .val (.long q2), .second, .val (.long q3), .second, .val (.int q4), .val (.int sel), .val (.int rem), .val (.long qy), .second, .val (.long rr), .second, .val (.int dr), .val (.ref nb2), .val (.ref nb7), .val (.int nv), .unset, .unset] [(.ref nb2)]))
        refine own_by (fun _ k => XS.lload X_bl179.here hx rfl (hb hby at_181) rfl k) ?_
        show OEnds p e below s _ _ _ (T.setTop (mkF m 183 #[.val (.long q0), .second, .val (.long q1), .second, .val (.long q2), .second, .val (.long q3), .second, .val (.int q4), .val (.int sel), .val (.int rem), .val (.long qy), .second, .val (.long rr), .second, .val (.int dr), .val (.ref nb2), .val (.ref nb7), .val (.int nv), .unset, .unset] [(.long qy), (.ref nb2)]))
        obtain ⟨v8, T8, L8, h8, X8, e8, hQ8, st8⟩ := own_callV X_bl179 hx hZ (y := (⟨"com/example/tristream/tristream/LongIndex", "indexOf", "(J)I"⟩ : MethodName)) hown (hw _ (List.mem_of_getElem? (i := 55) rfl)) (hw _ (List.mem_of_getElem? (i := 56) rfl)) (hw _ (List.mem_of_getElem? (i := 58) rfl)) (hw _ (List.mem_of_getElem? (i := 57) rfl)) (hw _ (List.mem_of_getElem? (i := 59) rfl)) (hw _ (List.mem_of_getElem? (i := 2) rfl)) (by decide) Ob_bl179_nb2.exa (rm_liidx l Z a0 hw [] nb2 qy kb6 sb6 z6 sf6 kn6 kf6 S6 sl6 ks6 h_bl179 n0 Zz_bl179 Ob_bl179_nb2 Fa_bl179_kb6 Fa_bl179_sb6 hli6) e_bl179 (g := (mkF m 183 #[.val (.long q0), .second, .val (.long q1), .second, .val (.long q2), .second, .val (.long q3), .second, .val (.int q4), .val (.int sel), .val (.int rem), .val (.long qy), .second, .val (.long rr), .second, .val (.int dr), .val (.ref nb2), .val (.ref nb7), .val (.int nv), .unset, .unset] [(.long qy), (.ref nb2)])) rfl (by rw [hml]; rfl) (argsL := [(.long qy)]) (rest := []) (lenOf pd_pJrI rfl) rfl (W := 0) (by show 2 * 0 + _ ≤ _; exact Nat.le_of_eq rfl) (hb hby at_183) (by decide) (by decide) (by decide) (by decide)
        obtain ⟨r8, rfl, rfl, hq8, hir8⟩ := hQ8
        rw [hq8] at e8
        have N8 := Fr.app N_bl179 (Fr.nil n0)
        refine own_tr st8 ?_
        show OEnds p e below s _ _ _ (T8.setTop (mkF m 186 #[.val (.long q0), .second, .val (.long q1), .second, .val (.long q2), .second, .val (.long q3), .second, .val (.int q4), .val (.int sel), .val (.int rem), .val (.long qy), .second, .val (.long rr), .second, .val (.int dr), .val (.ref nb2), .val (.ref nb7), .val (.int nv), .unset, .unset] [(.int r8)]))
        refine own_by (fun _ k => XS.aload X8.here hx rfl (hb hby at_186) rfl rfl k) ?_
        show OEnds p e below s _ _ _ (T8.setTop (mkF m 188 #[.val (.long q0), .second, .val (.long q1), .second, .val (.long q2), .second, .val (.long q3), .second, .val (.int q4), .val (.int sel), .val (.int rem), .val (.long qy), .second, .val (.long rr), .second, .val (.int dr), .val (.ref nb2), .val (.ref nb7), .val (.int nv), .unset, .unset] [(.ref nb7), (.int r8)]))
        refine own_by (fun _ k => XS.iload X8.here hx rfl (hb hby at_188) rfl k) ?_
        show OEnds p e below s _ _ _ (T8.setTop (mkF m 190 #[.val (.long q0), .second, .val (.long q1), .second, .val (.long q2), .second, .val (.long q3), .second, .val (.int q4), .val (.int sel), .val (.int rem), .val (.long qy), .second, .val (.long rr), .second, .val (.int dr), .val (.ref nb2), .val (.ref nb7), .val (.int nv), .unset, .unset] [(.int nv), (.ref nb7), (.int r8)]))
        refine own_by (fun _ k => XS.lload X8.here hx rfl (hb hby at_190) rfl k) ?_
        show OEnds p e below s _ _ _ (T8.setTop (mkF m 192 #[.val (.long q0), .second, .val (.long q1), .second, .val (.long q2), .second, .val (.long q3), .second, .val (.int q4), .val (.int sel), .val (.int rem), .val (.long qy), .second, .val (.long rr), .second, .val (.int dr), .val (.ref nb2), .val (.ref nb7), .val (.int nv), .unset, .unset] [(.long qy), (.int nv), (.ref nb7), (.int r8)]))
        obtain ⟨T9, X9, e9, st9⟩ := own_callP X8 hx hZ (y := (⟨"com/example/tristream/tristream/LongIndexIndexOfPinLaw", "expected", "([JIJ)I"⟩ : MethodName)) hown (hw _ (List.mem_of_getElem? (i := 60) rfl)) (hw _ (List.mem_of_getElem? (i := 61) rfl)) (hw _ (List.mem_of_getElem? (i := 62) rfl)) (hw _ (List.mem_of_getElem? (i := 63) rfl)) (by decide) (rm_ex l Z a0 hw [] nb7 nv qy fv h_bl179 n0 Zz_bl179 Fa_bl179_nb7) e8 (g := (mkF m 192 #[.val (.long q0), .second, .val (.long q1), .second, .val (.long q2), .second, .val (.long q3), .second, .val (.int q4), .val (.int sel), .val (.int rem), .val (.long qy), .second, .val (.long rr), .second, .val (.int dr), .val (.ref nb2), .val (.ref nb7), .val (.int nv), .unset, .unset] [(.long qy), (.int nv), (.ref nb7), (.int r8)])) rfl (by rw [hml]; rfl) (argsL := [(.ref nb7), (.int nv), (.long qy)]) (rest := [(.int r8)]) (lenOf pd_paJIJrI rfl) rfl (W := 1) (by show 2 * 0 + _ ≤ _; exact Nat.le_of_eq rfl) (hb hby at_192) (by decide) (by decide) (by decide) (by decide)
        refine own_by (st9) ?_
        show OEnds p e below s _ _ _ (T9.setTop (mkF m 195 #[.val (.long q0), .second, .val (.long q1), .second, .val (.long q2), .second, .val (.long q3), .second, .val (.int q4), .val (.int sel), .val (.int rem), .val (.long qy), .second, .val (.long rr), .second, .val (.int dr), .val (.ref nb2), .val (.ref nb7), .val (.int nv), .unset, .unset] [(.int (ex_0 fv nv qy)), (.int r8)]))
        refine own_by (fun _ k => XS.icmpNo X9.here hx rfl (hb hby at_195) rfl (teq (idx_uni hli6.dis hir8 (ex_idx hnv hln3 hfv))).2 k) ?_
        show OEnds p e below s _ _ _ (T9.setTop (mkF m 198 #[.val (.long q0), .second, .val (.long q1), .second, .val (.long q2), .second, .val (.long q3), .second, .val (.int q4), .val (.int sel), .val (.int rem), .val (.long qy), .second, .val (.long rr), .second, .val (.int dr), .val (.ref nb2), .val (.ref nb7), .val (.int nv), .unset, .unset] []))
        refine own_by (fun _ k => XS.iconst X9.here hx rfl (hb hby at_198) k) ?_
        show OEnds p e below s _ _ _ (T9.setTop (mkF m 199 #[.val (.long q0), .second, .val (.long q1), .second, .val (.long q2), .second, .val (.long q3), .second, .val (.int q4), .val (.int sel), .val (.int rem), .val (.long qy), .second, .val (.long rr), .second, .val (.int dr), .val (.ref nb2), .val (.ref nb7), .val (.int nv), .unset, .unset] [(.int (1 : Int32))]))
        refine own_by (fun _ k => XS.goto X9.here hx rfl (pc0 := 199) (pc' := 203) rfl (hb hby at_199) (by decide) (by decide) k) ?_
        show OEnds p e below s _ _ _ (T9.setTop (mkF m 203 #[.val (.long q0), .second, .val (.long q1), .second, .val (.long q2), .second, .val (.long q3), .second, .val (.int q4), .val (.int sel), .val (.int rem), .val (.long qy), .second, .val (.long rr), .second, .val (.int dr), .val (.ref nb2), .val (.ref nb7), .val (.int nv), .unset, .unset] [(.int (1 : Int32))]))
        refine own_by (fun _ k => XS.istore X9.here hx rfl (hb hby at_203) rfl (l' := #[.val (.long q0), .second, .val (.long q1), .second, .val (.long q2), .second, .val (.long q3), .second, .val (.int q4), .val (.int sel), .val (.int rem), .val (.long qy), .second, .val (.long rr), .second, .val (.int dr), .val (.ref nb2), .val (.ref nb7), .val (.int nv), .val (.int (1 : Int32)), .unset]) rfl k) ?_
        show OEnds p e below s _ _ _ (T9.setTop (mkF m 205 #[.val (.long q0), .second, .val (.long q1), .second, .val (.long q2), .second, .val (.long q3), .second, .val (.int q4), .val (.int sel), .val (.int rem), .val (.long qy), .second, .val (.long rr), .second, .val (.int dr), .val (.ref nb2), .val (.ref nb7), .val (.int nv), .val (.int (1 : Int32)), .unset] []))
        refine own_by (fun _ k => XS.iload X9.here hx rfl (hb hby at_205) rfl k) ?_
        show OEnds p e below s _ _ _ (T9.setTop (mkF m 207 #[.val (.long q0), .second, .val (.long q1), .second, .val (.long q2), .second, .val (.long q3), .second, .val (.int q4), .val (.int sel), .val (.int rem), .val (.long qy), .second, .val (.long rr), .second, .val (.int dr), .val (.ref nb2), .val (.ref nb7), .val (.int nv), .val (.int (1 : Int32)), .unset] [(.int dr)]))
        by_cases hc207_10 : dr = (0 : Int32)
        · refine own_by (fun _ k => XS.ifYes X9.here hx rfl (pc0 := 207) (pc' := 284) rfl (hb hby at_207) rfl ((if0 _ _).trans (teq hc207_10).1) (by decide) (by decide) k) ?_
          show OEnds p e below s _ _ _ (T9.setTop (mkF m 284 #[.val (.long q0), .second, .val (.long q1), .second, .val (.long q2), .second, .val (.long q3), .second, .val (.int q4), .val (.int sel), .val (.int rem), .val (.long qy), .second, .val (.long rr), .second, .val (.int dr), .val (.ref nb2), .val (.ref nb7), .val (.int nv), .val (.int (1 : Int32)), .unset] []))
          refine own_by (fun _ k => XS.iload X9.here hx rfl (hb hby at_284) rfl k) ?_
          show OEnds p e below s _ _ _ (T9.setTop (mkF m 286 #[.val (.long q0), .second, .val (.long q1), .second, .val (.long q2), .second, .val (.long q3), .second, .val (.int q4), .val (.int sel), .val (.int rem), .val (.long qy), .second, .val (.long rr), .second, .val (.int dr), .val (.ref nb2), .val (.ref nb7), .val (.int nv), .val (.int (1 : Int32)), .unset] [(.int (1 : Int32))]))
          exact own_retN X9 hx hlk .boolean (by simp) Bd.returns (hb hby at_286) ⟨rfl, N8⟩ (by decide) (by decide)
        · refine own_by (fun _ k => XS.ifNo X9.here hx rfl (hb hby at_207) rfl ((if0 _ _).trans (feq hc207_10).1) k) ?_
          show OEnds p e below s _ _ _ (T9.setTop (mkF m 210 #[.val (.long q0), .second, .val (.long q1), .second, .val (.long q2), .second, .val (.long q3), .second, .val (.int q4), .val (.int sel), .val (.int rem), .val (.long qy), .second, .val (.long rr), .second, .val (.int dr), .val (.ref nb2), .val (.ref nb7), .val (.int nv), .val (.int (1 : Int32)), .unset] []))
          refine own_by (fun _ k => XS.aload X9.here hx rfl (hb hby at_210) rfl rfl k) ?_
          show OEnds p e below s _ _ _ (T9.setTop (mkF m 212 #[.val (.long q0), .second, .val (.long q1), .second, .val (.long q2), .second, .val (.long q3), .second, .val (.int q4), .val (.int sel), .val (.int rem), .val (.long qy), .second, .val (.long rr), .second, .val (.int dr), .val (.ref nb2), .val (.ref nb7), .val (.int nv), .val (.int (1 : Int32)), .unset] [(.ref nb2)]))
          refine own_by (fun _ k => XS.lload X9.here hx rfl (hb hby at_212) rfl k) ?_
          show OEnds p e below s _ _ _ (T9.setTop (mkF m 214 #[.val (.long q0), .second, .val (.long q1), .second, .val (.long q2), .second, .val (.long q3), .second, .val (.int q4), .val (.int sel), .val (.int rem), .val (.long qy), .second, .val (.long rr), .second, .val (.int dr), .val (.ref nb2), .val (.ref nb7), .val (.int nv), .val (.int (1 : Int32)), .unset] [(.long rr), (.ref nb2)]))
          obtain ⟨v11, T11, L11, h11, X11, e11, hQ11, st11⟩ := own_callV X9 hx hZ (y := (⟨"com/example/tristream/tristream/LongIndex", "remove", "(J)V"⟩ : MethodName)) hown (hw _ (List.mem_of_getElem? (i := 64) rfl)) (hw _ (List.mem_of_getElem? (i := 65) rfl)) (hw _ (List.mem_of_getElem? (i := 67) rfl)) (hw _ (List.mem_of_getElem? (i := 66) rfl)) (hw _ (List.mem_of_getElem? (i := 68) rfl)) (hw _ (List.mem_of_getElem? (i := 2) rfl)) (by decide) Ob_bl179_nb2.exa (rm_lirem l Z a0 hw [] nb2 rr kb6 sb6 z6 sf6 kn6 kf6 S6 sl6 ks6 h_bl179 n0 Zz_bl179 Ob_bl179_nb2 Fa_bl179_kb6 Fa_bl179_sb6 g_nb2 gk6 gs6 hli6 (by rcases Nat.lt_or_ge ks6.length 3 with q | q; exact Or.inl (hsz6 (by omega)).1; exact Or.inr (by omega))) e9 (g := (mkF m 214 #[.val (.long q0), .second, .val (.long q1), .second, .val (.long q2), .second, .val (.long q3), .second, .val (.int q4), .val (.int sel), .val (.int rem), .val (.long qy), .second, .val (.long rr), .second, .val (.int dr), .val (.ref nb2), .val (.ref nb7), .val (.int nv), .val (.int (1 : Int32)), .unset] [(.long rr), (.ref nb2)])) rfl (by rw [hml]; rfl) (argsL := [(.long rr)]) (rest := []) (lenOf pd_pJrV rfl) rfl (W := 0) (by show 2 * 0 + _ ≤ _; exact Nat.le_of_eq rfl) (hb hby at_214) (by decide) (by decide) (by decide) (by decide)
          obtain ⟨rfl, Nq11, Kq11, kb11, sb11, z11, sf11, kn11, kf11, S11, sl11, ks11, ok11, os11, gk11, gs11, hrel11, hSe11, hli11, O11, Fk11, Fs11⟩ := hQ11
          have ne_nb7_kb11 : nb7 ≠ kb11 := by
            rcases ok11 with q | q
            · rw [q]; exact (Ne.symm (Nat.ne_of_lt (Nat.lt_of_lt_of_le Fk6.lt (Nat.le_of_eq g7.symm))))
            · exact Nat.ne_of_lt (Nat.lt_of_lt_of_le Fa_bl179_nb7.lt q)
          have ne_nb7_sb11 : nb7 ≠ sb11 := by
            rcases os11 with q | q
            · rw [q]; exact (Ne.symm (Nat.ne_of_lt (Nat.lt_of_lt_of_le Fs6.lt (Nat.le_of_eq g7.symm))))
            · exact Nat.ne_of_lt (Nat.lt_of_lt_of_le Fa_bl179_nb7.lt q)
          have N11 := Fr.app N8 Nq11
          have Z11 : n0 ≤ h11.size := Nat.le_trans Zz_bl179 Kq11.1
          refine own_tr st11 ?_
          show OEnds p e below s _ _ _ (T11.setTop (mkF m 217 #[.val (.long q0), .second, .val (.long q1), .second, .val (.long q2), .second, .val (.long q3), .second, .val (.int q4), .val (.int sel), .val (.int rem), .val (.long qy), .second, .val (.long rr), .second, .val (.int dr), .val (.ref nb2), .val (.ref nb7), .val (.int nv), .val (.int (1 : Int32)), .unset] []))
          refine own_by (fun _ k => XS.aload X11.here hx rfl (hb hby at_217) rfl rfl k) ?_
          show OEnds p e below s _ _ _ (T11.setTop (mkF m 219 #[.val (.long q0), .second, .val (.long q1), .second, .val (.long q2), .second, .val (.long q3), .second, .val (.int q4), .val (.int sel), .val (.int rem), .val (.long qy), .second, .val (.long rr), .second, .val (.int dr), .val (.ref nb2), .val (.ref nb7), .val (.int nv), .val (.int (1 : Int32)), .unset] [(.ref nb7)]))
          refine own_by (fun _ k => XS.iload X11.here hx rfl (hb hby at_219) rfl k) ?_
          show OEnds p e below s _ _ _ (T11.setTop (mkF m 221 #[.val (.long q0), .second, .val (.long q1), .second, .val (.long q2), .second, .val (.long q3), .second, .val (.int q4), .val (.int sel), .val (.int rem), .val (.long qy), .second, .val (.long rr), .second, .val (.int dr), .val (.ref nb2), .val (.ref nb7), .val (.int nv), .val (.int (1 : Int32)), .unset] [(.int nv), (.ref nb7)]))
          refine own_by (fun _ k => XS.lload X11.here hx rfl (hb hby at_221) rfl k) ?_
          show OEnds p e below s _ _ _ (T11.setTop (mkF m 223 #[.val (.long q0), .second, .val (.long q1), .second, .val (.long q2), .second, .val (.long q3), .second, .val (.int q4), .val (.int sel), .val (.int rem), .val (.long qy), .second, .val (.long rr), .second, .val (.int dr), .val (.ref nb2), .val (.ref nb7), .val (.int nv), .val (.int (1 : Int32)), .unset] [(.long rr), (.int nv), (.ref nb7)]))
          have F13 : FA Z h11 nb7 .long 3 (fun i => .long (fv i)) := (Fa_bl179_nb7.keep Kq11 (ninS (Ne.symm (Nat.ne_of_lt (Nat.lt_of_lt_of_le O6.lt (Nat.le_of_eq g7.symm)))) (ninS (Ne.symm (Nat.ne_of_lt (Nat.lt_of_lt_of_le Fk6.lt (Nat.le_of_eq g7.symm)))) (ninS (Ne.symm (Nat.ne_of_lt (Nat.lt_of_lt_of_le Fs6.lt (Nat.le_of_eq g7.symm)))) nin0))))
          obtain ⟨T12, X12, e12, st12⟩ := own_callP X11 hx hZ (y := (⟨"com/example/tristream/tristream/LongIndexIndexOfPinLaw", "expected", "([JIJ)I"⟩ : MethodName)) hown (hw _ (List.mem_of_getElem? (i := 60) rfl)) (hw _ (List.mem_of_getElem? (i := 61) rfl)) (hw _ (List.mem_of_getElem? (i := 62) rfl)) (hw _ (List.mem_of_getElem? (i := 63) rfl)) (by decide) (rm_ex l Z a0 hw [] nb7 nv rr fv h11 n0 Z11 F13) e11 (g := (mkF m 223 #[.val (.long q0), .second, .val (.long q1), .second, .val (.long q2), .second, .val (.long q3), .second, .val (.int q4), .val (.int sel), .val (.int rem), .val (.long qy), .second, .val (.long rr), .second, .val (.int dr), .val (.ref nb2), .val (.ref nb7), .val (.int nv), .val (.int (1 : Int32)), .unset] [(.long rr), (.int nv), (.ref nb7)])) rfl (by rw [hml]; rfl) (argsL := [(.ref nb7), (.int nv), (.long rr)]) (rest := []) (lenOf pd_paJIJrI rfl) rfl (W := 0) (by show 2 * 0 + _ ≤ _; exact Nat.le_of_eq rfl) (hb hby at_223) (by decide) (by decide) (by decide) (by decide)
          refine own_by (st12) ?_
          show OEnds p e below s _ _ _ (T12.setTop (mkF m 226 #[.val (.long q0), .second, .val (.long q1), .second, .val (.long q2), .second, .val (.long q3), .second, .val (.int q4), .val (.int sel), .val (.int rem), .val (.long qy), .second, .val (.long rr), .second, .val (.int dr), .val (.ref nb2), .val (.ref nb7), .val (.int nv), .val (.int (1 : Int32)), .unset] [(.int (ex_0 fv nv rr))]))
          refine own_by (fun _ k => XS.istore X12.here hx rfl (hb hby at_226) rfl (l' := #[.val (.long q0), .second, .val (.long q1), .second, .val (.long q2), .second, .val (.long q3), .second, .val (.int q4), .val (.int sel), .val (.int rem), .val (.long qy), .second, .val (.long rr), .second, .val (.int dr), .val (.ref nb2), .val (.ref nb7), .val (.int nv), .val (.int (1 : Int32)), .val (.int (ex_0 fv nv rr))]) rfl k) ?_
          show OEnds p e below s _ _ _ (T12.setTop (mkF m 228 #[.val (.long q0), .second, .val (.long q1), .second, .val (.long q2), .second, .val (.long q3), .second, .val (.int q4), .val (.int sel), .val (.int rem), .val (.long qy), .second, .val (.long rr), .second, .val (.int dr), .val (.ref nb2), .val (.ref nb7), .val (.int nv), .val (.int (1 : Int32)), .val (.int (ex_0 fv nv rr))] []))
          have hxr := ex_idx (k := rr) hnv hln3 hfv
          obtain ⟨iv, eiv⟩ : ∃ z, z = (ex_0 fv nv rr) := ⟨_, rfl⟩
          rw [← eiv] at hxr ⊢
          show OEnds p e below s _ _ _ (T12.setTop (mkF m 228 #[.val (.long q0), .second, .val (.long q1), .second, .val (.long q2), .second, .val (.long q3), .second, .val (.int q4), .val (.int sel), .val (.int rem), .val (.long qy), .second, .val (.long rr), .second, .val (.int dr), .val (.ref nb2), .val (.ref nb7), .val (.int nv), .val (.int (1 : Int32)), .val (.int iv)] []))
          refine own_by (fun _ k => XS.iload X12.here hx rfl (hb hby at_228) rfl k) ?_
          show OEnds p e below s _ _ _ (T12.setTop (mkF m 230 #[.val (.long q0), .second, .val (.long q1), .second, .val (.long q2), .second, .val (.long q3), .second, .val (.int q4), .val (.int sel), .val (.int rem), .val (.long qy), .second, .val (.long rr), .second, .val (.int dr), .val (.ref nb2), .val (.ref nb7), .val (.int nv), .val (.int (1 : Int32)), .val (.int iv)] [(.int iv)]))
          by_cases hc230_14 : iv < (0 : Int32)
          · refine own_by (fun _ k => XS.ifYes X12.here hx rfl (pc0 := 230) (pc' := 253) rfl (hb hby at_230) rfl ((if0 _ _).trans (tlt hc230_14).1) (by decide) (by decide) k) ?_
            show OEnds p e below s _ _ _ (T12.setTop (mkF m 253 #[.val (.long q0), .second, .val (.long q1), .second, .val (.long q2), .second, .val (.long q3), .second, .val (.int q4), .val (.int sel), .val (.int rem), .val (.long qy), .second, .val (.long rr), .second, .val (.int dr), .val (.ref nb2), .val (.ref nb7), .val (.int nv), .val (.int (1 : Int32)), .val (.int iv)] []))
            have e4 := remR_out hrel11 (neg_idx hxr hc230_14)
            have hn4 : nv.toInt = (ks11.length : Int) := by rw [e4]; exact hnv
            have hf4 : ∀ i, i < ks11.length → fv i = ks11.getD i 0 := by rw [e4]; exact hfv
            have hl4 : ks11.length ≤ 3 := by rw [e4]; exact hln3
            refine own_by (fun _ k => XS.iload X12.here hx rfl (hb hby at_253) rfl k) ?_
            show OEnds p e below s _ _ _ (T12.setTop (mkF m 255 #[.val (.long q0), .second, .val (.long q1), .second, .val (.long q2), .second, .val (.long q3), .second, .val (.int q4), .val (.int sel), .val (.int rem), .val (.long qy), .second, .val (.long rr), .second, .val (.int dr), .val (.ref nb2), .val (.ref nb7), .val (.int nv), .val (.int (1 : Int32)), .val (.int iv)] [(.int (1 : Int32))]))
            refine own_by (fun _ k => XS.ifNo X12.here hx rfl (hb hby at_255) rfl ((if0 _ _).trans (feq (by decide : ¬ ((1 : Int32) = (0 : Int32)))).1) k) ?_
            show OEnds p e below s _ _ _ (T12.setTop (mkF m 258 #[.val (.long q0), .second, .val (.long q1), .second, .val (.long q2), .second, .val (.long q3), .second, .val (.int q4), .val (.int sel), .val (.int rem), .val (.long qy), .second, .val (.long rr), .second, .val (.int dr), .val (.ref nb2), .val (.ref nb7), .val (.int nv), .val (.int (1 : Int32)), .val (.int iv)] []))
            refine own_by (fun _ k => XS.aload X12.here hx rfl (hb hby at_258) rfl rfl k) ?_
            show OEnds p e below s _ _ _ (T12.setTop (mkF m 260 #[.val (.long q0), .second, .val (.long q1), .second, .val (.long q2), .second, .val (.long q3), .second, .val (.int q4), .val (.int sel), .val (.int rem), .val (.long qy), .second, .val (.long rr), .second, .val (.int dr), .val (.ref nb2), .val (.ref nb7), .val (.int nv), .val (.int (1 : Int32)), .val (.int iv)] [(.ref nb2)]))
            refine own_by (fun _ k => XS.lload X12.here hx rfl (hb hby at_260) rfl k) ?_
            show OEnds p e below s _ _ _ (T12.setTop (mkF m 262 #[.val (.long q0), .second, .val (.long q1), .second, .val (.long q2), .second, .val (.long q3), .second, .val (.int q4), .val (.int sel), .val (.int rem), .val (.long qy), .second, .val (.long rr), .second, .val (.int dr), .val (.ref nb2), .val (.ref nb7), .val (.int nv), .val (.int (1 : Int32)), .val (.int iv)] [(.long qy), (.ref nb2)]))
            obtain ⟨v15, T15, L15, h15, X15, e15, hQ15, st15⟩ := own_callV X12 hx hZ (y := (⟨"com/example/tristream/tristream/LongIndex", "indexOf", "(J)I"⟩ : MethodName)) hown (hw _ (List.mem_of_getElem? (i := 55) rfl)) (hw _ (List.mem_of_getElem? (i := 56) rfl)) (hw _ (List.mem_of_getElem? (i := 58) rfl)) (hw _ (List.mem_of_getElem? (i := 57) rfl)) (hw _ (List.mem_of_getElem? (i := 59) rfl)) (hw _ (List.mem_of_getElem? (i := 2) rfl)) (by decide) O11.exa (rm_liidx l Z a0 hw [] nb2 qy kb11 sb11 z11 sf11 kn11 kf11 S11 sl11 ks11 h11 n0 Z11 O11 Fk11 Fs11 hli11) e12 (g := (mkF m 262 #[.val (.long q0), .second, .val (.long q1), .second, .val (.long q2), .second, .val (.long q3), .second, .val (.int q4), .val (.int sel), .val (.int rem), .val (.long qy), .second, .val (.long rr), .second, .val (.int dr), .val (.ref nb2), .val (.ref nb7), .val (.int nv), .val (.int (1 : Int32)), .val (.int iv)] [(.long qy), (.ref nb2)])) rfl (by rw [hml]; rfl) (argsL := [(.long qy)]) (rest := []) (lenOf pd_pJrI rfl) rfl (W := 0) (by show 2 * 0 + _ ≤ _; exact Nat.le_of_eq rfl) (hb hby at_262) (by decide) (by decide) (by decide) (by decide)
            obtain ⟨r15, rfl, rfl, hq15, hir15⟩ := hQ15
            rw [hq15] at e15
            have N15 := Fr.app N11 (Fr.nil n0)
            refine own_tr st15 ?_
            show OEnds p e below s _ _ _ (T15.setTop (mkF m 265 #[.val (.long q0), .second, .val (.long q1), .second, .val (.long q2), .second, .val (.long q3), .second, .val (.int q4), .val (.int sel), .val (.int rem), .val (.long qy), .second, .val (.long rr), .second, .val (.int dr), .val (.ref nb2), .val (.ref nb7), .val (.int nv), .val (.int (1 : Int32)), .val (.int iv)] [(.int r15)]))
            refine own_by (fun _ k => XS.aload X15.here hx rfl (hb hby at_265) rfl rfl k) ?_
            show OEnds p e below s _ _ _ (T15.setTop (mkF m 267 #[.val (.long q0), .second, .val (.long q1), .second, .val (.long q2), .second, .val (.long q3), .second, .val (.int q4), .val (.int sel), .val (.int rem), .val (.long qy), .second, .val (.long rr), .second, .val (.int dr), .val (.ref nb2), .val (.ref nb7), .val (.int nv), .val (.int (1 : Int32)), .val (.int iv)] [(.ref nb7), (.int r15)]))
            refine own_by (fun _ k => XS.iload X15.here hx rfl (hb hby at_267) rfl k) ?_
            show OEnds p e below s _ _ _ (T15.setTop (mkF m 269 #[.val (.long q0), .second, .val (.long q1), .second, .val (.long q2), .second, .val (.long q3), .second, .val (.int q4), .val (.int sel), .val (.int rem), .val (.long qy), .second, .val (.long rr), .second, .val (.int dr), .val (.ref nb2), .val (.ref nb7), .val (.int nv), .val (.int (1 : Int32)), .val (.int iv)] [(.int nv), (.ref nb7), (.int r15)]))
            refine own_by (fun _ k => XS.lload X15.here hx rfl (hb hby at_269) rfl k) ?_
            show OEnds p e below s _ _ _ (T15.setTop (mkF m 271 #[.val (.long q0), .second, .val (.long q1), .second, .val (.long q2), .second, .val (.long q3), .second, .val (.int q4), .val (.int sel), .val (.int rem), .val (.long qy), .second, .val (.long rr), .second, .val (.int dr), .val (.ref nb2), .val (.ref nb7), .val (.int nv), .val (.int (1 : Int32)), .val (.int iv)] [(.long qy), (.int nv), (.ref nb7), (.int r15)]))
            obtain ⟨T16, X16, e16, st16⟩ := own_callP X15 hx hZ (y := (⟨"com/example/tristream/tristream/LongIndexIndexOfPinLaw", "expected", "([JIJ)I"⟩ : MethodName)) hown (hw _ (List.mem_of_getElem? (i := 60) rfl)) (hw _ (List.mem_of_getElem? (i := 61) rfl)) (hw _ (List.mem_of_getElem? (i := 62) rfl)) (hw _ (List.mem_of_getElem? (i := 63) rfl)) (by decide) (rm_ex l Z a0 hw [] nb7 nv qy fv h11 n0 Z11 F13) e15 (g := (mkF m 271 #[.val (.long q0), .second, .val (.long q1), .second, .val (.long q2), .second, .val (.long q3), .second, .val (.int q4), .val (.int sel), .val (.int rem), .val (.long qy), .second, .val (.long rr), .second, .val (.int dr), .val (.ref nb2), .val (.ref nb7), .val (.int nv), .val (.int (1 : Int32)), .val (.int iv)] [(.long qy), (.int nv), (.ref nb7), (.int r15)])) rfl (by rw [hml]; rfl) (argsL := [(.ref nb7), (.int nv), (.long qy)]) (rest := [(.int r15)]) (lenOf pd_paJIJrI rfl) rfl (W := 1) (by show 2 * 0 + _ ≤ _; exact Nat.le_of_eq rfl) (hb hby at_271) (by decide) (by decide) (by decide) (by decide)
            refine own_by (st16) ?_
            show OEnds p e below s _ _ _ (T16.setTop (mkF m 274 #[.val (.long q0), .second, .val (.long q1), .second, .val (.long q2), .second, .val (.long q3), .second, .val (.int q4), .val (.int sel), .val (.int rem), .val (.long qy), .second, .val (.long rr), .second, .val (.int dr), .val (.ref nb2), .val (.ref nb7), .val (.int nv), .val (.int (1 : Int32)), .val (.int iv)] [(.int (ex_0 fv nv qy)), (.int r15)]))
            refine own_by (fun _ k => XS.icmpNo X16.here hx rfl (hb hby at_274) rfl (teq (idx_uni hli11.dis hir15 (ex_idx hn4 hl4 hf4))).2 k) ?_
            show OEnds p e below s _ _ _ (T16.setTop (mkF m 277 #[.val (.long q0), .second, .val (.long q1), .second, .val (.long q2), .second, .val (.long q3), .second, .val (.int q4), .val (.int sel), .val (.int rem), .val (.long qy), .second, .val (.long rr), .second, .val (.int dr), .val (.ref nb2), .val (.ref nb7), .val (.int nv), .val (.int (1 : Int32)), .val (.int iv)] []))
            refine own_by (fun _ k => XS.iconst X16.here hx rfl (hb hby at_277) k) ?_
            show OEnds p e below s _ _ _ (T16.setTop (mkF m 278 #[.val (.long q0), .second, .val (.long q1), .second, .val (.long q2), .second, .val (.long q3), .second, .val (.int q4), .val (.int sel), .val (.int rem), .val (.long qy), .second, .val (.long rr), .second, .val (.int dr), .val (.ref nb2), .val (.ref nb7), .val (.int nv), .val (.int (1 : Int32)), .val (.int iv)] [(.int (1 : Int32))]))
            refine own_by (fun _ k => XS.goto X16.here hx rfl (pc0 := 278) (pc' := 282) rfl (hb hby at_278) (by decide) (by decide) k) ?_
            show OEnds p e below s _ _ _ (T16.setTop (mkF m 282 #[.val (.long q0), .second, .val (.long q1), .second, .val (.long q2), .second, .val (.long q3), .second, .val (.int q4), .val (.int sel), .val (.int rem), .val (.long qy), .second, .val (.long rr), .second, .val (.int dr), .val (.ref nb2), .val (.ref nb7), .val (.int nv), .val (.int (1 : Int32)), .val (.int iv)] [(.int (1 : Int32))]))
            refine own_by (fun _ k => XS.istore X16.here hx rfl (hb hby at_282) rfl (l' := #[.val (.long q0), .second, .val (.long q1), .second, .val (.long q2), .second, .val (.long q3), .second, .val (.int q4), .val (.int sel), .val (.int rem), .val (.long qy), .second, .val (.long rr), .second, .val (.int dr), .val (.ref nb2), .val (.ref nb7), .val (.int nv), .val (.int (1 : Int32)), .val (.int iv)]) rfl k) ?_
            show OEnds p e below s _ _ _ (T16.setTop (mkF m 284 #[.val (.long q0), .second, .val (.long q1), .second, .val (.long q2), .second, .val (.long q3), .second, .val (.int q4), .val (.int sel), .val (.int rem), .val (.long qy), .second, .val (.long rr), .second, .val (.int dr), .val (.ref nb2), .val (.ref nb7), .val (.int nv), .val (.int (1 : Int32)), .val (.int iv)] []))
            refine own_by (fun _ k => XS.iload X16.here hx rfl (hb hby at_284) rfl k) ?_
            show OEnds p e below s _ _ _ (T16.setTop (mkF m 286 #[.val (.long q0), .second, .val (.long q1), .second, .val (.long q2), .second, .val (.long q3), .second, .val (.int q4), .val (.int sel), .val (.int rem), .val (.long qy), .second, .val (.long rr), .second, .val (.int dr), .val (.ref nb2), .val (.ref nb7), .val (.int nv), .val (.int (1 : Int32)), .val (.int iv)] [(.int (1 : Int32))]))
            exact own_retN X16 hx hlk .boolean (by simp) Bd.returns (hb hby at_286) ⟨rfl, N15⟩ (by decide) (by decide)
          · refine own_by (fun _ k => XS.ifNo X12.here hx rfl (hb hby at_230) rfl ((if0 _ _).trans (flt hc230_14).1) k) ?_
            show OEnds p e below s _ _ _ (T12.setTop (mkF m 233 #[.val (.long q0), .second, .val (.long q1), .second, .val (.long q2), .second, .val (.long q3), .second, .val (.int q4), .val (.int sel), .val (.int rem), .val (.long qy), .second, .val (.long rr), .second, .val (.int dr), .val (.ref nb2), .val (.ref nb7), .val (.int nv), .val (.int (1 : Int32)), .val (.int iv)] []))
            obtain ⟨i0, hi0, hki, hiv⟩ := pos_idx hxr hc230_14
            obtain ⟨nk, hnk⟩ : ∃ nk, ks6.length = nk + 1 := ⟨ks6.length - 1, by omega⟩
            have hnd : (nv + (-1 : Int32)).toInt = (nk : Int) := ndec (by rw [hnv, hnk]) (by omega)
            have hnk3 : nk < 3 := Nat.lt_of_lt_of_le (Nat.lt_succ_self nk) (Nat.le_trans (Nat.le_of_eq hnk.symm) hln3)
            have hi3 : i0 < 3 := Nat.lt_of_lt_of_le hi0 hln3
            refine own_by (fun _ k => XS.iinc X12.here hx rfl (hb hby at_233) rfl (l' := #[.val (.long q0), .second, .val (.long q1), .second, .val (.long q2), .second, .val (.long q3), .second, .val (.int q4), .val (.int sel), .val (.int rem), .val (.long qy), .second, .val (.long rr), .second, .val (.int dr), .val (.ref nb2), .val (.ref nb7), .val (.int (nv + (-1 : Int32))), .val (.int (1 : Int32)), .val (.int iv)]) rfl k) ?_
            show OEnds p e below s _ _ _ (T12.setTop (mkF m 236 #[.val (.long q0), .second, .val (.long q1), .second, .val (.long q2), .second, .val (.long q3), .second, .val (.int q4), .val (.int sel), .val (.int rem), .val (.long qy), .second, .val (.long rr), .second, .val (.int dr), .val (.ref nb2), .val (.ref nb7), .val (.int (nv + (-1 : Int32))), .val (.int (1 : Int32)), .val (.int iv)] []))
            refine own_by (fun _ k => XS.iload X12.here hx rfl (hb hby at_236) rfl k) ?_
            show OEnds p e below s _ _ _ (T12.setTop (mkF m 238 #[.val (.long q0), .second, .val (.long q1), .second, .val (.long q2), .second, .val (.long q3), .second, .val (.int q4), .val (.int sel), .val (.int rem), .val (.long qy), .second, .val (.long rr), .second, .val (.int dr), .val (.ref nb2), .val (.ref nb7), .val (.int (nv + (-1 : Int32))), .val (.int (1 : Int32)), .val (.int iv)] [(.int iv)]))
            refine own_by (fun _ k => XS.iload X12.here hx rfl (hb hby at_238) rfl k) ?_
            show OEnds p e below s _ _ _ (T12.setTop (mkF m 240 #[.val (.long q0), .second, .val (.long q1), .second, .val (.long q2), .second, .val (.long q3), .second, .val (.int q4), .val (.int sel), .val (.int rem), .val (.long qy), .second, .val (.long rr), .second, .val (.int dr), .val (.ref nb2), .val (.ref nb7), .val (.int (nv + (-1 : Int32))), .val (.int (1 : Int32)), .val (.int iv)] [(.int (nv + (-1 : Int32))), (.int iv)]))
            by_cases hc240_17 : iv < (nv + (-1 : Int32))
            · refine own_by (fun _ k => XS.icmpNo X12.here hx rfl (hb hby at_240) rfl (tlt hc240_17).2.1 k) ?_
              show OEnds p e below s _ _ _ (T12.setTop (mkF m 243 #[.val (.long q0), .second, .val (.long q1), .second, .val (.long q2), .second, .val (.long q3), .second, .val (.int q4), .val (.int sel), .val (.int rem), .val (.long qy), .second, .val (.long rr), .second, .val (.int dr), .val (.ref nb2), .val (.ref nb7), .val (.int (nv + (-1 : Int32))), .val (.int (1 : Int32)), .val (.int iv)] []))
              refine own_by (fun _ k => XS.aload X12.here hx rfl (hb hby at_243) rfl rfl k) ?_
              show OEnds p e below s _ _ _ (T12.setTop (mkF m 245 #[.val (.long q0), .second, .val (.long q1), .second, .val (.long q2), .second, .val (.long q3), .second, .val (.int q4), .val (.int sel), .val (.int rem), .val (.long qy), .second, .val (.long rr), .second, .val (.int dr), .val (.ref nb2), .val (.ref nb7), .val (.int (nv + (-1 : Int32))), .val (.int (1 : Int32)), .val (.int iv)] [(.ref nb7)]))
              refine own_by (fun _ k => XS.iload X12.here hx rfl (hb hby at_245) rfl k) ?_
              show OEnds p e below s _ _ _ (T12.setTop (mkF m 247 #[.val (.long q0), .second, .val (.long q1), .second, .val (.long q2), .second, .val (.long q3), .second, .val (.int q4), .val (.int sel), .val (.int rem), .val (.long qy), .second, .val (.long rr), .second, .val (.int dr), .val (.ref nb2), .val (.ref nb7), .val (.int (nv + (-1 : Int32))), .val (.int (1 : Int32)), .val (.int iv)] [(.int iv), (.ref nb7)]))
              refine own_by (fun _ k => XS.aload X12.here hx rfl (hb hby at_247) rfl rfl k) ?_
              show OEnds p e below s _ _ _ (T12.setTop (mkF m 249 #[.val (.long q0), .second, .val (.long q1), .second, .val (.long q2), .second, .val (.long q3), .second, .val (.int q4), .val (.int sel), .val (.int rem), .val (.long qy), .second, .val (.long rr), .second, .val (.int dr), .val (.ref nb2), .val (.ref nb7), .val (.int (nv + (-1 : Int32))), .val (.int (1 : Int32)), .val (.int iv)] [(.ref nb7), (.int iv), (.ref nb7)]))
              refine own_by (fun _ k => XS.iload X12.here hx rfl (hb hby at_249) rfl k) ?_
              show OEnds p e below s _ _ _ (T12.setTop (mkF m 251 #[.val (.long q0), .second, .val (.long q1), .second, .val (.long q2), .second, .val (.long q3), .second, .val (.int q4), .val (.int sel), .val (.int rem), .val (.long qy), .second, .val (.long rr), .second, .val (.int dr), .val (.ref nb2), .val (.ref nb7), .val (.int (nv + (-1 : Int32))), .val (.int (1 : Int32)), .val (.int iv)] [(.int (nv + (-1 : Int32))), (.ref nb7), (.int iv), (.ref nb7)]))
              refine own_by (own_laload X12 hx hZ e12 F13 nk hnd hnk3 (v := (.long (fv nk))) rfl (g := (mkF m 251 #[.val (.long q0), .second, .val (.long q1), .second, .val (.long q2), .second, .val (.long q3), .second, .val (.int q4), .val (.int sel), .val (.int rem), .val (.long qy), .second, .val (.long rr), .second, .val (.int dr), .val (.ref nb2), .val (.ref nb7), .val (.int (nv + (-1 : Int32))), .val (.int (1 : Int32)), .val (.int iv)] [(.int (nv + (-1 : Int32))), (.ref nb7), (.int iv), (.ref nb7)])) rfl rfl (hb hby at_251)) ?_
              show OEnds p e below s _ _ _ (T12.setTop (mkF m 252 #[.val (.long q0), .second, .val (.long q1), .second, .val (.long q2), .second, .val (.long q3), .second, .val (.int q4), .val (.int sel), .val (.int rem), .val (.long qy), .second, .val (.long rr), .second, .val (.int dr), .val (.ref nb2), .val (.ref nb7), .val (.int (nv + (-1 : Int32))), .val (.int (1 : Int32)), .val (.int iv)] [(.long (fv nk)), (.int iv), (.ref nb7)]))
              obtain ⟨T18, h18, X18, e18, W18, st18⟩ := own_lastore X12 hx hZ e12 F13 i0 hiv hi3 (g := (mkF m 252 #[.val (.long q0), .second, .val (.long q1), .second, .val (.long q2), .second, .val (.long q3), .second, .val (.int q4), .val (.int sel), .val (.int rem), .val (.long qy), .second, .val (.long rr), .second, .val (.int dr), .val (.ref nb2), .val (.ref nb7), .val (.int (nv + (-1 : Int32))), .val (.int (1 : Int32)), .val (.int iv)] [(.long (fv nk)), (.int iv), (.ref nb7)])) rfl rfl (hb hby at_252)
              refine own_by (st18) ?_
              have F18 : FA Z h18 nb7 .long 3 (fun i => .long ((updL fv i0 (fv nk)) i)) := F13.setL W18
              have N18 := Fr.snoc X18 N11 g_nb7
              have Z18 : n0 ≤ h18.size := Nat.le_trans Z11 (Keep.of_wr W18).1
              show OEnds p e below s _ _ _ (T18.setTop (mkF m 253 #[.val (.long q0), .second, .val (.long q1), .second, .val (.long q2), .second, .val (.long q3), .second, .val (.int q4), .val (.int sel), .val (.int rem), .val (.long qy), .second, .val (.long rr), .second, .val (.int dr), .val (.ref nb2), .val (.ref nb7), .val (.int (nv + (-1 : Int32))), .val (.int (1 : Int32)), .val (.int iv)] []))
              have e4 := remR_in hrel11 hli6.dis hi0 hki
              have hn4 : (nv + (-1 : Int32)).toInt = (ks11.length : Int) := by rw [e4]; exact len_rm hnk hnd
              have hf4 : ∀ i, i < ks11.length → (updL fv i0 (fv nk)) i = ks11.getD i 0 := by rw [e4]; exact fv_rmC hnk hfv
              have hl4 : ks11.length ≤ 3 := by rw [e4, rmL_len]; exact Nat.le_trans (Nat.sub_le _ _) hln3
              refine own_by (fun _ k => XS.iload X18.here hx rfl (hb hby at_253) rfl k) ?_
              show OEnds p e below s _ _ _ (T18.setTop (mkF m 255 #[.val (.long q0), .second, .val (.long q1), .second, .val (.long q2), .second, .val (.long q3), .second, .val (.int q4), .val (.int sel), .val (.int rem), .val (.long qy), .second, .val (.long rr), .second, .val (.int dr), .val (.ref nb2), .val (.ref nb7), .val (.int (nv + (-1 : Int32))), .val (.int (1 : Int32)), .val (.int iv)] [(.int (1 : Int32))]))
              refine own_by (fun _ k => XS.ifNo X18.here hx rfl (hb hby at_255) rfl ((if0 _ _).trans (feq (by decide : ¬ ((1 : Int32) = (0 : Int32)))).1) k) ?_
              show OEnds p e below s _ _ _ (T18.setTop (mkF m 258 #[.val (.long q0), .second, .val (.long q1), .second, .val (.long q2), .second, .val (.long q3), .second, .val (.int q4), .val (.int sel), .val (.int rem), .val (.long qy), .second, .val (.long rr), .second, .val (.int dr), .val (.ref nb2), .val (.ref nb7), .val (.int (nv + (-1 : Int32))), .val (.int (1 : Int32)), .val (.int iv)] []))
              refine own_by (fun _ k => XS.aload X18.here hx rfl (hb hby at_258) rfl rfl k) ?_
              show OEnds p e below s _ _ _ (T18.setTop (mkF m 260 #[.val (.long q0), .second, .val (.long q1), .second, .val (.long q2), .second, .val (.long q3), .second, .val (.int q4), .val (.int sel), .val (.int rem), .val (.long qy), .second, .val (.long rr), .second, .val (.int dr), .val (.ref nb2), .val (.ref nb7), .val (.int (nv + (-1 : Int32))), .val (.int (1 : Int32)), .val (.int iv)] [(.ref nb2)]))
              refine own_by (fun _ k => XS.lload X18.here hx rfl (hb hby at_260) rfl k) ?_
              show OEnds p e below s _ _ _ (T18.setTop (mkF m 262 #[.val (.long q0), .second, .val (.long q1), .second, .val (.long q2), .second, .val (.long q3), .second, .val (.int q4), .val (.int sel), .val (.int rem), .val (.long qy), .second, .val (.long rr), .second, .val (.int dr), .val (.ref nb2), .val (.ref nb7), .val (.int (nv + (-1 : Int32))), .val (.int (1 : Int32)), .val (.int iv)] [(.long qy), (.ref nb2)]))
              have O20 : Obj Z h18 nb2 "com/example/tristream/tristream/LongIndex" sch_li [(.ref kb11), (.ref sb11), (.int sf11), (.int z11)] := (O11.other W18 (Nat.ne_of_lt (Nat.lt_of_lt_of_le O6.lt (Nat.le_of_eq g7.symm))))
              have F21 : FA Z h18 kb11 .long kn11 (fun i => .long (kf11 i)) := (Fk11.other W18 (Ne.symm ne_nb7_kb11))
              have F22 : FA Z h18 sb11 .int S11 (fun i => .int (sl11 i)) := (Fs11.other W18 (Ne.symm ne_nb7_sb11))
              obtain ⟨v19, T19, L19, h19, X19, e19, hQ19, st19⟩ := own_callV X18 hx hZ (y := (⟨"com/example/tristream/tristream/LongIndex", "indexOf", "(J)I"⟩ : MethodName)) hown (hw _ (List.mem_of_getElem? (i := 55) rfl)) (hw _ (List.mem_of_getElem? (i := 56) rfl)) (hw _ (List.mem_of_getElem? (i := 58) rfl)) (hw _ (List.mem_of_getElem? (i := 57) rfl)) (hw _ (List.mem_of_getElem? (i := 59) rfl)) (hw _ (List.mem_of_getElem? (i := 2) rfl)) (by decide) O20.exa (rm_liidx l Z a0 hw [] nb2 qy kb11 sb11 z11 sf11 kn11 kf11 S11 sl11 ks11 h18 n0 Z18 O20 F21 F22 hli11) e18 (g := (mkF m 262 #[.val (.long q0), .second, .val (.long q1), .second, .val (.long q2), .second, .val (.long q3), .second, .val (.int q4), .val (.int sel), .val (.int rem), .val (.long qy), .second, .val (.long rr), .second, .val (.int dr), .val (.ref nb2), .val (.ref nb7), .val (.int (nv + (-1 : Int32))), .val (.int (1 : Int32)), .val (.int iv)] [(.long qy), (.ref nb2)])) rfl (by rw [hml]; rfl) (argsL := [(.long qy)]) (rest := []) (lenOf pd_pJrI rfl) rfl (W := 0) (by show 2 * 0 + _ ≤ _; exact Nat.le_of_eq rfl) (hb hby at_262) (by decide) (by decide) (by decide) (by decide)
              obtain ⟨r19, rfl, rfl, hq19, hir19⟩ := hQ19
              rw [hq19] at e19
              have N19 := Fr.app N18 (Fr.nil n0)
              refine own_tr st19 ?_
              show OEnds p e below s _ _ _ (T19.setTop (mkF m 265 #[.val (.long q0), .second, .val (.long q1), .second, .val (.long q2), .second, .val (.long q3), .second, .val (.int q4), .val (.int sel), .val (.int rem), .val (.long qy), .second, .val (.long rr), .second, .val (.int dr), .val (.ref nb2), .val (.ref nb7), .val (.int (nv + (-1 : Int32))), .val (.int (1 : Int32)), .val (.int iv)] [(.int r19)]))
              refine own_by (fun _ k => XS.aload X19.here hx rfl (hb hby at_265) rfl rfl k) ?_
              show OEnds p e below s _ _ _ (T19.setTop (mkF m 267 #[.val (.long q0), .second, .val (.long q1), .second, .val (.long q2), .second, .val (.long q3), .second, .val (.int q4), .val (.int sel), .val (.int rem), .val (.long qy), .second, .val (.long rr), .second, .val (.int dr), .val (.ref nb2), .val (.ref nb7), .val (.int (nv + (-1 : Int32))), .val (.int (1 : Int32)), .val (.int iv)] [(.ref nb7), (.int r19)]))
              refine own_by (fun _ k => XS.iload X19.here hx rfl (hb hby at_267) rfl k) ?_
              show OEnds p e below s _ _ _ (T19.setTop (mkF m 269 #[.val (.long q0), .second, .val (.long q1), .second, .val (.long q2), .second, .val (.long q3), .second, .val (.int q4), .val (.int sel), .val (.int rem), .val (.long qy), .second, .val (.long rr), .second, .val (.int dr), .val (.ref nb2), .val (.ref nb7), .val (.int (nv + (-1 : Int32))), .val (.int (1 : Int32)), .val (.int iv)] [(.int (nv + (-1 : Int32))), (.ref nb7), (.int r19)]))
              refine own_by (fun _ k => XS.lload X19.here hx rfl (hb hby at_269) rfl k) ?_
              show OEnds p e below s _ _ _ (T19.setTop (mkF m 271 #[.val (.long q0), .second, .val (.long q1), .second, .val (.long q2), .second, .val (.long q3), .second, .val (.int q4), .val (.int sel), .val (.int rem), .val (.long qy), .second, .val (.long rr), .second, .val (.int dr), .val (.ref nb2), .val (.ref nb7), .val (.int (nv + (-1 : Int32))), .val (.int (1 : Int32)), .val (.int iv)] [(.long qy), (.int (nv + (-1 : Int32))), (.ref nb7), (.int r19)]))
              obtain ⟨T23, X23, e23, st23⟩ := own_callP X19 hx hZ (y := (⟨"com/example/tristream/tristream/LongIndexIndexOfPinLaw", "expected", "([JIJ)I"⟩ : MethodName)) hown (hw _ (List.mem_of_getElem? (i := 60) rfl)) (hw _ (List.mem_of_getElem? (i := 61) rfl)) (hw _ (List.mem_of_getElem? (i := 62) rfl)) (hw _ (List.mem_of_getElem? (i := 63) rfl)) (by decide) (rm_ex l Z a0 hw [] nb7 (nv + (-1 : Int32)) qy (updL fv i0 (fv nk)) h18 n0 Z18 F18) e19 (g := (mkF m 271 #[.val (.long q0), .second, .val (.long q1), .second, .val (.long q2), .second, .val (.long q3), .second, .val (.int q4), .val (.int sel), .val (.int rem), .val (.long qy), .second, .val (.long rr), .second, .val (.int dr), .val (.ref nb2), .val (.ref nb7), .val (.int (nv + (-1 : Int32))), .val (.int (1 : Int32)), .val (.int iv)] [(.long qy), (.int (nv + (-1 : Int32))), (.ref nb7), (.int r19)])) rfl (by rw [hml]; rfl) (argsL := [(.ref nb7), (.int (nv + (-1 : Int32))), (.long qy)]) (rest := [(.int r19)]) (lenOf pd_paJIJrI rfl) rfl (W := 1) (by show 2 * 0 + _ ≤ _; exact Nat.le_of_eq rfl) (hb hby at_271) (by decide) (by decide) (by decide) (by decide)
              refine own_by (st23) ?_
              show OEnds p e below s _ _ _ (T23.setTop (mkF m 274 #[.val (.long q0), .second, .val (.long q1), .second, .val (.long q2), .second, .val (.long q3), .second, .val (.int q4), .val (.int sel), .val (.int rem), .val (.long qy), .second, .val (.long rr), .second, .val (.int dr), .val (.ref nb2), .val (.ref nb7), .val (.int (nv + (-1 : Int32))), .val (.int (1 : Int32)), .val (.int iv)] [(.int (ex_0 (updL fv i0 (fv nk)) (nv + (-1 : Int32)) qy)), (.int r19)]))
              refine own_by (fun _ k => XS.icmpNo X23.here hx rfl (hb hby at_274) rfl (teq (idx_uni hli11.dis hir19 (ex_idx hn4 hl4 hf4))).2 k) ?_
              show OEnds p e below s _ _ _ (T23.setTop (mkF m 277 #[.val (.long q0), .second, .val (.long q1), .second, .val (.long q2), .second, .val (.long q3), .second, .val (.int q4), .val (.int sel), .val (.int rem), .val (.long qy), .second, .val (.long rr), .second, .val (.int dr), .val (.ref nb2), .val (.ref nb7), .val (.int (nv + (-1 : Int32))), .val (.int (1 : Int32)), .val (.int iv)] []))
              refine own_by (fun _ k => XS.iconst X23.here hx rfl (hb hby at_277) k) ?_
              show OEnds p e below s _ _ _ (T23.setTop (mkF m 278 #[.val (.long q0), .second, .val (.long q1), .second, .val (.long q2), .second, .val (.long q3), .second, .val (.int q4), .val (.int sel), .val (.int rem), .val (.long qy), .second, .val (.long rr), .second, .val (.int dr), .val (.ref nb2), .val (.ref nb7), .val (.int (nv + (-1 : Int32))), .val (.int (1 : Int32)), .val (.int iv)] [(.int (1 : Int32))]))
              refine own_by (fun _ k => XS.goto X23.here hx rfl (pc0 := 278) (pc' := 282) rfl (hb hby at_278) (by decide) (by decide) k) ?_
              show OEnds p e below s _ _ _ (T23.setTop (mkF m 282 #[.val (.long q0), .second, .val (.long q1), .second, .val (.long q2), .second, .val (.long q3), .second, .val (.int q4), .val (.int sel), .val (.int rem), .val (.long qy), .second, .val (.long rr), .second, .val (.int dr), .val (.ref nb2), .val (.ref nb7), .val (.int (nv + (-1 : Int32))), .val (.int (1 : Int32)), .val (.int iv)] [(.int (1 : Int32))]))
              refine own_by (fun _ k => XS.istore X23.here hx rfl (hb hby at_282) rfl (l' := #[.val (.long q0), .second, .val (.long q1), .second, .val (.long q2), .second, .val (.long q3), .second, .val (.int q4), .val (.int sel), .val (.int rem), .val (.long qy), .second, .val (.long rr), .second, .val (.int dr), .val (.ref nb2), .val (.ref nb7), .val (.int (nv + (-1 : Int32))), .val (.int (1 : Int32)), .val (.int iv)]) rfl k) ?_
              show OEnds p e below s _ _ _ (T23.setTop (mkF m 284 #[.val (.long q0), .second, .val (.long q1), .second, .val (.long q2), .second, .val (.long q3), .second, .val (.int q4), .val (.int sel), .val (.int rem), .val (.long qy), .second, .val (.long rr), .second, .val (.int dr), .val (.ref nb2), .val (.ref nb7), .val (.int (nv + (-1 : Int32))), .val (.int (1 : Int32)), .val (.int iv)] []))
              refine own_by (fun _ k => XS.iload X23.here hx rfl (hb hby at_284) rfl k) ?_
              show OEnds p e below s _ _ _ (T23.setTop (mkF m 286 #[.val (.long q0), .second, .val (.long q1), .second, .val (.long q2), .second, .val (.long q3), .second, .val (.int q4), .val (.int sel), .val (.int rem), .val (.long qy), .second, .val (.long rr), .second, .val (.int dr), .val (.ref nb2), .val (.ref nb7), .val (.int (nv + (-1 : Int32))), .val (.int (1 : Int32)), .val (.int iv)] [(.int (1 : Int32))]))
              exact own_retN X23 hx hlk .boolean (by simp) Bd.returns (hb hby at_286) ⟨rfl, N19⟩ (by decide) (by decide)
            · refine own_by (fun _ k => XS.icmpYes X12.here hx rfl (pc0 := 240) (pc' := 253) rfl (hb hby at_240) rfl (flt hc240_17).2.1 (by decide) (by decide) k) ?_
              show OEnds p e below s _ _ _ (T12.setTop (mkF m 253 #[.val (.long q0), .second, .val (.long q1), .second, .val (.long q2), .second, .val (.long q3), .second, .val (.int q4), .val (.int sel), .val (.int rem), .val (.long qy), .second, .val (.long rr), .second, .val (.int dr), .val (.ref nb2), .val (.ref nb7), .val (.int (nv + (-1 : Int32))), .val (.int (1 : Int32)), .val (.int iv)] []))
              have e4 := remR_in hrel11 hli6.dis hi0 hki
              have hn4 : (nv + (-1 : Int32)).toInt = (ks11.length : Int) := by rw [e4]; exact len_rm hnk hnd
              have hf4 : ∀ i, i < ks11.length → fv i = ks11.getD i 0 := by rw [e4]; exact fv_rmB hnk (ge_toI hiv hnd hc240_17) hfv
              have hl4 : ks11.length ≤ 3 := by rw [e4, rmL_len]; exact Nat.le_trans (Nat.sub_le _ _) hln3
              refine own_by (fun _ k => XS.iload X12.here hx rfl (hb hby at_253) rfl k) ?_
              show OEnds p e below s _ _ _ (T12.setTop (mkF m 255 #[.val (.long q0), .second, .val (.long q1), .second, .val (.long q2), .second, .val (.long q3), .second, .val (.int q4), .val (.int sel), .val (.int rem), .val (.long qy), .second, .val (.long rr), .second, .val (.int dr), .val (.ref nb2), .val (.ref nb7), .val (.int (nv + (-1 : Int32))), .val (.int (1 : Int32)), .val (.int iv)] [(.int (1 : Int32))]))
              refine own_by (fun _ k => XS.ifNo X12.here hx rfl (hb hby at_255) rfl ((if0 _ _).trans (feq (by decide : ¬ ((1 : Int32) = (0 : Int32)))).1) k) ?_
              show OEnds p e below s _ _ _ (T12.setTop (mkF m 258 #[.val (.long q0), .second, .val (.long q1), .second, .val (.long q2), .second, .val (.long q3), .second, .val (.int q4), .val (.int sel), .val (.int rem), .val (.long qy), .second, .val (.long rr), .second, .val (.int dr), .val (.ref nb2), .val (.ref nb7), .val (.int (nv + (-1 : Int32))), .val (.int (1 : Int32)), .val (.int iv)] []))
              refine own_by (fun _ k => XS.aload X12.here hx rfl (hb hby at_258) rfl rfl k) ?_
              show OEnds p e below s _ _ _ (T12.setTop (mkF m 260 #[.val (.long q0), .second, .val (.long q1), .second, .val (.long q2), .second, .val (.long q3), .second, .val (.int q4), .val (.int sel), .val (.int rem), .val (.long qy), .second, .val (.long rr), .second, .val (.int dr), .val (.ref nb2), .val (.ref nb7), .val (.int (nv + (-1 : Int32))), .val (.int (1 : Int32)), .val (.int iv)] [(.ref nb2)]))
              refine own_by (fun _ k => XS.lload X12.here hx rfl (hb hby at_260) rfl k) ?_
              show OEnds p e below s _ _ _ (T12.setTop (mkF m 262 #[.val (.long q0), .second, .val (.long q1), .second, .val (.long q2), .second, .val (.long q3), .second, .val (.int q4), .val (.int sel), .val (.int rem), .val (.long qy), .second, .val (.long rr), .second, .val (.int dr), .val (.ref nb2), .val (.ref nb7), .val (.int (nv + (-1 : Int32))), .val (.int (1 : Int32)), .val (.int iv)] [(.long qy), (.ref nb2)]))
              obtain ⟨v24, T24, L24, h24, X24, e24, hQ24, st24⟩ := own_callV X12 hx hZ (y := (⟨"com/example/tristream/tristream/LongIndex", "indexOf", "(J)I"⟩ : MethodName)) hown (hw _ (List.mem_of_getElem? (i := 55) rfl)) (hw _ (List.mem_of_getElem? (i := 56) rfl)) (hw _ (List.mem_of_getElem? (i := 58) rfl)) (hw _ (List.mem_of_getElem? (i := 57) rfl)) (hw _ (List.mem_of_getElem? (i := 59) rfl)) (hw _ (List.mem_of_getElem? (i := 2) rfl)) (by decide) O11.exa (rm_liidx l Z a0 hw [] nb2 qy kb11 sb11 z11 sf11 kn11 kf11 S11 sl11 ks11 h11 n0 Z11 O11 Fk11 Fs11 hli11) e12 (g := (mkF m 262 #[.val (.long q0), .second, .val (.long q1), .second, .val (.long q2), .second, .val (.long q3), .second, .val (.int q4), .val (.int sel), .val (.int rem), .val (.long qy), .second, .val (.long rr), .second, .val (.int dr), .val (.ref nb2), .val (.ref nb7), .val (.int (nv + (-1 : Int32))), .val (.int (1 : Int32)), .val (.int iv)] [(.long qy), (.ref nb2)])) rfl (by rw [hml]; rfl) (argsL := [(.long qy)]) (rest := []) (lenOf pd_pJrI rfl) rfl (W := 0) (by show 2 * 0 + _ ≤ _; exact Nat.le_of_eq rfl) (hb hby at_262) (by decide) (by decide) (by decide) (by decide)
              obtain ⟨r24, rfl, rfl, hq24, hir24⟩ := hQ24
              rw [hq24] at e24
              have N24 := Fr.app N11 (Fr.nil n0)
              refine own_tr st24 ?_
              show OEnds p e below s _ _ _ (T24.setTop (mkF m 265 #[.val (.long q0), .second, .val (.long q1), .second, .val (.long q2), .second, .val (.long q3), .second, .val (.int q4), .val (.int sel), .val (.int rem), .val (.long qy), .second, .val (.long rr), .second, .val (.int dr), .val (.ref nb2), .val (.ref nb7), .val (.int (nv + (-1 : Int32))), .val (.int (1 : Int32)), .val (.int iv)] [(.int r24)]))
              refine own_by (fun _ k => XS.aload X24.here hx rfl (hb hby at_265) rfl rfl k) ?_
              show OEnds p e below s _ _ _ (T24.setTop (mkF m 267 #[.val (.long q0), .second, .val (.long q1), .second, .val (.long q2), .second, .val (.long q3), .second, .val (.int q4), .val (.int sel), .val (.int rem), .val (.long qy), .second, .val (.long rr), .second, .val (.int dr), .val (.ref nb2), .val (.ref nb7), .val (.int (nv + (-1 : Int32))), .val (.int (1 : Int32)), .val (.int iv)] [(.ref nb7), (.int r24)]))
              refine own_by (fun _ k => XS.iload X24.here hx rfl (hb hby at_267) rfl k) ?_
              show OEnds p e below s _ _ _ (T24.setTop (mkF m 269 #[.val (.long q0), .second, .val (.long q1), .second, .val (.long q2), .second, .val (.long q3), .second, .val (.int q4), .val (.int sel), .val (.int rem), .val (.long qy), .second, .val (.long rr), .second, .val (.int dr), .val (.ref nb2), .val (.ref nb7), .val (.int (nv + (-1 : Int32))), .val (.int (1 : Int32)), .val (.int iv)] [(.int (nv + (-1 : Int32))), (.ref nb7), (.int r24)]))
              refine own_by (fun _ k => XS.lload X24.here hx rfl (hb hby at_269) rfl k) ?_
              show OEnds p e below s _ _ _ (T24.setTop (mkF m 271 #[.val (.long q0), .second, .val (.long q1), .second, .val (.long q2), .second, .val (.long q3), .second, .val (.int q4), .val (.int sel), .val (.int rem), .val (.long qy), .second, .val (.long rr), .second, .val (.int dr), .val (.ref nb2), .val (.ref nb7), .val (.int (nv + (-1 : Int32))), .val (.int (1 : Int32)), .val (.int iv)] [(.long qy), (.int (nv + (-1 : Int32))), (.ref nb7), (.int r24)]))
              obtain ⟨T25, X25, e25, st25⟩ := own_callP X24 hx hZ (y := (⟨"com/example/tristream/tristream/LongIndexIndexOfPinLaw", "expected", "([JIJ)I"⟩ : MethodName)) hown (hw _ (List.mem_of_getElem? (i := 60) rfl)) (hw _ (List.mem_of_getElem? (i := 61) rfl)) (hw _ (List.mem_of_getElem? (i := 62) rfl)) (hw _ (List.mem_of_getElem? (i := 63) rfl)) (by decide) (rm_ex l Z a0 hw [] nb7 (nv + (-1 : Int32)) qy fv h11 n0 Z11 F13) e24 (g := (mkF m 271 #[.val (.long q0), .second, .val (.long q1), .second, .val (.long q2), .second, .val (.long q3), .second, .val (.int q4), .val (.int sel), .val (.int rem), .val (.long qy), .second, .val (.long rr), .second, .val (.int dr), .val (.ref nb2), .val (.ref nb7), .val (.int (nv + (-1 : Int32))), .val (.int (1 : Int32)), .val (.int iv)] [(.long qy), (.int (nv + (-1 : Int32))), (.ref nb7), (.int r24)])) rfl (by rw [hml]; rfl) (argsL := [(.ref nb7), (.int (nv + (-1 : Int32))), (.long qy)]) (rest := [(.int r24)]) (lenOf pd_paJIJrI rfl) rfl (W := 1) (by show 2 * 0 + _ ≤ _; exact Nat.le_of_eq rfl) (hb hby at_271) (by decide) (by decide) (by decide) (by decide)
              refine own_by (st25) ?_
              show OEnds p e below s _ _ _ (T25.setTop (mkF m 274 #[.val (.long q0), .second, .val (.long q1), .second, .val (.long q2), .second, .val (.long q3), .second, .val (.int q4), .val (.int sel), .val (.int rem), .val (.long qy), .second, .val (.long rr), .second, .val (.int dr), .val (.ref nb2), .val (.ref nb7), .val (.int (nv + (-1 : Int32))), .val (.int (1 : Int32)), .val (.int iv)] [(.int (ex_0 fv (nv + (-1 : Int32)) qy)), (.int r24)]))
              refine own_by (fun _ k => XS.icmpNo X25.here hx rfl (hb hby at_274) rfl (teq (idx_uni hli11.dis hir24 (ex_idx hn4 hl4 hf4))).2 k) ?_
              show OEnds p e below s _ _ _ (T25.setTop (mkF m 277 #[.val (.long q0), .second, .val (.long q1), .second, .val (.long q2), .second, .val (.long q3), .second, .val (.int q4), .val (.int sel), .val (.int rem), .val (.long qy), .second, .val (.long rr), .second, .val (.int dr), .val (.ref nb2), .val (.ref nb7), .val (.int (nv + (-1 : Int32))), .val (.int (1 : Int32)), .val (.int iv)] []))
              refine own_by (fun _ k => XS.iconst X25.here hx rfl (hb hby at_277) k) ?_
              show OEnds p e below s _ _ _ (T25.setTop (mkF m 278 #[.val (.long q0), .second, .val (.long q1), .second, .val (.long q2), .second, .val (.long q3), .second, .val (.int q4), .val (.int sel), .val (.int rem), .val (.long qy), .second, .val (.long rr), .second, .val (.int dr), .val (.ref nb2), .val (.ref nb7), .val (.int (nv + (-1 : Int32))), .val (.int (1 : Int32)), .val (.int iv)] [(.int (1 : Int32))]))
              refine own_by (fun _ k => XS.goto X25.here hx rfl (pc0 := 278) (pc' := 282) rfl (hb hby at_278) (by decide) (by decide) k) ?_
              show OEnds p e below s _ _ _ (T25.setTop (mkF m 282 #[.val (.long q0), .second, .val (.long q1), .second, .val (.long q2), .second, .val (.long q3), .second, .val (.int q4), .val (.int sel), .val (.int rem), .val (.long qy), .second, .val (.long rr), .second, .val (.int dr), .val (.ref nb2), .val (.ref nb7), .val (.int (nv + (-1 : Int32))), .val (.int (1 : Int32)), .val (.int iv)] [(.int (1 : Int32))]))
              refine own_by (fun _ k => XS.istore X25.here hx rfl (hb hby at_282) rfl (l' := #[.val (.long q0), .second, .val (.long q1), .second, .val (.long q2), .second, .val (.long q3), .second, .val (.int q4), .val (.int sel), .val (.int rem), .val (.long qy), .second, .val (.long rr), .second, .val (.int dr), .val (.ref nb2), .val (.ref nb7), .val (.int (nv + (-1 : Int32))), .val (.int (1 : Int32)), .val (.int iv)]) rfl k) ?_
              show OEnds p e below s _ _ _ (T25.setTop (mkF m 284 #[.val (.long q0), .second, .val (.long q1), .second, .val (.long q2), .second, .val (.long q3), .second, .val (.int q4), .val (.int sel), .val (.int rem), .val (.long qy), .second, .val (.long rr), .second, .val (.int dr), .val (.ref nb2), .val (.ref nb7), .val (.int (nv + (-1 : Int32))), .val (.int (1 : Int32)), .val (.int iv)] []))
              refine own_by (fun _ k => XS.iload X25.here hx rfl (hb hby at_284) rfl k) ?_
              show OEnds p e below s _ _ _ (T25.setTop (mkF m 286 #[.val (.long q0), .second, .val (.long q1), .second, .val (.long q2), .second, .val (.long q3), .second, .val (.int q4), .val (.int sel), .val (.int rem), .val (.long qy), .second, .val (.long rr), .second, .val (.int dr), .val (.ref nb2), .val (.ref nb7), .val (.int (nv + (-1 : Int32))), .val (.int (1 : Int32)), .val (.int iv)] [(.int (1 : Int32))]))
              exact own_retN X25 hx hlk .boolean (by simp) Bd.returns (hb hby at_286) ⟨rfl, N24⟩ (by decide) (by decide)
      show OEnds p e below s _ _ _ (T7.setTop (mkF m 132 #[.val (.long q0), .second, .val (.long q1), .second, .val (.long q2), .second, .val (.long q3), .second, .val (.int q4), .val (.int sel), .val (.int rem), .val (.long qy), .second, .val (.long rr), .second, .val (.int dr), .val (.ref nb2), .val (.ref nb7), .unset, .unset, .unset] []))
      refine own_by (fun _ k => XS.iconst X7.here hx rfl (hb hby at_132) k) ?_
      show OEnds p e below s _ _ _ (T7.setTop (mkF m 133 #[.val (.long q0), .second, .val (.long q1), .second, .val (.long q2), .second, .val (.long q3), .second, .val (.int q4), .val (.int sel), .val (.int rem), .val (.long qy), .second, .val (.long rr), .second, .val (.int dr), .val (.ref nb2), .val (.ref nb7), .unset, .unset, .unset] [(.int (1 : Int32))]))
      refine own_by (fun _ k => XS.istore X7.here hx rfl (hb hby at_133) rfl (l' := #[.val (.long q0), .second, .val (.long q1), .second, .val (.long q2), .second, .val (.long q3), .second, .val (.int q4), .val (.int sel), .val (.int rem), .val (.long qy), .second, .val (.long rr), .second, .val (.int dr), .val (.ref nb2), .val (.ref nb7), .val (.int (1 : Int32)), .unset, .unset]) rfl k) ?_
      show OEnds p e below s _ _ _ (T7.setTop (mkF m 135 #[.val (.long q0), .second, .val (.long q1), .second, .val (.long q2), .second, .val (.long q3), .second, .val (.int q4), .val (.int sel), .val (.int rem), .val (.long qy), .second, .val (.long rr), .second, .val (.int dr), .val (.ref nb2), .val (.ref nb7), .val (.int (1 : Int32)), .unset, .unset] []))
      refine own_by (fun _ k => XS.aload X7.here hx rfl (hb hby at_135) rfl rfl k) ?_
      show OEnds p e below s _ _ _ (T7.setTop (mkF m 137 #[.val (.long q0), .second, .val (.long q1), .second, .val (.long q2), .second, .val (.long q3), .second, .val (.int q4), .val (.int sel), .val (.int rem), .val (.long qy), .second, .val (.long rr), .second, .val (.int dr), .val (.ref nb2), .val (.ref nb7), .val (.int (1 : Int32)), .unset, .unset] [(.ref nb7)]))
      refine own_by (fun _ k => XS.iconst X7.here hx rfl (hb hby at_137) k) ?_
      show OEnds p e below s _ _ _ (T7.setTop (mkF m 138 #[.val (.long q0), .second, .val (.long q1), .second, .val (.long q2), .second, .val (.long q3), .second, .val (.int q4), .val (.int sel), .val (.int rem), .val (.long qy), .second, .val (.long rr), .second, .val (.int dr), .val (.ref nb2), .val (.ref nb7), .val (.int (1 : Int32)), .unset, .unset] [(.int (0 : Int32)), (.ref nb7)]))
      refine own_by (fun _ k => XS.lloadN X7.here hx rfl (hb hby at_138) rfl k) ?_
      show OEnds p e below s _ _ _ (T7.setTop (mkF m 139 #[.val (.long q0), .second, .val (.long q1), .second, .val (.long q2), .second, .val (.long q3), .second, .val (.int q4), .val (.int sel), .val (.int rem), .val (.long qy), .second, .val (.long rr), .second, .val (.int dr), .val (.ref nb2), .val (.ref nb7), .val (.int (1 : Int32)), .unset, .unset] [(.long q0), (.int (0 : Int32)), (.ref nb7)]))
      have O27 : Obj Z h7 nb2 "com/example/tristream/tristream/LongIndex" sch_li [(.ref kb6), (.ref sb6), (.int sf6), (.int z6)] := (O6.ext E7)
      have F28 : FA Z h7 kb6 .long kn6 (fun i => .long (kf6 i)) := (Fk6.ext E7)
      have F29 : FA Z h7 sb6 .int S6 (fun i => .int (sl6 i)) := (Fs6.ext E7)
      obtain ⟨T26, h26, X26, e26, W26, st26⟩ := own_lastore X7 hx hZ e7 F7 0 (by decide) (by decide) (g := (mkF m 139 #[.val (.long q0), .second, .val (.long q1), .second, .val (.long q2), .second, .val (.long q3), .second, .val (.int q4), .val (.int sel), .val (.int rem), .val (.long qy), .second, .val (.long rr), .second, .val (.int dr), .val (.ref nb2), .val (.ref nb7), .val (.int (1 : Int32)), .unset, .unset] [(.long q0), (.int (0 : Int32)), (.ref nb7)])) rfl rfl (hb hby at_139)
      refine own_by (st26) ?_
      have F26 : FA Z h26 nb7 .long 3 (fun i => .long ((updL (fun _ => (0 : Int64)) 0 q0) i)) := F7.setL W26
      have N26 := Fr.snoc X26 N6 g_nb7
      have Z26 : n0 ≤ h26.size := Nat.le_trans Z7 (Keep.of_wr W26).1
      show OEnds p e below s _ _ _ (T26.setTop (mkF m 140 #[.val (.long q0), .second, .val (.long q1), .second, .val (.long q2), .second, .val (.long q3), .second, .val (.int q4), .val (.int sel), .val (.int rem), .val (.long qy), .second, .val (.long rr), .second, .val (.int dr), .val (.ref nb2), .val (.ref nb7), .val (.int (1 : Int32)), .unset, .unset] []))
      refine own_by (fun _ k => XS.lloadN X26.here hx rfl (hb hby at_140) rfl k) ?_
      show OEnds p e below s _ _ _ (T26.setTop (mkF m 141 #[.val (.long q0), .second, .val (.long q1), .second, .val (.long q2), .second, .val (.long q3), .second, .val (.int q4), .val (.int sel), .val (.int rem), .val (.long qy), .second, .val (.long rr), .second, .val (.int dr), .val (.ref nb2), .val (.ref nb7), .val (.int (1 : Int32)), .unset, .unset] [(.long q1)]))
      refine own_by (fun _ k => XS.lloadN X26.here hx rfl (hb hby at_141) rfl k) ?_
      show OEnds p e below s _ _ _ (T26.setTop (mkF m 142 #[.val (.long q0), .second, .val (.long q1), .second, .val (.long q2), .second, .val (.long q3), .second, .val (.int q4), .val (.int sel), .val (.int rem), .val (.long qy), .second, .val (.long rr), .second, .val (.int dr), .val (.ref nb2), .val (.ref nb7), .val (.int (1 : Int32)), .unset, .unset] [(.long q0), (.long q1)]))
      refine own_by (fun _ k => XS.lcmp X26.here hx rfl (hb hby at_142) rfl k) ?_
      show OEnds p e below s _ _ _ (T26.setTop (mkF m 143 #[.val (.long q0), .second, .val (.long q1), .second, .val (.long q2), .second, .val (.long q3), .second, .val (.int q4), .val (.int sel), .val (.int rem), .val (.long qy), .second, .val (.long rr), .second, .val (.int dr), .val (.ref nb2), .val (.ref nb7), .val (.int (1 : Int32)), .unset, .unset] [(.int (lcmpW q1 q0))]))
      by_cases hc143_30 : q1 = q0
      · refine own_by (fun _ k => XS.ifYes X26.here hx rfl (pc0 := 143) (pc' := 155) rfl (hb hby at_143) rfl ((if0 _ _).trans (teq ((lw_eq _ _).mpr hc143_30)).1) (by decide) (by decide) k) ?_
        show OEnds p e below s _ _ _ (T26.setTop (mkF m 155 #[.val (.long q0), .second, .val (.long q1), .second, .val (.long q2), .second, .val (.long q3), .second, .val (.int q4), .val (.int sel), .val (.int rem), .val (.long qy), .second, .val (.long rr), .second, .val (.int dr), .val (.ref nb2), .val (.ref nb7), .val (.int (1 : Int32)), .unset, .unset] []))
        refine own_by (fun _ k => XS.lload X26.here hx rfl (hb hby at_155) rfl k) ?_
        show OEnds p e below s _ _ _ (T26.setTop (mkF m 157 #[.val (.long q0), .second, .val (.long q1), .second, .val (.long q2), .second, .val (.long q3), .second, .val (.int q4), .val (.int sel), .val (.int rem), .val (.long qy), .second, .val (.long rr), .second, .val (.int dr), .val (.ref nb2), .val (.ref nb7), .val (.int (1 : Int32)), .unset, .unset] [(.long q2)]))
        refine own_by (fun _ k => XS.lloadN X26.here hx rfl (hb hby at_157) rfl k) ?_
        show OEnds p e below s _ _ _ (T26.setTop (mkF m 158 #[.val (.long q0), .second, .val (.long q1), .second, .val (.long q2), .second, .val (.long q3), .second, .val (.int q4), .val (.int sel), .val (.int rem), .val (.long qy), .second, .val (.long rr), .second, .val (.int dr), .val (.ref nb2), .val (.ref nb7), .val (.int (1 : Int32)), .unset, .unset] [(.long q0), (.long q2)]))
        refine own_by (fun _ k => XS.lcmp X26.here hx rfl (hb hby at_158) rfl k) ?_
        show OEnds p e below s _ _ _ (T26.setTop (mkF m 159 #[.val (.long q0), .second, .val (.long q1), .second, .val (.long q2), .second, .val (.long q3), .second, .val (.int q4), .val (.int sel), .val (.int rem), .val (.long qy), .second, .val (.long rr), .second, .val (.int dr), .val (.ref nb2), .val (.ref nb7), .val (.int (1 : Int32)), .unset, .unset] [(.int (lcmpW q2 q0))]))
        by_cases hc159_31 : q2 = q0
        · refine own_by (fun _ k => XS.ifYes X26.here hx rfl (pc0 := 159) (pc' := 179) rfl (hb hby at_159) rfl ((if0 _ _).trans (teq ((lw_eq _ _).mpr hc159_31)).1) (by decide) (by decide) k) ?_
          show OEnds p e below s _ _ _ (T26.setTop (mkF m 179 #[.val (.long q0), .second, .val (.long q1), .second, .val (.long q2), .second, .val (.long q3), .second, .val (.int q4), .val (.int sel), .val (.int rem), .val (.long qy), .second, .val (.long rr), .second, .val (.int dr), .val (.ref nb2), .val (.ref nb7), .val (.int (1 : Int32)), .unset, .unset] []))
          have e3 := ks_ee hrel4 hrel5 hrel6 hc143_30 hc159_31
          have O32 : Obj Z h26 nb2 "com/example/tristream/tristream/LongIndex" sch_li [(.ref kb6), (.ref sb6), (.int sf6), (.int z6)] := (O27.other W26 (Nat.ne_of_lt (Nat.lt_of_lt_of_le O6.lt (Nat.le_of_eq g7.symm))))
          have F33 : FA Z h26 kb6 .long kn6 (fun i => .long (kf6 i)) := (F28.other W26 (Nat.ne_of_lt (Nat.lt_of_lt_of_le Fk6.lt (Nat.le_of_eq g7.symm))))
          have F34 : FA Z h26 sb6 .int S6 (fun i => .int (sl6 i)) := (F29.other W26 (Nat.ne_of_lt (Nat.lt_of_lt_of_le Fs6.lt (Nat.le_of_eq g7.symm))))
          exact bl179 T26 _ (1 : Int32) (updL (fun _ => (0 : Int64)) 0 q0) h26 Z26 X26 e26 N26 O32 F33 F34 F26 (by rw [e3]; exact (by decide : (1 : Int32).toInt = ((1 : Nat) : Int))) (fv1 e3 (by rfl))
        · refine own_by (fun _ k => XS.ifNo X26.here hx rfl (hb hby at_159) rfl ((if0 _ _).trans (feq (fun q => hc159_31 ((lw_eq _ _).mp q))).1) k) ?_
          show OEnds p e below s _ _ _ (T26.setTop (mkF m 162 #[.val (.long q0), .second, .val (.long q1), .second, .val (.long q2), .second, .val (.long q3), .second, .val (.int q4), .val (.int sel), .val (.int rem), .val (.long qy), .second, .val (.long rr), .second, .val (.int dr), .val (.ref nb2), .val (.ref nb7), .val (.int (1 : Int32)), .unset, .unset] []))
          refine own_by (fun _ k => XS.lload X26.here hx rfl (hb hby at_162) rfl k) ?_
          show OEnds p e below s _ _ _ (T26.setTop (mkF m 164 #[.val (.long q0), .second, .val (.long q1), .second, .val (.long q2), .second, .val (.long q3), .second, .val (.int q4), .val (.int sel), .val (.int rem), .val (.long qy), .second, .val (.long rr), .second, .val (.int dr), .val (.ref nb2), .val (.ref nb7), .val (.int (1 : Int32)), .unset, .unset] [(.long q2)]))
          refine own_by (fun _ k => XS.lloadN X26.here hx rfl (hb hby at_164) rfl k) ?_
          show OEnds p e below s _ _ _ (T26.setTop (mkF m 165 #[.val (.long q0), .second, .val (.long q1), .second, .val (.long q2), .second, .val (.long q3), .second, .val (.int q4), .val (.int sel), .val (.int rem), .val (.long qy), .second, .val (.long rr), .second, .val (.int dr), .val (.ref nb2), .val (.ref nb7), .val (.int (1 : Int32)), .unset, .unset] [(.long q1), (.long q2)]))
          refine own_by (fun _ k => XS.lcmp X26.here hx rfl (hb hby at_165) rfl k) ?_
          show OEnds p e below s _ _ _ (T26.setTop (mkF m 166 #[.val (.long q0), .second, .val (.long q1), .second, .val (.long q2), .second, .val (.long q3), .second, .val (.int q4), .val (.int sel), .val (.int rem), .val (.long qy), .second, .val (.long rr), .second, .val (.int dr), .val (.ref nb2), .val (.ref nb7), .val (.int (1 : Int32)), .unset, .unset] [(.int (lcmpW q2 q1))]))
          by_cases hc166_35 : q2 = q1
          · refine own_by (fun _ k => XS.ifYes X26.here hx rfl (pc0 := 166) (pc' := 179) rfl (hb hby at_166) rfl ((if0 _ _).trans (teq ((lw_eq _ _).mpr hc166_35)).1) (by decide) (by decide) k) ?_
            show OEnds p e below s _ _ _ (T26.setTop (mkF m 179 #[.val (.long q0), .second, .val (.long q1), .second, .val (.long q2), .second, .val (.long q3), .second, .val (.int q4), .val (.int sel), .val (.int rem), .val (.long qy), .second, .val (.long rr), .second, .val (.int dr), .val (.ref nb2), .val (.ref nb7), .val (.int (1 : Int32)), .unset, .unset] []))
            exact absurd (hc166_35.trans hc143_30) hc159_31
          · refine own_by (fun _ k => XS.ifNo X26.here hx rfl (hb hby at_166) rfl ((if0 _ _).trans (feq (fun q => hc166_35 ((lw_eq _ _).mp q))).1) k) ?_
            show OEnds p e below s _ _ _ (T26.setTop (mkF m 169 #[.val (.long q0), .second, .val (.long q1), .second, .val (.long q2), .second, .val (.long q3), .second, .val (.int q4), .val (.int sel), .val (.int rem), .val (.long qy), .second, .val (.long rr), .second, .val (.int dr), .val (.ref nb2), .val (.ref nb7), .val (.int (1 : Int32)), .unset, .unset] []))
            refine own_by (fun _ k => XS.aload X26.here hx rfl (hb hby at_169) rfl rfl k) ?_
            show OEnds p e below s _ _ _ (T26.setTop (mkF m 171 #[.val (.long q0), .second, .val (.long q1), .second, .val (.long q2), .second, .val (.long q3), .second, .val (.int q4), .val (.int sel), .val (.int rem), .val (.long qy), .second, .val (.long rr), .second, .val (.int dr), .val (.ref nb2), .val (.ref nb7), .val (.int (1 : Int32)), .unset, .unset] [(.ref nb7)]))
            refine own_by (fun _ k => XS.iload X26.here hx rfl (hb hby at_171) rfl k) ?_
            show OEnds p e below s _ _ _ (T26.setTop (mkF m 173 #[.val (.long q0), .second, .val (.long q1), .second, .val (.long q2), .second, .val (.long q3), .second, .val (.int q4), .val (.int sel), .val (.int rem), .val (.long qy), .second, .val (.long rr), .second, .val (.int dr), .val (.ref nb2), .val (.ref nb7), .val (.int (1 : Int32)), .unset, .unset] [(.int (1 : Int32)), (.ref nb7)]))
            refine own_by (fun _ k => XS.lload X26.here hx rfl (hb hby at_173) rfl k) ?_
            show OEnds p e below s _ _ _ (T26.setTop (mkF m 175 #[.val (.long q0), .second, .val (.long q1), .second, .val (.long q2), .second, .val (.long q3), .second, .val (.int q4), .val (.int sel), .val (.int rem), .val (.long qy), .second, .val (.long rr), .second, .val (.int dr), .val (.ref nb2), .val (.ref nb7), .val (.int (1 : Int32)), .unset, .unset] [(.long q2), (.int (1 : Int32)), (.ref nb7)]))
            have O37 : Obj Z h26 nb2 "com/example/tristream/tristream/LongIndex" sch_li [(.ref kb6), (.ref sb6), (.int sf6), (.int z6)] := (O27.other W26 (Nat.ne_of_lt (Nat.lt_of_lt_of_le O6.lt (Nat.le_of_eq g7.symm))))
            have F38 : FA Z h26 kb6 .long kn6 (fun i => .long (kf6 i)) := (F28.other W26 (Nat.ne_of_lt (Nat.lt_of_lt_of_le Fk6.lt (Nat.le_of_eq g7.symm))))
            have F39 : FA Z h26 sb6 .int S6 (fun i => .int (sl6 i)) := (F29.other W26 (Nat.ne_of_lt (Nat.lt_of_lt_of_le Fs6.lt (Nat.le_of_eq g7.symm))))
            obtain ⟨T36, h36, X36, e36, W36, st36⟩ := own_lastore X26 hx hZ e26 F26 1 (by decide) (by decide) (g := (mkF m 175 #[.val (.long q0), .second, .val (.long q1), .second, .val (.long q2), .second, .val (.long q3), .second, .val (.int q4), .val (.int sel), .val (.int rem), .val (.long qy), .second, .val (.long rr), .second, .val (.int dr), .val (.ref nb2), .val (.ref nb7), .val (.int (1 : Int32)), .unset, .unset] [(.long q2), (.int (1 : Int32)), (.ref nb7)])) rfl rfl (hb hby at_175)
            refine own_by (st36) ?_
            have F36 : FA Z h36 nb7 .long 3 (fun i => .long ((updL (updL (fun _ => (0 : Int64)) 0 q0) 1 q2) i)) := F26.setL W36
            have N36 := Fr.snoc X36 N26 g_nb7
            have Z36 : n0 ≤ h36.size := Nat.le_trans Z26 (Keep.of_wr W36).1
            show OEnds p e below s _ _ _ (T36.setTop (mkF m 176 #[.val (.long q0), .second, .val (.long q1), .second, .val (.long q2), .second, .val (.long q3), .second, .val (.int q4), .val (.int sel), .val (.int rem), .val (.long qy), .second, .val (.long rr), .second, .val (.int dr), .val (.ref nb2), .val (.ref nb7), .val (.int (1 : Int32)), .unset, .unset] []))
            refine own_by (fun _ k => XS.iinc X36.here hx rfl (hb hby at_176) rfl (l' := #[.val (.long q0), .second, .val (.long q1), .second, .val (.long q2), .second, .val (.long q3), .second, .val (.int q4), .val (.int sel), .val (.int rem), .val (.long qy), .second, .val (.long rr), .second, .val (.int dr), .val (.ref nb2), .val (.ref nb7), .val (.int (2 : Int32)), .unset, .unset]) rfl k) ?_
            show OEnds p e below s _ _ _ (T36.setTop (mkF m 179 #[.val (.long q0), .second, .val (.long q1), .second, .val (.long q2), .second, .val (.long q3), .second, .val (.int q4), .val (.int sel), .val (.int rem), .val (.long qy), .second, .val (.long rr), .second, .val (.int dr), .val (.ref nb2), .val (.ref nb7), .val (.int (2 : Int32)), .unset, .unset] []))
            have e3 := ks_en hrel4 hrel5 hrel6 hc143_30 hc159_31
            have O40 : Obj Z h36 nb2 "com/example/tristream/tristream/LongIndex" sch_li [(.ref kb6), (.ref sb6), (.int sf6), (.int z6)] := (O37.other W36 (Nat.ne_of_lt (Nat.lt_of_lt_of_le O6.lt (Nat.le_of_eq g7.symm))))
            have F41 : FA Z h36 kb6 .long kn6 (fun i => .long (kf6 i)) := (F38.other W36 (Nat.ne_of_lt (Nat.lt_of_lt_of_le Fk6.lt (Nat.le_of_eq g7.symm))))
            have F42 : FA Z h36 sb6 .int S6 (fun i => .int (sl6 i)) := (F39.other W36 (Nat.ne_of_lt (Nat.lt_of_lt_of_le Fs6.lt (Nat.le_of_eq g7.symm))))
            exact bl179 T36 _ (2 : Int32) (updL (updL (fun _ => (0 : Int64)) 0 q0) 1 q2) h36 Z36 X36 e36 N36 O40 F41 F42 F36 (by rw [e3]; exact (by decide : (2 : Int32).toInt = ((2 : Nat) : Int))) (fv2 e3 (by rfl) (by rfl))
      · refine own_by (fun _ k => XS.ifNo X26.here hx rfl (hb hby at_143) rfl ((if0 _ _).trans (feq (fun q => hc143_30 ((lw_eq _ _).mp q))).1) k) ?_
        show OEnds p e below s _ _ _ (T26.setTop (mkF m 146 #[.val (.long q0), .second, .val (.long q1), .second, .val (.long q2), .second, .val (.long q3), .second, .val (.int q4), .val (.int sel), .val (.int rem), .val (.long qy), .second, .val (.long rr), .second, .val (.int dr), .val (.ref nb2), .val (.ref nb7), .val (.int (1 : Int32)), .unset, .unset] []))
        refine own_by (fun _ k => XS.aload X26.here hx rfl (hb hby at_146) rfl rfl k) ?_
        show OEnds p e below s _ _ _ (T26.setTop (mkF m 148 #[.val (.long q0), .second, .val (.long q1), .second, .val (.long q2), .second, .val (.long q3), .second, .val (.int q4), .val (.int sel), .val (.int rem), .val (.long qy), .second, .val (.long rr), .second, .val (.int dr), .val (.ref nb2), .val (.ref nb7), .val (.int (1 : Int32)), .unset, .unset] [(.ref nb7)]))
        refine own_by (fun _ k => XS.iload X26.here hx rfl (hb hby at_148) rfl k) ?_
        show OEnds p e below s _ _ _ (T26.setTop (mkF m 150 #[.val (.long q0), .second, .val (.long q1), .second, .val (.long q2), .second, .val (.long q3), .second, .val (.int q4), .val (.int sel), .val (.int rem), .val (.long qy), .second, .val (.long rr), .second, .val (.int dr), .val (.ref nb2), .val (.ref nb7), .val (.int (1 : Int32)), .unset, .unset] [(.int (1 : Int32)), (.ref nb7)]))
        refine own_by (fun _ k => XS.lloadN X26.here hx rfl (hb hby at_150) rfl k) ?_
        show OEnds p e below s _ _ _ (T26.setTop (mkF m 151 #[.val (.long q0), .second, .val (.long q1), .second, .val (.long q2), .second, .val (.long q3), .second, .val (.int q4), .val (.int sel), .val (.int rem), .val (.long qy), .second, .val (.long rr), .second, .val (.int dr), .val (.ref nb2), .val (.ref nb7), .val (.int (1 : Int32)), .unset, .unset] [(.long q1), (.int (1 : Int32)), (.ref nb7)]))
        have O44 : Obj Z h26 nb2 "com/example/tristream/tristream/LongIndex" sch_li [(.ref kb6), (.ref sb6), (.int sf6), (.int z6)] := (O27.other W26 (Nat.ne_of_lt (Nat.lt_of_lt_of_le O6.lt (Nat.le_of_eq g7.symm))))
        have F45 : FA Z h26 kb6 .long kn6 (fun i => .long (kf6 i)) := (F28.other W26 (Nat.ne_of_lt (Nat.lt_of_lt_of_le Fk6.lt (Nat.le_of_eq g7.symm))))
        have F46 : FA Z h26 sb6 .int S6 (fun i => .int (sl6 i)) := (F29.other W26 (Nat.ne_of_lt (Nat.lt_of_lt_of_le Fs6.lt (Nat.le_of_eq g7.symm))))
        obtain ⟨T43, h43, X43, e43, W43, st43⟩ := own_lastore X26 hx hZ e26 F26 1 (by decide) (by decide) (g := (mkF m 151 #[.val (.long q0), .second, .val (.long q1), .second, .val (.long q2), .second, .val (.long q3), .second, .val (.int q4), .val (.int sel), .val (.int rem), .val (.long qy), .second, .val (.long rr), .second, .val (.int dr), .val (.ref nb2), .val (.ref nb7), .val (.int (1 : Int32)), .unset, .unset] [(.long q1), (.int (1 : Int32)), (.ref nb7)])) rfl rfl (hb hby at_151)
        refine own_by (st43) ?_
        have F43 : FA Z h43 nb7 .long 3 (fun i => .long ((updL (updL (fun _ => (0 : Int64)) 0 q0) 1 q1) i)) := F26.setL W43
        have N43 := Fr.snoc X43 N26 g_nb7
        have Z43 : n0 ≤ h43.size := Nat.le_trans Z26 (Keep.of_wr W43).1
        show OEnds p e below s _ _ _ (T43.setTop (mkF m 152 #[.val (.long q0), .second, .val (.long q1), .second, .val (.long q2), .second, .val (.long q3), .second, .val (.int q4), .val (.int sel), .val (.int rem), .val (.long qy), .second, .val (.long rr), .second, .val (.int dr), .val (.ref nb2), .val (.ref nb7), .val (.int (1 : Int32)), .unset, .unset] []))
        refine own_by (fun _ k => XS.iinc X43.here hx rfl (hb hby at_152) rfl (l' := #[.val (.long q0), .second, .val (.long q1), .second, .val (.long q2), .second, .val (.long q3), .second, .val (.int q4), .val (.int sel), .val (.int rem), .val (.long qy), .second, .val (.long rr), .second, .val (.int dr), .val (.ref nb2), .val (.ref nb7), .val (.int (2 : Int32)), .unset, .unset]) rfl k) ?_
        show OEnds p e below s _ _ _ (T43.setTop (mkF m 155 #[.val (.long q0), .second, .val (.long q1), .second, .val (.long q2), .second, .val (.long q3), .second, .val (.int q4), .val (.int sel), .val (.int rem), .val (.long qy), .second, .val (.long rr), .second, .val (.int dr), .val (.ref nb2), .val (.ref nb7), .val (.int (2 : Int32)), .unset, .unset] []))
        refine own_by (fun _ k => XS.lload X43.here hx rfl (hb hby at_155) rfl k) ?_
        show OEnds p e below s _ _ _ (T43.setTop (mkF m 157 #[.val (.long q0), .second, .val (.long q1), .second, .val (.long q2), .second, .val (.long q3), .second, .val (.int q4), .val (.int sel), .val (.int rem), .val (.long qy), .second, .val (.long rr), .second, .val (.int dr), .val (.ref nb2), .val (.ref nb7), .val (.int (2 : Int32)), .unset, .unset] [(.long q2)]))
        refine own_by (fun _ k => XS.lloadN X43.here hx rfl (hb hby at_157) rfl k) ?_
        show OEnds p e below s _ _ _ (T43.setTop (mkF m 158 #[.val (.long q0), .second, .val (.long q1), .second, .val (.long q2), .second, .val (.long q3), .second, .val (.int q4), .val (.int sel), .val (.int rem), .val (.long qy), .second, .val (.long rr), .second, .val (.int dr), .val (.ref nb2), .val (.ref nb7), .val (.int (2 : Int32)), .unset, .unset] [(.long q0), (.long q2)]))
        refine own_by (fun _ k => XS.lcmp X43.here hx rfl (hb hby at_158) rfl k) ?_
        show OEnds p e below s _ _ _ (T43.setTop (mkF m 159 #[.val (.long q0), .second, .val (.long q1), .second, .val (.long q2), .second, .val (.long q3), .second, .val (.int q4), .val (.int sel), .val (.int rem), .val (.long qy), .second, .val (.long rr), .second, .val (.int dr), .val (.ref nb2), .val (.ref nb7), .val (.int (2 : Int32)), .unset, .unset] [(.int (lcmpW q2 q0))]))
        by_cases hc159_47 : q2 = q0
        · refine own_by (fun _ k => XS.ifYes X43.here hx rfl (pc0 := 159) (pc' := 179) rfl (hb hby at_159) rfl ((if0 _ _).trans (teq ((lw_eq _ _).mpr hc159_47)).1) (by decide) (by decide) k) ?_
          show OEnds p e below s _ _ _ (T43.setTop (mkF m 179 #[.val (.long q0), .second, .val (.long q1), .second, .val (.long q2), .second, .val (.long q3), .second, .val (.int q4), .val (.int sel), .val (.int rem), .val (.long qy), .second, .val (.long rr), .second, .val (.int dr), .val (.ref nb2), .val (.ref nb7), .val (.int (2 : Int32)), .unset, .unset] []))
          have e3 := ks_ne hrel4 hrel5 hrel6 hc143_30 (Or.inl hc159_47)
          have O48 : Obj Z h43 nb2 "com/example/tristream/tristream/LongIndex" sch_li [(.ref kb6), (.ref sb6), (.int sf6), (.int z6)] := (O44.other W43 (Nat.ne_of_lt (Nat.lt_of_lt_of_le O6.lt (Nat.le_of_eq g7.symm))))
          have F49 : FA Z h43 kb6 .long kn6 (fun i => .long (kf6 i)) := (F45.other W43 (Nat.ne_of_lt (Nat.lt_of_lt_of_le Fk6.lt (Nat.le_of_eq g7.symm))))
          have F50 : FA Z h43 sb6 .int S6 (fun i => .int (sl6 i)) := (F46.other W43 (Nat.ne_of_lt (Nat.lt_of_lt_of_le Fs6.lt (Nat.le_of_eq g7.symm))))
          exact bl179 T43 _ (2 : Int32) (updL (updL (fun _ => (0 : Int64)) 0 q0) 1 q1) h43 Z43 X43 e43 N43 O48 F49 F50 F43 (by rw [e3]; exact (by decide : (2 : Int32).toInt = ((2 : Nat) : Int))) (fv2 e3 (by rfl) (by rfl))
        · refine own_by (fun _ k => XS.ifNo X43.here hx rfl (hb hby at_159) rfl ((if0 _ _).trans (feq (fun q => hc159_47 ((lw_eq _ _).mp q))).1) k) ?_
          show OEnds p e below s _ _ _ (T43.setTop (mkF m 162 #[.val (.long q0), .second, .val (.long q1), .second, .val (.long q2), .second, .val (.long q3), .second, .val (.int q4), .val (.int sel), .val (.int rem), .val (.long qy), .second, .val (.long rr), .second, .val (.int dr), .val (.ref nb2), .val (.ref nb7), .val (.int (2 : Int32)), .unset, .unset] []))
          refine own_by (fun _ k => XS.lload X43.here hx rfl (hb hby at_162) rfl k) ?_
          show OEnds p e below s _ _ _ (T43.setTop (mkF m 164 #[.val (.long q0), .second, .val (.long q1), .second, .val (.long q2), .second, .val (.long q3), .second, .val (.int q4), .val (.int sel), .val (.int rem), .val (.long qy), .second, .val (.long rr), .second, .val (.int dr), .val (.ref nb2), .val (.ref nb7), .val (.int (2 : Int32)), .unset, .unset] [(.long q2)]))
          refine own_by (fun _ k => XS.lloadN X43.here hx rfl (hb hby at_164) rfl k) ?_
          show OEnds p e below s _ _ _ (T43.setTop (mkF m 165 #[.val (.long q0), .second, .val (.long q1), .second, .val (.long q2), .second, .val (.long q3), .second, .val (.int q4), .val (.int sel), .val (.int rem), .val (.long qy), .second, .val (.long rr), .second, .val (.int dr), .val (.ref nb2), .val (.ref nb7), .val (.int (2 : Int32)), .unset, .unset] [(.long q1), (.long q2)]))
          refine own_by (fun _ k => XS.lcmp X43.here hx rfl (hb hby at_165) rfl k) ?_
          show OEnds p e below s _ _ _ (T43.setTop (mkF m 166 #[.val (.long q0), .second, .val (.long q1), .second, .val (.long q2), .second, .val (.long q3), .second, .val (.int q4), .val (.int sel), .val (.int rem), .val (.long qy), .second, .val (.long rr), .second, .val (.int dr), .val (.ref nb2), .val (.ref nb7), .val (.int (2 : Int32)), .unset, .unset] [(.int (lcmpW q2 q1))]))
          by_cases hc166_51 : q2 = q1
          · refine own_by (fun _ k => XS.ifYes X43.here hx rfl (pc0 := 166) (pc' := 179) rfl (hb hby at_166) rfl ((if0 _ _).trans (teq ((lw_eq _ _).mpr hc166_51)).1) (by decide) (by decide) k) ?_
            show OEnds p e below s _ _ _ (T43.setTop (mkF m 179 #[.val (.long q0), .second, .val (.long q1), .second, .val (.long q2), .second, .val (.long q3), .second, .val (.int q4), .val (.int sel), .val (.int rem), .val (.long qy), .second, .val (.long rr), .second, .val (.int dr), .val (.ref nb2), .val (.ref nb7), .val (.int (2 : Int32)), .unset, .unset] []))
            have e3 := ks_ne hrel4 hrel5 hrel6 hc143_30 (Or.inr hc166_51)
            have O52 : Obj Z h43 nb2 "com/example/tristream/tristream/LongIndex" sch_li [(.ref kb6), (.ref sb6), (.int sf6), (.int z6)] := (O44.other W43 (Nat.ne_of_lt (Nat.lt_of_lt_of_le O6.lt (Nat.le_of_eq g7.symm))))
            have F53 : FA Z h43 kb6 .long kn6 (fun i => .long (kf6 i)) := (F45.other W43 (Nat.ne_of_lt (Nat.lt_of_lt_of_le Fk6.lt (Nat.le_of_eq g7.symm))))
            have F54 : FA Z h43 sb6 .int S6 (fun i => .int (sl6 i)) := (F46.other W43 (Nat.ne_of_lt (Nat.lt_of_lt_of_le Fs6.lt (Nat.le_of_eq g7.symm))))
            exact bl179 T43 _ (2 : Int32) (updL (updL (fun _ => (0 : Int64)) 0 q0) 1 q1) h43 Z43 X43 e43 N43 O52 F53 F54 F43 (by rw [e3]; exact (by decide : (2 : Int32).toInt = ((2 : Nat) : Int))) (fv2 e3 (by rfl) (by rfl))
          · refine own_by (fun _ k => XS.ifNo X43.here hx rfl (hb hby at_166) rfl ((if0 _ _).trans (feq (fun q => hc166_51 ((lw_eq _ _).mp q))).1) k) ?_
            show OEnds p e below s _ _ _ (T43.setTop (mkF m 169 #[.val (.long q0), .second, .val (.long q1), .second, .val (.long q2), .second, .val (.long q3), .second, .val (.int q4), .val (.int sel), .val (.int rem), .val (.long qy), .second, .val (.long rr), .second, .val (.int dr), .val (.ref nb2), .val (.ref nb7), .val (.int (2 : Int32)), .unset, .unset] []))
            refine own_by (fun _ k => XS.aload X43.here hx rfl (hb hby at_169) rfl rfl k) ?_
            show OEnds p e below s _ _ _ (T43.setTop (mkF m 171 #[.val (.long q0), .second, .val (.long q1), .second, .val (.long q2), .second, .val (.long q3), .second, .val (.int q4), .val (.int sel), .val (.int rem), .val (.long qy), .second, .val (.long rr), .second, .val (.int dr), .val (.ref nb2), .val (.ref nb7), .val (.int (2 : Int32)), .unset, .unset] [(.ref nb7)]))
            refine own_by (fun _ k => XS.iload X43.here hx rfl (hb hby at_171) rfl k) ?_
            show OEnds p e below s _ _ _ (T43.setTop (mkF m 173 #[.val (.long q0), .second, .val (.long q1), .second, .val (.long q2), .second, .val (.long q3), .second, .val (.int q4), .val (.int sel), .val (.int rem), .val (.long qy), .second, .val (.long rr), .second, .val (.int dr), .val (.ref nb2), .val (.ref nb7), .val (.int (2 : Int32)), .unset, .unset] [(.int (2 : Int32)), (.ref nb7)]))
            refine own_by (fun _ k => XS.lload X43.here hx rfl (hb hby at_173) rfl k) ?_
            show OEnds p e below s _ _ _ (T43.setTop (mkF m 175 #[.val (.long q0), .second, .val (.long q1), .second, .val (.long q2), .second, .val (.long q3), .second, .val (.int q4), .val (.int sel), .val (.int rem), .val (.long qy), .second, .val (.long rr), .second, .val (.int dr), .val (.ref nb2), .val (.ref nb7), .val (.int (2 : Int32)), .unset, .unset] [(.long q2), (.int (2 : Int32)), (.ref nb7)]))
            have O56 : Obj Z h43 nb2 "com/example/tristream/tristream/LongIndex" sch_li [(.ref kb6), (.ref sb6), (.int sf6), (.int z6)] := (O44.other W43 (Nat.ne_of_lt (Nat.lt_of_lt_of_le O6.lt (Nat.le_of_eq g7.symm))))
            have F57 : FA Z h43 kb6 .long kn6 (fun i => .long (kf6 i)) := (F45.other W43 (Nat.ne_of_lt (Nat.lt_of_lt_of_le Fk6.lt (Nat.le_of_eq g7.symm))))
            have F58 : FA Z h43 sb6 .int S6 (fun i => .int (sl6 i)) := (F46.other W43 (Nat.ne_of_lt (Nat.lt_of_lt_of_le Fs6.lt (Nat.le_of_eq g7.symm))))
            obtain ⟨T55, h55, X55, e55, W55, st55⟩ := own_lastore X43 hx hZ e43 F43 2 (by decide) (by decide) (g := (mkF m 175 #[.val (.long q0), .second, .val (.long q1), .second, .val (.long q2), .second, .val (.long q3), .second, .val (.int q4), .val (.int sel), .val (.int rem), .val (.long qy), .second, .val (.long rr), .second, .val (.int dr), .val (.ref nb2), .val (.ref nb7), .val (.int (2 : Int32)), .unset, .unset] [(.long q2), (.int (2 : Int32)), (.ref nb7)])) rfl rfl (hb hby at_175)
            refine own_by (st55) ?_
            have F55 : FA Z h55 nb7 .long 3 (fun i => .long ((updL (updL (updL (fun _ => (0 : Int64)) 0 q0) 1 q1) 2 q2) i)) := F43.setL W55
            have N55 := Fr.snoc X55 N43 g_nb7
            have Z55 : n0 ≤ h55.size := Nat.le_trans Z43 (Keep.of_wr W55).1
            show OEnds p e below s _ _ _ (T55.setTop (mkF m 176 #[.val (.long q0), .second, .val (.long q1), .second, .val (.long q2), .second, .val (.long q3), .second, .val (.int q4), .val (.int sel), .val (.int rem), .val (.long qy), .second, .val (.long rr), .second, .val (.int dr), .val (.ref nb2), .val (.ref nb7), .val (.int (2 : Int32)), .unset, .unset] []))
            refine own_by (fun _ k => XS.iinc X55.here hx rfl (hb hby at_176) rfl (l' := #[.val (.long q0), .second, .val (.long q1), .second, .val (.long q2), .second, .val (.long q3), .second, .val (.int q4), .val (.int sel), .val (.int rem), .val (.long qy), .second, .val (.long rr), .second, .val (.int dr), .val (.ref nb2), .val (.ref nb7), .val (.int (3 : Int32)), .unset, .unset]) rfl k) ?_
            show OEnds p e below s _ _ _ (T55.setTop (mkF m 179 #[.val (.long q0), .second, .val (.long q1), .second, .val (.long q2), .second, .val (.long q3), .second, .val (.int q4), .val (.int sel), .val (.int rem), .val (.long qy), .second, .val (.long rr), .second, .val (.int dr), .val (.ref nb2), .val (.ref nb7), .val (.int (3 : Int32)), .unset, .unset] []))
            have e3 := ks_nn hrel4 hrel5 hrel6 hc143_30 hc159_47 hc166_51
            have O59 : Obj Z h55 nb2 "com/example/tristream/tristream/LongIndex" sch_li [(.ref kb6), (.ref sb6), (.int sf6), (.int z6)] := (O56.other W55 (Nat.ne_of_lt (Nat.lt_of_lt_of_le O6.lt (Nat.le_of_eq g7.symm))))
            have F60 : FA Z h55 kb6 .long kn6 (fun i => .long (kf6 i)) := (F57.other W55 (Nat.ne_of_lt (Nat.lt_of_lt_of_le Fk6.lt (Nat.le_of_eq g7.symm))))
            have F61 : FA Z h55 sb6 .int S6 (fun i => .int (sl6 i)) := (F58.other W55 (Nat.ne_of_lt (Nat.lt_of_lt_of_le Fs6.lt (Nat.le_of_eq g7.symm))))
            exact bl179 T55 _ (3 : Int32) (updL (updL (updL (fun _ => (0 : Int64)) 0 q0) 1 q1) 2 q2) h55 Z55 X55 e55 N55 O59 F60 F61 F55 (by rw [e3]; exact (by decide : (3 : Int32).toInt = ((3 : Nat) : Int))) (fv3 e3 (by rfl) (by rfl) (by rfl))
    show OEnds p e below s _ _ _ (T.setTop (mkF m 49 #[.val (.long q0), .second, .val (.long q1), .second, .val (.long q2), .second, .val (.long q3), .second, .val (.int q4), .val (.int sel), .val (.int rem), .val (.long qy), .second, .unset, .unset, .unset, .unset, .unset, .unset, .unset, .unset] []))
    refine own_by (fun _ k => XS.iload X_bl49.here hx rfl (hb hby at_49) rfl k) ?_
    show OEnds p e below s _ _ _ (T.setTop (mkF m 51 #[.val (.long q0), .second, .val (.long q1), .second, .val (.long q2), .second, .val (.long q3), .second, .val (.int q4), .val (.int sel), .val (.int rem), .val (.long qy), .second, .unset, .unset, .unset, .unset, .unset, .unset, .unset, .unset] [(.int rem)]))
    by_cases hc51_62 : rem = (0 : Int32)
    · refine own_by (fun _ k => XS.ifNo X_bl49.here hx rfl (hb hby at_51) rfl ((if0 _ _).trans (teq hc51_62).2) k) ?_
      show OEnds p e below s _ _ _ (T.setTop (mkF m 54 #[.val (.long q0), .second, .val (.long q1), .second, .val (.long q2), .second, .val (.long q3), .second, .val (.int q4), .val (.int sel), .val (.int rem), .val (.long qy), .second, .unset, .unset, .unset, .unset, .unset, .unset, .unset, .unset] []))
      refine own_by (fun _ k => XS.lloadN X_bl49.here hx rfl (hb hby at_54) rfl k) ?_
      show OEnds p e below s _ _ _ (T.setTop (mkF m 55 #[.val (.long q0), .second, .val (.long q1), .second, .val (.long q2), .second, .val (.long q3), .second, .val (.int q4), .val (.int sel), .val (.int rem), .val (.long qy), .second, .unset, .unset, .unset, .unset, .unset, .unset, .unset, .unset] [(.long q0)]))
      refine own_by (fun _ k => XS.goto X_bl49.here hx rfl (pc0 := 55) (pc' := 81) rfl (hb hby at_55) (by decide) (by decide) k) ?_
      show OEnds p e below s _ _ _ (T.setTop (mkF m 81 #[.val (.long q0), .second, .val (.long q1), .second, .val (.long q2), .second, .val (.long q3), .second, .val (.int q4), .val (.int sel), .val (.int rem), .val (.long qy), .second, .unset, .unset, .unset, .unset, .unset, .unset, .unset, .unset] [(.long q0)]))
      refine own_by (fun _ k => XS.lstore X_bl49.here hx rfl (hb hby at_81) rfl (l' := #[.val (.long q0), .second, .val (.long q1), .second, .val (.long q2), .second, .val (.long q3), .second, .val (.int q4), .val (.int sel), .val (.int rem), .val (.long qy), .second, .val (.long q0), .second, .unset, .unset, .unset, .unset, .unset, .unset]) rfl k) ?_
      show OEnds p e below s _ _ _ (T.setTop (mkF m 83 #[.val (.long q0), .second, .val (.long q1), .second, .val (.long q2), .second, .val (.long q3), .second, .val (.int q4), .val (.int sel), .val (.int rem), .val (.long qy), .second, .val (.long q0), .second, .unset, .unset, .unset, .unset, .unset, .unset] []))
      exact bl83 T _ q0 X_bl49 e_bl49 N_bl49
    · refine own_by (fun _ k => XS.ifYes X_bl49.here hx rfl (pc0 := 51) (pc' := 58) rfl (hb hby at_51) rfl ((if0 _ _).trans (feq hc51_62).2) (by decide) (by decide) k) ?_
      show OEnds p e below s _ _ _ (T.setTop (mkF m 58 #[.val (.long q0), .second, .val (.long q1), .second, .val (.long q2), .second, .val (.long q3), .second, .val (.int q4), .val (.int sel), .val (.int rem), .val (.long qy), .second, .unset, .unset, .unset, .unset, .unset, .unset, .unset, .unset] []))
      refine own_by (fun _ k => XS.iload X_bl49.here hx rfl (hb hby at_58) rfl k) ?_
      show OEnds p e below s _ _ _ (T.setTop (mkF m 60 #[.val (.long q0), .second, .val (.long q1), .second, .val (.long q2), .second, .val (.long q3), .second, .val (.int q4), .val (.int sel), .val (.int rem), .val (.long qy), .second, .unset, .unset, .unset, .unset, .unset, .unset, .unset, .unset] [(.int rem)]))
      refine own_by (fun _ k => XS.iconst X_bl49.here hx rfl (hb hby at_60) k) ?_
      show OEnds p e below s _ _ _ (T.setTop (mkF m 61 #[.val (.long q0), .second, .val (.long q1), .second, .val (.long q2), .second, .val (.long q3), .second, .val (.int q4), .val (.int sel), .val (.int rem), .val (.long qy), .second, .unset, .unset, .unset, .unset, .unset, .unset, .unset, .unset] [(.int (1 : Int32)), (.int rem)]))
      by_cases hc61_63 : rem = (1 : Int32)
      · refine own_by (fun _ k => XS.icmpNo X_bl49.here hx rfl (hb hby at_61) rfl (teq hc61_63).2 k) ?_
        show OEnds p e below s _ _ _ (T.setTop (mkF m 64 #[.val (.long q0), .second, .val (.long q1), .second, .val (.long q2), .second, .val (.long q3), .second, .val (.int q4), .val (.int sel), .val (.int rem), .val (.long qy), .second, .unset, .unset, .unset, .unset, .unset, .unset, .unset, .unset] []))
        refine own_by (fun _ k => XS.lloadN X_bl49.here hx rfl (hb hby at_64) rfl k) ?_
        show OEnds p e below s _ _ _ (T.setTop (mkF m 65 #[.val (.long q0), .second, .val (.long q1), .second, .val (.long q2), .second, .val (.long q3), .second, .val (.int q4), .val (.int sel), .val (.int rem), .val (.long qy), .second, .unset, .unset, .unset, .unset, .unset, .unset, .unset, .unset] [(.long q1)]))
        refine own_by (fun _ k => XS.goto X_bl49.here hx rfl (pc0 := 65) (pc' := 81) rfl (hb hby at_65) (by decide) (by decide) k) ?_
        show OEnds p e below s _ _ _ (T.setTop (mkF m 81 #[.val (.long q0), .second, .val (.long q1), .second, .val (.long q2), .second, .val (.long q3), .second, .val (.int q4), .val (.int sel), .val (.int rem), .val (.long qy), .second, .unset, .unset, .unset, .unset, .unset, .unset, .unset, .unset] [(.long q1)]))
        refine own_by (fun _ k => XS.lstore X_bl49.here hx rfl (hb hby at_81) rfl (l' := #[.val (.long q0), .second, .val (.long q1), .second, .val (.long q2), .second, .val (.long q3), .second, .val (.int q4), .val (.int sel), .val (.int rem), .val (.long qy), .second, .val (.long q1), .second, .unset, .unset, .unset, .unset, .unset, .unset]) rfl k) ?_
        show OEnds p e below s _ _ _ (T.setTop (mkF m 83 #[.val (.long q0), .second, .val (.long q1), .second, .val (.long q2), .second, .val (.long q3), .second, .val (.int q4), .val (.int sel), .val (.int rem), .val (.long qy), .second, .val (.long q1), .second, .unset, .unset, .unset, .unset, .unset, .unset] []))
        exact bl83 T _ q1 X_bl49 e_bl49 N_bl49
      · refine own_by (fun _ k => XS.icmpYes X_bl49.here hx rfl (pc0 := 61) (pc' := 68) rfl (hb hby at_61) rfl (feq hc61_63).2 (by decide) (by decide) k) ?_
        show OEnds p e below s _ _ _ (T.setTop (mkF m 68 #[.val (.long q0), .second, .val (.long q1), .second, .val (.long q2), .second, .val (.long q3), .second, .val (.int q4), .val (.int sel), .val (.int rem), .val (.long qy), .second, .unset, .unset, .unset, .unset, .unset, .unset, .unset, .unset] []))
        refine own_by (fun _ k => XS.iload X_bl49.here hx rfl (hb hby at_68) rfl k) ?_
        show OEnds p e below s _ _ _ (T.setTop (mkF m 70 #[.val (.long q0), .second, .val (.long q1), .second, .val (.long q2), .second, .val (.long q3), .second, .val (.int q4), .val (.int sel), .val (.int rem), .val (.long qy), .second, .unset, .unset, .unset, .unset, .unset, .unset, .unset, .unset] [(.int rem)]))
        refine own_by (fun _ k => XS.iconst X_bl49.here hx rfl (hb hby at_70) k) ?_
        show OEnds p e below s _ _ _ (T.setTop (mkF m 71 #[.val (.long q0), .second, .val (.long q1), .second, .val (.long q2), .second, .val (.long q3), .second, .val (.int q4), .val (.int sel), .val (.int rem), .val (.long qy), .second, .unset, .unset, .unset, .unset, .unset, .unset, .unset, .unset] [(.int (2 : Int32)), (.int rem)]))
        by_cases hc71_64 : rem = (2 : Int32)
        · refine own_by (fun _ k => XS.icmpNo X_bl49.here hx rfl (hb hby at_71) rfl (teq hc71_64).2 k) ?_
          show OEnds p e below s _ _ _ (T.setTop (mkF m 74 #[.val (.long q0), .second, .val (.long q1), .second, .val (.long q2), .second, .val (.long q3), .second, .val (.int q4), .val (.int sel), .val (.int rem), .val (.long qy), .second, .unset, .unset, .unset, .unset, .unset, .unset, .unset, .unset] []))
          refine own_by (fun _ k => XS.lload X_bl49.here hx rfl (hb hby at_74) rfl k) ?_
          show OEnds p e below s _ _ _ (T.setTop (mkF m 76 #[.val (.long q0), .second, .val (.long q1), .second, .val (.long q2), .second, .val (.long q3), .second, .val (.int q4), .val (.int sel), .val (.int rem), .val (.long qy), .second, .unset, .unset, .unset, .unset, .unset, .unset, .unset, .unset] [(.long q2)]))
          refine own_by (fun _ k => XS.goto X_bl49.here hx rfl (pc0 := 76) (pc' := 81) rfl (hb hby at_76) (by decide) (by decide) k) ?_
          show OEnds p e below s _ _ _ (T.setTop (mkF m 81 #[.val (.long q0), .second, .val (.long q1), .second, .val (.long q2), .second, .val (.long q3), .second, .val (.int q4), .val (.int sel), .val (.int rem), .val (.long qy), .second, .unset, .unset, .unset, .unset, .unset, .unset, .unset, .unset] [(.long q2)]))
          refine own_by (fun _ k => XS.lstore X_bl49.here hx rfl (hb hby at_81) rfl (l' := #[.val (.long q0), .second, .val (.long q1), .second, .val (.long q2), .second, .val (.long q3), .second, .val (.int q4), .val (.int sel), .val (.int rem), .val (.long qy), .second, .val (.long q2), .second, .unset, .unset, .unset, .unset, .unset, .unset]) rfl k) ?_
          show OEnds p e below s _ _ _ (T.setTop (mkF m 83 #[.val (.long q0), .second, .val (.long q1), .second, .val (.long q2), .second, .val (.long q3), .second, .val (.int q4), .val (.int sel), .val (.int rem), .val (.long qy), .second, .val (.long q2), .second, .unset, .unset, .unset, .unset, .unset, .unset] []))
          exact bl83 T _ q2 X_bl49 e_bl49 N_bl49
        · refine own_by (fun _ k => XS.icmpYes X_bl49.here hx rfl (pc0 := 71) (pc' := 79) rfl (hb hby at_71) rfl (feq hc71_64).2 (by decide) (by decide) k) ?_
          show OEnds p e below s _ _ _ (T.setTop (mkF m 79 #[.val (.long q0), .second, .val (.long q1), .second, .val (.long q2), .second, .val (.long q3), .second, .val (.int q4), .val (.int sel), .val (.int rem), .val (.long qy), .second, .unset, .unset, .unset, .unset, .unset, .unset, .unset, .unset] []))
          refine own_by (fun _ k => XS.lload X_bl49.here hx rfl (hb hby at_79) rfl k) ?_
          show OEnds p e below s _ _ _ (T.setTop (mkF m 81 #[.val (.long q0), .second, .val (.long q1), .second, .val (.long q2), .second, .val (.long q3), .second, .val (.int q4), .val (.int sel), .val (.int rem), .val (.long qy), .second, .unset, .unset, .unset, .unset, .unset, .unset, .unset, .unset] [(.long q3)]))
          refine own_by (fun _ k => XS.lstore X_bl49.here hx rfl (hb hby at_81) rfl (l' := #[.val (.long q0), .second, .val (.long q1), .second, .val (.long q2), .second, .val (.long q3), .second, .val (.int q4), .val (.int sel), .val (.int rem), .val (.long qy), .second, .val (.long q3), .second, .unset, .unset, .unset, .unset, .unset, .unset]) rfl k) ?_
          show OEnds p e below s _ _ _ (T.setTop (mkF m 83 #[.val (.long q0), .second, .val (.long q1), .second, .val (.long q2), .second, .val (.long q3), .second, .val (.int q4), .val (.int sel), .val (.int rem), .val (.long qy), .second, .val (.long q3), .second, .unset, .unset, .unset, .unset, .unset, .unset] []))
          exact bl83 T _ q3 X_bl49 e_bl49 N_bl49
  show OEnds p e below s _ _ _ (s₁.setTop (mkF m 15 #[.val (.long q0), .second, .val (.long q1), .second, .val (.long q2), .second, .val (.long q3), .second, .val (.int q4), .val (.int sel), .val (.int rem), .unset, .unset, .unset, .unset, .unset, .unset, .unset, .unset, .unset, .unset] []))
  refine own_by (fun _ k => XS.iload X0.here hx rfl (hb hby at_15) rfl k) ?_
  show OEnds p e below s _ _ _ (s₁.setTop (mkF m 17 #[.val (.long q0), .second, .val (.long q1), .second, .val (.long q2), .second, .val (.long q3), .second, .val (.int q4), .val (.int sel), .val (.int rem), .unset, .unset, .unset, .unset, .unset, .unset, .unset, .unset, .unset, .unset] [(.int sel)]))
  by_cases hc17_65 : sel = (0 : Int32)
  · refine own_by (fun _ k => XS.ifNo X0.here hx rfl (hb hby at_17) rfl ((if0 _ _).trans (teq hc17_65).2) k) ?_
    show OEnds p e below s _ _ _ (s₁.setTop (mkF m 20 #[.val (.long q0), .second, .val (.long q1), .second, .val (.long q2), .second, .val (.long q3), .second, .val (.int q4), .val (.int sel), .val (.int rem), .unset, .unset, .unset, .unset, .unset, .unset, .unset, .unset, .unset, .unset] []))
    refine own_by (fun _ k => XS.lloadN X0.here hx rfl (hb hby at_20) rfl k) ?_
    show OEnds p e below s _ _ _ (s₁.setTop (mkF m 21 #[.val (.long q0), .second, .val (.long q1), .second, .val (.long q2), .second, .val (.long q3), .second, .val (.int q4), .val (.int sel), .val (.int rem), .unset, .unset, .unset, .unset, .unset, .unset, .unset, .unset, .unset, .unset] [(.long q0)]))
    refine own_by (fun _ k => XS.goto X0.here hx rfl (pc0 := 21) (pc' := 47) rfl (hb hby at_21) (by decide) (by decide) k) ?_
    show OEnds p e below s _ _ _ (s₁.setTop (mkF m 47 #[.val (.long q0), .second, .val (.long q1), .second, .val (.long q2), .second, .val (.long q3), .second, .val (.int q4), .val (.int sel), .val (.int rem), .unset, .unset, .unset, .unset, .unset, .unset, .unset, .unset, .unset, .unset] [(.long q0)]))
    refine own_by (fun _ k => XS.lstore X0.here hx rfl (hb hby at_47) rfl (l' := #[.val (.long q0), .second, .val (.long q1), .second, .val (.long q2), .second, .val (.long q3), .second, .val (.int q4), .val (.int sel), .val (.int rem), .val (.long q0), .second, .unset, .unset, .unset, .unset, .unset, .unset, .unset, .unset]) rfl k) ?_
    show OEnds p e below s _ _ _ (s₁.setTop (mkF m 49 #[.val (.long q0), .second, .val (.long q1), .second, .val (.long q2), .second, .val (.long q3), .second, .val (.int q4), .val (.int sel), .val (.int rem), .val (.long q0), .second, .unset, .unset, .unset, .unset, .unset, .unset, .unset, .unset] []))
    exact bl49 s₁ _ q0 X0 e0 N0
  · refine own_by (fun _ k => XS.ifYes X0.here hx rfl (pc0 := 17) (pc' := 24) rfl (hb hby at_17) rfl ((if0 _ _).trans (feq hc17_65).2) (by decide) (by decide) k) ?_
    show OEnds p e below s _ _ _ (s₁.setTop (mkF m 24 #[.val (.long q0), .second, .val (.long q1), .second, .val (.long q2), .second, .val (.long q3), .second, .val (.int q4), .val (.int sel), .val (.int rem), .unset, .unset, .unset, .unset, .unset, .unset, .unset, .unset, .unset, .unset] []))
    refine own_by (fun _ k => XS.iload X0.here hx rfl (hb hby at_24) rfl k) ?_
    show OEnds p e below s _ _ _ (s₁.setTop (mkF m 26 #[.val (.long q0), .second, .val (.long q1), .second, .val (.long q2), .second, .val (.long q3), .second, .val (.int q4), .val (.int sel), .val (.int rem), .unset, .unset, .unset, .unset, .unset, .unset, .unset, .unset, .unset, .unset] [(.int sel)]))
    refine own_by (fun _ k => XS.iconst X0.here hx rfl (hb hby at_26) k) ?_
    show OEnds p e below s _ _ _ (s₁.setTop (mkF m 27 #[.val (.long q0), .second, .val (.long q1), .second, .val (.long q2), .second, .val (.long q3), .second, .val (.int q4), .val (.int sel), .val (.int rem), .unset, .unset, .unset, .unset, .unset, .unset, .unset, .unset, .unset, .unset] [(.int (1 : Int32)), (.int sel)]))
    by_cases hc27_66 : sel = (1 : Int32)
    · refine own_by (fun _ k => XS.icmpNo X0.here hx rfl (hb hby at_27) rfl (teq hc27_66).2 k) ?_
      show OEnds p e below s _ _ _ (s₁.setTop (mkF m 30 #[.val (.long q0), .second, .val (.long q1), .second, .val (.long q2), .second, .val (.long q3), .second, .val (.int q4), .val (.int sel), .val (.int rem), .unset, .unset, .unset, .unset, .unset, .unset, .unset, .unset, .unset, .unset] []))
      refine own_by (fun _ k => XS.lloadN X0.here hx rfl (hb hby at_30) rfl k) ?_
      show OEnds p e below s _ _ _ (s₁.setTop (mkF m 31 #[.val (.long q0), .second, .val (.long q1), .second, .val (.long q2), .second, .val (.long q3), .second, .val (.int q4), .val (.int sel), .val (.int rem), .unset, .unset, .unset, .unset, .unset, .unset, .unset, .unset, .unset, .unset] [(.long q1)]))
      refine own_by (fun _ k => XS.goto X0.here hx rfl (pc0 := 31) (pc' := 47) rfl (hb hby at_31) (by decide) (by decide) k) ?_
      show OEnds p e below s _ _ _ (s₁.setTop (mkF m 47 #[.val (.long q0), .second, .val (.long q1), .second, .val (.long q2), .second, .val (.long q3), .second, .val (.int q4), .val (.int sel), .val (.int rem), .unset, .unset, .unset, .unset, .unset, .unset, .unset, .unset, .unset, .unset] [(.long q1)]))
      refine own_by (fun _ k => XS.lstore X0.here hx rfl (hb hby at_47) rfl (l' := #[.val (.long q0), .second, .val (.long q1), .second, .val (.long q2), .second, .val (.long q3), .second, .val (.int q4), .val (.int sel), .val (.int rem), .val (.long q1), .second, .unset, .unset, .unset, .unset, .unset, .unset, .unset, .unset]) rfl k) ?_
      show OEnds p e below s _ _ _ (s₁.setTop (mkF m 49 #[.val (.long q0), .second, .val (.long q1), .second, .val (.long q2), .second, .val (.long q3), .second, .val (.int q4), .val (.int sel), .val (.int rem), .val (.long q1), .second, .unset, .unset, .unset, .unset, .unset, .unset, .unset, .unset] []))
      exact bl49 s₁ _ q1 X0 e0 N0
    · refine own_by (fun _ k => XS.icmpYes X0.here hx rfl (pc0 := 27) (pc' := 34) rfl (hb hby at_27) rfl (feq hc27_66).2 (by decide) (by decide) k) ?_
      show OEnds p e below s _ _ _ (s₁.setTop (mkF m 34 #[.val (.long q0), .second, .val (.long q1), .second, .val (.long q2), .second, .val (.long q3), .second, .val (.int q4), .val (.int sel), .val (.int rem), .unset, .unset, .unset, .unset, .unset, .unset, .unset, .unset, .unset, .unset] []))
      refine own_by (fun _ k => XS.iload X0.here hx rfl (hb hby at_34) rfl k) ?_
      show OEnds p e below s _ _ _ (s₁.setTop (mkF m 36 #[.val (.long q0), .second, .val (.long q1), .second, .val (.long q2), .second, .val (.long q3), .second, .val (.int q4), .val (.int sel), .val (.int rem), .unset, .unset, .unset, .unset, .unset, .unset, .unset, .unset, .unset, .unset] [(.int sel)]))
      refine own_by (fun _ k => XS.iconst X0.here hx rfl (hb hby at_36) k) ?_
      show OEnds p e below s _ _ _ (s₁.setTop (mkF m 37 #[.val (.long q0), .second, .val (.long q1), .second, .val (.long q2), .second, .val (.long q3), .second, .val (.int q4), .val (.int sel), .val (.int rem), .unset, .unset, .unset, .unset, .unset, .unset, .unset, .unset, .unset, .unset] [(.int (2 : Int32)), (.int sel)]))
      by_cases hc37_67 : sel = (2 : Int32)
      · refine own_by (fun _ k => XS.icmpNo X0.here hx rfl (hb hby at_37) rfl (teq hc37_67).2 k) ?_
        show OEnds p e below s _ _ _ (s₁.setTop (mkF m 40 #[.val (.long q0), .second, .val (.long q1), .second, .val (.long q2), .second, .val (.long q3), .second, .val (.int q4), .val (.int sel), .val (.int rem), .unset, .unset, .unset, .unset, .unset, .unset, .unset, .unset, .unset, .unset] []))
        refine own_by (fun _ k => XS.lload X0.here hx rfl (hb hby at_40) rfl k) ?_
        show OEnds p e below s _ _ _ (s₁.setTop (mkF m 42 #[.val (.long q0), .second, .val (.long q1), .second, .val (.long q2), .second, .val (.long q3), .second, .val (.int q4), .val (.int sel), .val (.int rem), .unset, .unset, .unset, .unset, .unset, .unset, .unset, .unset, .unset, .unset] [(.long q2)]))
        refine own_by (fun _ k => XS.goto X0.here hx rfl (pc0 := 42) (pc' := 47) rfl (hb hby at_42) (by decide) (by decide) k) ?_
        show OEnds p e below s _ _ _ (s₁.setTop (mkF m 47 #[.val (.long q0), .second, .val (.long q1), .second, .val (.long q2), .second, .val (.long q3), .second, .val (.int q4), .val (.int sel), .val (.int rem), .unset, .unset, .unset, .unset, .unset, .unset, .unset, .unset, .unset, .unset] [(.long q2)]))
        refine own_by (fun _ k => XS.lstore X0.here hx rfl (hb hby at_47) rfl (l' := #[.val (.long q0), .second, .val (.long q1), .second, .val (.long q2), .second, .val (.long q3), .second, .val (.int q4), .val (.int sel), .val (.int rem), .val (.long q2), .second, .unset, .unset, .unset, .unset, .unset, .unset, .unset, .unset]) rfl k) ?_
        show OEnds p e below s _ _ _ (s₁.setTop (mkF m 49 #[.val (.long q0), .second, .val (.long q1), .second, .val (.long q2), .second, .val (.long q3), .second, .val (.int q4), .val (.int sel), .val (.int rem), .val (.long q2), .second, .unset, .unset, .unset, .unset, .unset, .unset, .unset, .unset] []))
        exact bl49 s₁ _ q2 X0 e0 N0
      · refine own_by (fun _ k => XS.icmpYes X0.here hx rfl (pc0 := 37) (pc' := 45) rfl (hb hby at_37) rfl (feq hc37_67).2 (by decide) (by decide) k) ?_
        show OEnds p e below s _ _ _ (s₁.setTop (mkF m 45 #[.val (.long q0), .second, .val (.long q1), .second, .val (.long q2), .second, .val (.long q3), .second, .val (.int q4), .val (.int sel), .val (.int rem), .unset, .unset, .unset, .unset, .unset, .unset, .unset, .unset, .unset, .unset] []))
        refine own_by (fun _ k => XS.lload X0.here hx rfl (hb hby at_45) rfl k) ?_
        show OEnds p e below s _ _ _ (s₁.setTop (mkF m 47 #[.val (.long q0), .second, .val (.long q1), .second, .val (.long q2), .second, .val (.long q3), .second, .val (.int q4), .val (.int sel), .val (.int rem), .unset, .unset, .unset, .unset, .unset, .unset, .unset, .unset, .unset, .unset] [(.long q3)]))
        refine own_by (fun _ k => XS.lstore X0.here hx rfl (hb hby at_47) rfl (l' := #[.val (.long q0), .second, .val (.long q1), .second, .val (.long q2), .second, .val (.long q3), .second, .val (.int q4), .val (.int sel), .val (.int rem), .val (.long q3), .second, .unset, .unset, .unset, .unset, .unset, .unset, .unset, .unset]) rfl k) ?_
        show OEnds p e below s _ _ _ (s₁.setTop (mkF m 49 #[.val (.long q0), .second, .val (.long q1), .second, .val (.long q2), .second, .val (.long q3), .second, .val (.int q4), .val (.int sel), .val (.int rem), .val (.long q3), .second, .unset, .unset, .unset, .unset, .unset, .unset, .unset, .unset] []))
        exact bl49 s₁ _ q3 X0 e0 N0
set_option maxRecDepth 65536 in
set_option maxHeartbeats 40000000 in
theorem comes_1 {Post : Tables → Env → Array Value → State → Outcome → State → Prop} (hpost : ∀ tb e args s v u, (limb_1_1.after args s (.returned v) u = true ∧ limb_1_2.after args s (.returned v) u = true ∧ True) → FrameEnd s (.returned v) u (Jvm.fieldLocs frame_1_writes args s ++ Jvm.arrayLocs frame_1_arrays args s ++ Jvm.staticLocs frame_1_statics s) 24 128 → Post tb e args s (.returned v) u) :
    ArmFor flags0 classFile x code maxLocals ret World_1 tables_1 room_1 Calls_1 rest_1 Pre_1 Post := by
  intro l hfl _ _ p e ha hc hk s m args below hf hA hF happ hP
  obtain ⟨hcalls, hrest, hpre⟩ := hP
  obtain ⟨-, -, -, hnamed, -, -, -, hat⟩ := (Spec.applies_iff hf).mp happ
  obtain ⟨hg, hn⟩ := and_e (Cond.before_iff.mp (show (Jvm.Cond.and given_1 narrow_1).before args s = true from hpre))
  obtain ⟨hct, hg0⟩ := and_e hg
  obtain ⟨ga0, hg1⟩ := and_e hg0
  obtain ⟨ga1, hg2⟩ := and_e hg1
  obtain ⟨ga2, hg3⟩ := and_e hg2
  obtain ⟨ga3, hg4⟩ := and_e hg3
  have ga4 := hg4
  obtain ⟨w0, w1, w2, w3, w4, rfl⟩ : ∃ w0 w1 w2 w3 w4 : Value, args = #[w0, w1, w2, w3, w4] := by
    have hs : args.size = 5 := by simpa [Cond.value, given_1] using hct
    obtain ⟨L⟩ := args
    match L, hs with
    | [w0, w1, w2, w3, w4], _ => exact ⟨w0, w1, w2, w3, w4, rfl⟩
  have hw := fun d (hd : d ∈ tables_1) => atoms_spec (ws := Jvm.Cond.code x code maxLocals ret :: tables_1) hat d (List.mem_cons_of_mem _ hd)
  obtain ⟨i0, ei0⟩ := isL_v ga0
  obtain rfl : w0 = (.long i0) := Option.some.inj ei0
  obtain ⟨i1, ei1⟩ := isL_v ga1
  obtain rfl : w1 = (.long i1) := Option.some.inj ei1
  obtain ⟨i2, ei2⟩ := isL_v ga2
  obtain rfl : w2 = (.long i2) := Option.some.inj ei2
  obtain ⟨i3, ei3⟩ := isL_v ga3
  obtain rfl : w3 = (.long i3) := Option.some.inj ei3
  obtain ⟨i4, ei4⟩ := is_v ga4
  obtain rfl : w4 = (.int i4) := Option.some.inj ei4
  obtain ⟨n, o, h1, h2, h3, _, L, rfl, ⟨rfl, N⟩, hq⟩ := rm_law l s _ hw tables_1 i0 i1 i2 i3 i4 s.heap s.heap.size (Nat.le_refl _) p e ha hc hk s m _ below hf ((Spec.applies_iff_loose hf).mp happ).1 ⟨rfl, State.Warmed39.refl s, rfl⟩ trivial
  refine ⟨n, _, h1, h2, h3, hpost _ _ _ _ _ _ ⟨Cond.after_iff.mpr rfl, Cond.after_iff.mpr (eq_i res_at (Term.int_eval (1)) rfl), trivial⟩ ⟨hq.1, hq.2.1, (hq.2.2.sift fun y hy => Or.inr (N y hy)).mono (by decide) (by decide)⟩⟩
theorem main_1_1 : Claimed_1_1 := comes_1 fun _ _ _ _ _ _ h hF => ⟨h.1, hF⟩
theorem main_1_2 : Claimed_1_2 := comes_1 fun _ _ _ _ _ _ h hF => ⟨h.2.1, hF⟩
end Jvm.Pilot.@@N@@
namespace Jvm.Pilot.@@N@@
open Jvm Jvm.ClassFile Sem Op Lib Jvm.Free Jvm.Stand Jvm.Pilot.@@N@@.Jvm.D
/-! MADE BY PROGRAM (witnessworld.py) out of the Statement's table words and the real class files: 19 classes; the members and pool entries that the words name. The judged class is class 1, her method 1. -/
namespace start1
open Jvm.ClassFile
def u (s : String) : CpInfo := .utf8 (stringToUtf16 s)
/-- a pool by its gaps: so many unusable entries, then the entry; so many at the end -/
def gap : Nat → List CpInfo → List CpInfo
  | 0, r => r
  | n + 1, r => .unusable :: gap n r
def poolList (es : List (Nat × CpInfo)) (last : Nat) : List CpInfo := es.foldr (fun e r => gap e.1 (e.2 :: r)) (gap last [])
def pool (es : List (Nat × CpInfo)) (last : Nat) : Array CpInfo := ⟨poolList es last⟩
def fileOf (pool : Array CpInfo) (this : Nat) (attrs : Array Attribute := #[]) (ms : Array MethodInfo := #[]) (fl : Nat := 33) (sup : Nat := 0) (ifs : Array Nat := #[]) (fds : Array FieldInfo := #[]) : ClassFile where
  minorVersion := 0
  majorVersion := 65
  constantPool := pool
  accessFlags := fl
  thisClass := this
  superClass := sup
  interfaces := ifs
  fields := fds
  methods := ms
  attributes := attrs
def plain (name : String) (sup : Option ClassId) : Class where
  name := name
  kind := .ordinary
  loader := none
  accessFlags := 33
  super := sup
  interfaces := #[]
  cf := none
  fields := #[]
  methods := #[]
  instanceTypes := #[]
  staticTypes := #[]
  resolved := #[]
  callSites := []
  init := .initialized
  statics := none
  mirror := none

def pool0 : Array CpInfo := pool [(5, u "<init>"), (0, u "()V"), (1, .class_ 10), (1, u "java/lang/Object")] 113

def k0c0 : Code := { maxStack := 0, maxLocals := 1, code := object_method_1_code, exceptionTable := #[], attributes := #[] }
def k0m0 : Method := { name := "<init>", desc := "()V", sig := { parameters := [], returnType := none }, accessFlags := 1, code := some k0c0 }
/-- java/lang/Object -/
def k0 : Class := { plain "java/lang/Object" none with
  accessFlags := 33
  interfaces := #[]
  cf := some (fileOf pool0 8 #[] #[{ accessFlags := 1, nameIndex := 5, descriptorIndex := 6, attributes := #[] }] 33 0 #[] #[])
  fields := #[]
  methods := #[k0m0]
  instanceTypes := #[]
  staticTypes := #[]
  resolved := Array.replicate 124 none
  statics := none }

def pool1 : Array CpInfo := pool [(2, .class_ 4), (0, .nameAndType 5 6), (0, u "java/lang/Object"), (0, u "<init>"), (0, u "()V"), (0, .class_ 8), (0, u "com/example/tristream/tristream/LongIndex"), (0, .methodref 7 3), (0, .methodref 7 11), (0, .nameAndType 12 13), (0, u "add"), (0, u "(J)I"), (0, .methodref 7 15), (0, .nameAndType 16 13), (0, u "indexOf"), (0, .methodref 18 19), (0, .class_ 20), (0, .nameAndType 21 22), (0, u "com/example/tristream/tristream/LongIndexIndexOfPinLaw"), (0, u "expected"), (0, u "([JIJ)I"), (0, .methodref 7 24), (0, .nameAndType 25 26), (0, u "remove"), (0, u "(J)V"), (2, u "law"), (0, u "(JJJJI)Z")] 5

def k1m0 : Method := { name := "<init>", desc := "()V", sig := { parameters := [], returnType := none }, accessFlags := 1, code := none }
def k1c1 : Code := { maxStack := 5, maxLocals := 21, code := code, exceptionTable := #[], attributes := #[] }
def k1m1 : Method := { name := "law", desc := "(JJJJI)Z", sig := { parameters := [.long, .long, .long, .long, .int], returnType := some .boolean }, accessFlags := 9, code := some k1c1 }
def k1c2 : Code := { maxStack := 4, maxLocals := 4, code := method_3_code, exceptionTable := #[], attributes := #[] }
def k1m2 : Method := { name := "expected", desc := "([JIJ)I", sig := { parameters := [(.array .long), .int, .long], returnType := some .int }, accessFlags := 10, code := some k1c2 }
/-- com/example/tristream/tristream/LongIndexIndexOfPinLaw -/
def k1 : Class := { plain "com/example/tristream/tristream/LongIndexIndexOfPinLaw" (some 0) with
  accessFlags := 49
  interfaces := #[]
  cf := some (fileOf pool1 18 #[] #[{ accessFlags := 1, nameIndex := 5, descriptorIndex := 6, attributes := #[] }, { accessFlags := 9, nameIndex := 29, descriptorIndex := 30, attributes := #[] }, { accessFlags := 10, nameIndex := 21, descriptorIndex := 22, attributes := #[] }] 49 2 #[] #[])
  fields := #[]
  methods := #[k1m0, k1m1, k1m2]
  instanceTypes := #[]
  staticTypes := #[]
  resolved := Array.replicate 36 none
  statics := none }

def pool2 : Array CpInfo := pool [(1, .methodref 2 3), (0, .class_ 4), (0, .nameAndType 5 6), (0, u "java/lang/Object"), (0, u "<init>"), (0, u "()V"), (0, .class_ 8), (0, u "com/example/tristream/tristream/LongIndex"), (0, .fieldref 7 10), (0, .nameAndType 11 12), (0, u "keys"), (0, u "[J"), (0, .fieldref 7 14), (0, .nameAndType 15 16), (0, u "slots"), (0, u "[I"), (0, .methodref 18 19), (0, .class_ 20), (0, .nameAndType 21 22), (0, u "java/lang/Integer"), (0, u "numberOfTrailingZeros"), (0, u "(I)I"), (0, .fieldref 7 24), (0, .nameAndType 25 26), (0, u "shift"), (0, u "I"), (0, .fieldref 7 28), (0, .nameAndType 29 26), (0, u "size"), (0, .methodref 7 31), (0, .nameAndType 32 33), (0, u "find"), (0, u "(J)I"), (0, .integer 1073741824), (7, .methodref 7 43), (0, .nameAndType 44 45), (0, u "resize"), (0, u "(I)V"), (0, .methodref 47 48), (0, .class_ 49), (0, .nameAndType 50 51), (0, u "java/util/Arrays"), (0, u "copyOf"), (0, u "([JI)[J"), (0, .methodref 7 53), (0, .nameAndType 54 45), (0, u "clear"), (0, .methodref 7 56), (0, .nameAndType 57 33), (0, u "home"), (0, .long 11400714819323198485), (1, u "MAX_SLOTS"), (1, u "MIN_SLOTS"), (1, u "SPREAD"), (0, u "J"), (5, u "indexOf"), (0, u "add"), (1, u "remove"), (0, u "(J)V")] 2

def k2c0 : Code := { maxStack := 3, maxLocals := 1, code := prog_25_method_1_code, exceptionTable := #[], attributes := #[] }
def k2m0 : Method := { name := "<init>", desc := "()V", sig := { parameters := [], returnType := none }, accessFlags := 0, code := some k2c0 }
def k2c1 : Code := { maxStack := 4, maxLocals := 3, code := prog_25_method_4_code, exceptionTable := #[], attributes := #[] }
def k2m1 : Method := { name := "indexOf", desc := "(J)I", sig := { parameters := [.long], returnType := some .int }, accessFlags := 0, code := some k2c1 }
def k2c2 : Code := { maxStack := 4, maxLocals := 4, code := prog_25_method_5_code, exceptionTable := #[], attributes := #[] }
def k2m2 : Method := { name := "add", desc := "(J)I", sig := { parameters := [.long], returnType := some .int }, accessFlags := 0, code := some k2c2 }
def k2c3 : Code := { maxStack := 4, maxLocals := 7, code := prog_25_method_6_code, exceptionTable := #[], attributes := #[] }
def k2m3 : Method := { name := "remove", desc := "(J)V", sig := { parameters := [.long], returnType := none }, accessFlags := 0, code := some k2c3 }
def k2c4 : Code := { maxStack := 4, maxLocals := 5, code := prog_25_method_7_code, exceptionTable := #[], attributes := #[] }
def k2m4 : Method := { name := "find", desc := "(J)I", sig := { parameters := [.long], returnType := some .int }, accessFlags := 2, code := some k2c4 }
def k2c5 : Code := { maxStack := 4, maxLocals := 3, code := prog_25_method_8_code, exceptionTable := #[], attributes := #[] }
def k2m5 : Method := { name := "home", desc := "(J)I", sig := { parameters := [.long], returnType := some .int }, accessFlags := 2, code := some k2c5 }
def k2c6 : Code := { maxStack := 4, maxLocals := 6, code := prog_25_method_9_code, exceptionTable := #[], attributes := #[] }
def k2m6 : Method := { name := "clear", desc := "(I)V", sig := { parameters := [.int], returnType := none }, accessFlags := 2, code := some k2c6 }
def k2c7 : Code := { maxStack := 4, maxLocals := 5, code := prog_25_method_10_code, exceptionTable := #[], attributes := #[] }
def k2m7 : Method := { name := "resize", desc := "(I)V", sig := { parameters := [.int], returnType := none }, accessFlags := 2, code := some k2c7 }
/-- com/example/tristream/tristream/LongIndex -/
def k2 : Class := { plain "com/example/tristream/tristream/LongIndex" (some 0) with
  accessFlags := 48
  interfaces := #[]
  cf := some (fileOf pool2 7 #[] #[{ accessFlags := 0, nameIndex := 5, descriptorIndex := 6, attributes := #[] }, { accessFlags := 0, nameIndex := 71, descriptorIndex := 33, attributes := #[] }, { accessFlags := 0, nameIndex := 72, descriptorIndex := 33, attributes := #[] }, { accessFlags := 0, nameIndex := 74, descriptorIndex := 75, attributes := #[] }, { accessFlags := 2, nameIndex := 32, descriptorIndex := 33, attributes := #[] }, { accessFlags := 2, nameIndex := 57, descriptorIndex := 33, attributes := #[] }, { accessFlags := 2, nameIndex := 54, descriptorIndex := 45, attributes := #[] }, { accessFlags := 2, nameIndex := 44, descriptorIndex := 45, attributes := #[] }] 48 2 #[] #[{ accessFlags := 26, nameIndex := 60, descriptorIndex := 26, attributes := #[] }, { accessFlags := 26, nameIndex := 62, descriptorIndex := 26, attributes := #[] }, { accessFlags := 26, nameIndex := 64, descriptorIndex := 65, attributes := #[] }, { accessFlags := 2, nameIndex := 11, descriptorIndex := 12, attributes := #[] }, { accessFlags := 2, nameIndex := 15, descriptorIndex := 16, attributes := #[] }, { accessFlags := 2, nameIndex := 25, descriptorIndex := 26, attributes := #[] }, { accessFlags := 2, nameIndex := 29, descriptorIndex := 26, attributes := #[] }])
  fields := #[{ name := "MAX_SLOTS", type := .int, accessFlags := 26, slot := 0, constantValue := 0 }, { name := "MIN_SLOTS", type := .int, accessFlags := 26, slot := 1, constantValue := 0 }, { name := "SPREAD", type := .long, accessFlags := 26, slot := 2, constantValue := 0 }, { name := "keys", type := (.array .long), accessFlags := 2, slot := 0, constantValue := 0 }, { name := "slots", type := (.array .int), accessFlags := 2, slot := 1, constantValue := 0 }, { name := "shift", type := .int, accessFlags := 2, slot := 2, constantValue := 0 }, { name := "size", type := .int, accessFlags := 2, slot := 3, constantValue := 0 }]
  methods := #[k2m0, k2m1, k2m2, k2m3, k2m4, k2m5, k2m6, k2m7]
  instanceTypes := #[(.array .long), (.array .int), .int, .int]
  staticTypes := #[.int, .int, .long]
  resolved := Array.replicate 78 none
  statics := none }

def pool3 : Array CpInfo := pool [(1, .class_ 2), (0, u "java/io/Serializable"), (0, .class_ 4), (0, u "java/lang/Object")] 2

/-- java/io/Serializable -/
def k3 : Class := { plain "java/io/Serializable" (some 0) with
  accessFlags := 1537
  interfaces := #[]
  cf := some (fileOf pool3 1 #[] #[] 1537 3 #[] #[])
  fields := #[]
  methods := #[]
  instanceTypes := #[]
  staticTypes := #[]
  resolved := Array.replicate 7 none
  statics := none }

def pool4 : Array CpInfo := pool [(2, .class_ 4), (1, u "java/lang/Object"), (0, u "<init>"), (0, u "()V"), (1, .class_ 10), (1, u "java/lang/Number"), (2, .class_ 14), (0, u "java/io/Serializable"), (0, u "serialVersionUID"), (0, u "J")] 20

def k4m0 : Method := { name := "<init>", desc := "()V", sig := { parameters := [], returnType := none }, accessFlags := 1, code := none }
/-- java/lang/Number -/
def k4 : Class := { plain "java/lang/Number" (some 0) with
  accessFlags := 1057
  interfaces := #[3]
  cf := some (fileOf pool4 8 #[] #[{ accessFlags := 1, nameIndex := 5, descriptorIndex := 6, attributes := #[] }] 1057 2 #[13] #[{ accessFlags := 26, nameIndex := 15, descriptorIndex := 16, attributes := #[] }])
  fields := #[{ name := "serialVersionUID", type := .long, accessFlags := 26, slot := 0, constantValue := 0 }]
  methods := #[k4m0]
  instanceTypes := #[]
  staticTypes := #[.long]
  resolved := Array.replicate 37 none
  statics := none }

def pool5 : Array CpInfo := pool [(1, .class_ 2), (0, u "java/lang/Comparable"), (0, .class_ 4), (0, u "java/lang/Object")] 7

/-- java/lang/Comparable -/
def k5 : Class := { plain "java/lang/Comparable" (some 0) with
  accessFlags := 1537
  interfaces := #[]
  cf := some (fileOf pool5 1 #[] #[] 1537 3 #[] #[])
  fields := #[]
  methods := #[]
  instanceTypes := #[]
  staticTypes := #[]
  resolved := Array.replicate 12 none
  statics := none }

def pool6 : Array CpInfo := pool [(1, .class_ 2), (0, u "java/lang/constant/Constable"), (0, .class_ 4), (0, u "java/lang/Object")] 6

/-- java/lang/constant/Constable -/
def k6 : Class := { plain "java/lang/constant/Constable" (some 0) with
  accessFlags := 1537
  interfaces := #[]
  cf := some (fileOf pool6 1 #[] #[] 1537 3 #[] #[])
  fields := #[]
  methods := #[]
  instanceTypes := #[]
  staticTypes := #[]
  resolved := Array.replicate 11 none
  statics := none }

def pool7 : Array CpInfo := pool [(1, .class_ 2), (0, u "java/lang/constant/ConstantDesc"), (0, .class_ 4), (0, u "java/lang/Object")] 32

/-- java/lang/constant/ConstantDesc -/
def k7 : Class := { plain "java/lang/constant/ConstantDesc" (some 0) with
  accessFlags := 1537
  interfaces := #[]
  cf := some (fileOf pool7 1 #[] #[] 1537 3 #[] #[])
  fields := #[]
  methods := #[]
  instanceTypes := #[]
  staticTypes := #[]
  resolved := Array.replicate 37 none
  statics := none }

def pool8 : Array CpInfo := pool [(1, .class_ 2), (0, u "java/lang/Integer"), (16, u "digits"), (0, u "[C"), (33, u "(I)I"), (30, u "DigitOnes"), (0, u "[B"), (2, u "DigitTens"), (99, .class_ 190), (0, u "java/lang/Integer$IntegerCache"), (3, u "I"), (8, .class_ 204), (0, u "java/lang/Number"), (2, u "value"), (56, .integer 65536), (37, u "TYPE"), (0, u "Ljava/lang/Class;"), (0, .class_ 305), (0, u "java/lang/Comparable"), (0, .class_ 307), (0, u "java/lang/constant/Constable"), (0, .class_ 309), (0, u "java/lang/constant/ConstantDesc"), (0, u "MIN_VALUE"), (1, u "MAX_VALUE"), (3, u "SIZE"), (1, u "BYTES"), (1, u "serialVersionUID"), (0, u "J"), (84, u "numberOfTrailingZeros")] 46

def k8c0 : Code := { maxStack := 3, maxLocals := 2, code := jdk_33_method_48_code, exceptionTable := #[], attributes := #[] }
def k8m0 : Method := { name := "numberOfTrailingZeros", desc := "(I)I", sig := { parameters := [.int], returnType := some .int }, accessFlags := 9, code := some k8c0 }
/-- java/lang/Integer -/
def k8 : Class := { plain "java/lang/Integer" (some 4) with
  accessFlags := 49
  interfaces := #[5, 6, 7]
  cf := some (fileOf pool8 1 #[.nestMembers #[189]] #[{ accessFlags := 9, nameIndex := 406, descriptorIndex := 54, attributes := #[] }] 49 203 #[304, 306, 308] #[{ accessFlags := 25, nameIndex := 310, descriptorIndex := 194, attributes := #[] }, { accessFlags := 25, nameIndex := 312, descriptorIndex := 194, attributes := #[] }, { accessFlags := 25, nameIndex := 302, descriptorIndex := 303, attributes := #[] }, { accessFlags := 24, nameIndex := 19, descriptorIndex := 20, attributes := #[] }, { accessFlags := 24, nameIndex := 89, descriptorIndex := 86, attributes := #[] }, { accessFlags := 24, nameIndex := 85, descriptorIndex := 86, attributes := #[] }, { accessFlags := 18, nameIndex := 207, descriptorIndex := 194, attributes := #[] }, { accessFlags := 25, nameIndex := 316, descriptorIndex := 194, attributes := #[] }, { accessFlags := 25, nameIndex := 318, descriptorIndex := 194, attributes := #[] }, { accessFlags := 26, nameIndex := 320, descriptorIndex := 321, attributes := #[] }])
  fields := #[{ name := "MIN_VALUE", type := .int, accessFlags := 25, slot := 0, constantValue := 0 }, { name := "MAX_VALUE", type := .int, accessFlags := 25, slot := 1, constantValue := 0 }, { name := "TYPE", type := (.object "java/lang/Class"), accessFlags := 25, slot := 2, constantValue := 0 }, { name := "digits", type := (.array .char), accessFlags := 24, slot := 3, constantValue := 0 }, { name := "DigitTens", type := (.array .byte), accessFlags := 24, slot := 4, constantValue := 0 }, { name := "DigitOnes", type := (.array .byte), accessFlags := 24, slot := 5, constantValue := 0 }, { name := "value", type := .int, accessFlags := 18, slot := 0, constantValue := 0 }, { name := "SIZE", type := .int, accessFlags := 25, slot := 6, constantValue := 0 }, { name := "BYTES", type := .int, accessFlags := 25, slot := 7, constantValue := 0 }, { name := "serialVersionUID", type := .long, accessFlags := 26, slot := 8, constantValue := 0 }]
  methods := #[k8m0]
  instanceTypes := #[.int]
  staticTypes := #[.int, .int, (.object "java/lang/Class"), (.array .char), (.array .byte), (.array .byte), .int, .int, .long]
  resolved := Array.replicate 453 none
  statics := none }

def pool9 : Array CpInfo := pool [(2, .class_ 4), (1, u "java/lang/Object"), (0, u "<init>"), (0, u "()V"), (7, .class_ 16), (1, u "java/util/Arrays"), (57, .class_ 76), (1, u "java/util/Arrays$NaturalOrder"), (36, .class_ 115), (1, u "java/util/Arrays$LegacyMergeSort"), (1, u "Z"), (32, .methodref 151 152), (0, .class_ 153), (0, .nameAndType 154 155), (0, u "java/lang/System"), (0, u "arraycopy"), (0, u "(Ljava/lang/Object;ILjava/lang/Object;II)V"), (146, u "copyOf"), (1, .methodref 305 306), (0, .class_ 307), (0, .nameAndType 308 309), (0, u "java/lang/Math"), (0, u "min"), (0, u "(II)I"), (65, .class_ 376), (0, u "java/util/Arrays$ArrayList"), (68, u "$assertionsDisabled"), (269, u "MIN_ARRAY_SORT_GRAN"), (0, u "I"), (2, u "INSERTIONSORT_THRESHOLD"), (152, u "([JI)[J"), (102, .class_ 976), (0, u "java/util/Arrays$ArrayItr")] 52

def k9m0 : Method := { name := "<init>", desc := "()V", sig := { parameters := [], returnType := none }, accessFlags := 2, code := none }
def k9c1 : Code := { maxStack := 6, maxLocals := 3, code := jdk_65_method_124_code, exceptionTable := #[], attributes := #[] }
def k9m1 : Method := { name := "copyOf", desc := "([JI)[J", sig := { parameters := [(.array .long), .int], returnType := some (.array .long) }, accessFlags := 9, code := some k9c1 }
/-- java/util/Arrays -/
def k9 : Class := { plain "java/util/Arrays" (some 0) with
  accessFlags := 49
  interfaces := #[]
  cf := some (fileOf pool9 14 #[.nestMembers #[975, 375, 113, 74]] #[{ accessFlags := 2, nameIndex := 5, descriptorIndex := 6, attributes := #[] }, { accessFlags := 9, nameIndex := 302, descriptorIndex := 872, attributes := #[] }] 49 2 #[] #[{ accessFlags := 26, nameIndex := 715, descriptorIndex := 716, attributes := #[] }, { accessFlags := 26, nameIndex := 719, descriptorIndex := 716, attributes := #[] }, { accessFlags := 4120, nameIndex := 445, descriptorIndex := 117, attributes := #[] }])
  fields := #[{ name := "MIN_ARRAY_SORT_GRAN", type := .int, accessFlags := 26, slot := 0, constantValue := 0 }, { name := "INSERTIONSORT_THRESHOLD", type := .int, accessFlags := 26, slot := 1, constantValue := 0 }, { name := "$assertionsDisabled", type := .boolean, accessFlags := 4120, slot := 2, constantValue := 0 }]
  methods := #[k9m0, k9m1]
  instanceTypes := #[]
  staticTypes := #[.int, .int, .boolean]
  resolved := Array.replicate 1029 none
  statics := none }

def pool10 : Array CpInfo := pool [(1, .class_ 2), (0, u "java/lang/Math"), (1, .class_ 6), (1, u "java/lang/Object"), (0, u "<init>"), (0, u "()V"), (89, .class_ 100), (1, u "java/lang/Math$RandomNumberGeneratorHolder"), (71, u "negativeZeroFloatBits"), (0, u "J"), (2, u "negativeZeroDoubleBits"), (24, u "min"), (43, u "$assertionsDisabled"), (0, u "Z"), (88, u "(II)I"), (2, u "twoToTheDoubleScaleDown"), (0, u "D"), (4, u "twoToTheDoubleScaleUp"), (9, u "E"), (3, u "PI"), (2, u "TAU"), (2, u "DEGREES_TO_RADIANS"), (0, u "RADIANS_TO_DEGREES")] 94

def k10m0 : Method := { name := "<init>", desc := "()V", sig := { parameters := [], returnType := none }, accessFlags := 2, code := none }
def k10c1 : Code := { maxStack := 2, maxLocals := 2, code := jdk_29_method_69_code, exceptionTable := #[], attributes := #[] }
def k10m1 : Method := { name := "min", desc := "(II)I", sig := { parameters := [.int, .int], returnType := some .int }, accessFlags := 9, code := some k10c1 }
/-- java/lang/Math -/
def k10 : Class := { plain "java/lang/Math" (some 0) with
  accessFlags := 49
  interfaces := #[]
  cf := some (fileOf pool10 1 #[.nestMembers #[98]] #[{ accessFlags := 2, nameIndex := 7, descriptorIndex := 8, attributes := #[] }, { accessFlags := 9, nameIndex := 201, descriptorIndex := 335, attributes := #[] }] 49 4 #[] #[{ accessFlags := 25, nameIndex := 354, descriptorIndex := 339, attributes := #[] }, { accessFlags := 25, nameIndex := 358, descriptorIndex := 339, attributes := #[] }, { accessFlags := 25, nameIndex := 361, descriptorIndex := 339, attributes := #[] }, { accessFlags := 26, nameIndex := 364, descriptorIndex := 339, attributes := #[] }, { accessFlags := 26, nameIndex := 365, descriptorIndex := 339, attributes := #[] }, { accessFlags := 26, nameIndex := 172, descriptorIndex := 173, attributes := #[] }, { accessFlags := 26, nameIndex := 176, descriptorIndex := 173, attributes := #[] }, { accessFlags := 8, nameIndex := 344, descriptorIndex := 339, attributes := #[] }, { accessFlags := 8, nameIndex := 338, descriptorIndex := 339, attributes := #[] }, { accessFlags := 4120, nameIndex := 245, descriptorIndex := 246, attributes := #[] }])
  fields := #[{ name := "E", type := .double, accessFlags := 25, slot := 0, constantValue := 0 }, { name := "PI", type := .double, accessFlags := 25, slot := 1, constantValue := 0 }, { name := "TAU", type := .double, accessFlags := 25, slot := 2, constantValue := 0 }, { name := "DEGREES_TO_RADIANS", type := .double, accessFlags := 26, slot := 3, constantValue := 0 }, { name := "RADIANS_TO_DEGREES", type := .double, accessFlags := 26, slot := 4, constantValue := 0 }, { name := "negativeZeroFloatBits", type := .long, accessFlags := 26, slot := 5, constantValue := 0 }, { name := "negativeZeroDoubleBits", type := .long, accessFlags := 26, slot := 6, constantValue := 0 }, { name := "twoToTheDoubleScaleUp", type := .double, accessFlags := 8, slot := 7, constantValue := 0 }, { name := "twoToTheDoubleScaleDown", type := .double, accessFlags := 8, slot := 8, constantValue := 0 }, { name := "$assertionsDisabled", type := .boolean, accessFlags := 4120, slot := 9, constantValue := 0 }]
  methods := #[k10m0, k10m1]
  instanceTypes := #[]
  staticTypes := #[.double, .double, .double, .double, .double, .long, .long, .double, .double, .boolean]
  resolved := Array.replicate 460 none
  statics := none }

def pool11 : Array CpInfo := pool [(2, .class_ 4), (1, u "java/lang/Object"), (0, u "<init>"), (0, u "()V"), (1, .class_ 10), (1, u "java/lang/System"), (0, u "allowSecurityManager"), (0, u "I"), (16, u "cons"), (0, u "Ljava/io/Console;"), (77, .class_ 110), (1, u "java/lang/System$CallersHolder"), (43, u "initialErrStream"), (0, u "Ljava/io/PrintStream;"), (19, u "security"), (0, u "Ljava/lang/SecurityManager;"), (31, .class_ 209), (0, u "java/lang/System$1"), (7, u "props"), (0, u "Ljava/util/Properties;"), (2, u "lineSeparator"), (0, u "Ljava/lang/String;"), (96, .class_ 321), (1, u "java/lang/System$LoggerFinder"), (5, .class_ 328), (0, u "java/lang/System$Logger"), (67, u "err"), (2, u "out"), (91, u "notSupportedJnuEncoding"), (15, u "in"), (17, u "initialIn"), (0, u "Ljava/io/InputStream;"), (35, u "bootLayer"), (0, u "Ljava/lang/ModuleLayer;"), (99, .class_ 664), (0, u "java/lang/System$2"), (9, u "NEVER"), (2, u "MAYBE"), (49, u "arraycopy"), (0, u "(Ljava/lang/Object;ILjava/lang/Object;II)V"), (72, .class_ 802), (0, u "java/lang/System$Logger$Level")] 31

def k11m0 : Method := { name := "<init>", desc := "()V", sig := { parameters := [], returnType := none }, accessFlags := 2, code := none }
def k11m1 : Method := { name := "arraycopy", desc := "(Ljava/lang/Object;ILjava/lang/Object;II)V", sig := { parameters := [(.object "java/lang/Object"), .int, (.object "java/lang/Object"), .int, .int], returnType := none }, accessFlags := 265, code := none }
/-- java/lang/System -/
def k11 : Class := { plain "java/lang/System" (some 0) with
  accessFlags := 49
  interfaces := #[]
  cf := some (fileOf pool11 8 #[.nestMembers #[319, 327, 801, 108, 663, 208]] #[{ accessFlags := 2, nameIndex := 5, descriptorIndex := 6, attributes := #[] }, { accessFlags := 265, nameIndex := 727, descriptorIndex := 728, attributes := #[] }] 49 2 #[] #[{ accessFlags := 25, nameIndex := 507, descriptorIndex := 526, attributes := #[] }, { accessFlags := 25, nameIndex := 399, descriptorIndex := 155, attributes := #[] }, { accessFlags := 25, nameIndex := 396, descriptorIndex := 155, attributes := #[] }, { accessFlags := 10, nameIndex := 525, descriptorIndex := 526, attributes := #[] }, { accessFlags := 26, nameIndex := 674, descriptorIndex := 12, attributes := #[] }, { accessFlags := 26, nameIndex := 677, descriptorIndex := 12, attributes := #[] }, { accessFlags := 10, nameIndex := 11, descriptorIndex := 12, attributes := #[] }, { accessFlags := 74, nameIndex := 175, descriptorIndex := 176, attributes := #[] }, { accessFlags := 10, nameIndex := 491, descriptorIndex := 222, attributes := #[] }, { accessFlags := 74, nameIndex := 29, descriptorIndex := 30, attributes := #[] }, { accessFlags := 74, nameIndex := 154, descriptorIndex := 155, attributes := #[] }, { accessFlags := 10, nameIndex := 217, descriptorIndex := 218, attributes := #[] }, { accessFlags := 10, nameIndex := 221, descriptorIndex := 222, attributes := #[] }, { accessFlags := 8, nameIndex := 562, descriptorIndex := 563, attributes := #[] }])
  fields := #[{ name := "in", type := (.object "java/io/InputStream"), accessFlags := 25, slot := 0, constantValue := 0 }, { name := "out", type := (.object "java/io/PrintStream"), accessFlags := 25, slot := 1, constantValue := 0 }, { name := "err", type := (.object "java/io/PrintStream"), accessFlags := 25, slot := 2, constantValue := 0 }, { name := "initialIn", type := (.object "java/io/InputStream"), accessFlags := 10, slot := 3, constantValue := 0 }, { name := "NEVER", type := .int, accessFlags := 26, slot := 4, constantValue := 0 }, { name := "MAYBE", type := .int, accessFlags := 26, slot := 5, constantValue := 0 }, { name := "allowSecurityManager", type := .int, accessFlags := 10, slot := 6, constantValue := 0 }, { name := "security", type := (.object "java/lang/SecurityManager"), accessFlags := 74, slot := 7, constantValue := 0 }, { name := "notSupportedJnuEncoding", type := (.object "java/lang/String"), accessFlags := 10, slot := 8, constantValue := 0 }, { name := "cons", type := (.object "java/io/Console"), accessFlags := 74, slot := 9, constantValue := 0 }, { name := "initialErrStream", type := (.object "java/io/PrintStream"), accessFlags := 74, slot := 10, constantValue := 0 }, { name := "props", type := (.object "java/util/Properties"), accessFlags := 10, slot := 11, constantValue := 0 }, { name := "lineSeparator", type := (.object "java/lang/String"), accessFlags := 10, slot := 12, constantValue := 0 }, { name := "bootLayer", type := (.object "java/lang/ModuleLayer"), accessFlags := 8, slot := 13, constantValue := 0 }]
  methods := #[k11m0, k11m1]
  instanceTypes := #[]
  staticTypes := #[(.object "java/io/InputStream"), (.object "java/io/PrintStream"), (.object "java/io/PrintStream"), (.object "java/io/InputStream"), .int, .int, .int, (.object "java/lang/SecurityManager"), (.object "java/lang/String"), (.object "java/io/Console"), (.object "java/io/PrintStream"), (.object "java/util/Properties"), (.object "java/lang/String"), (.object "java/lang/ModuleLayer")]
  resolved := Array.replicate 834 none
  statics := none }

def pool12 : Array CpInfo := pool [(1, u "java/lang/Cloneable"), (0, .class_ 1), (0, u "java/lang/Object"), (0, .class_ 3)] 3

/-- java/lang/Cloneable -/
def k12 : Class := { plain "java/lang/Cloneable" (some 0) with
  accessFlags := 1537
  interfaces := #[]
  cf := some (fileOf pool12 2 #[] #[] 1537 4 #[] #[])
  fields := #[]
  methods := #[]
  instanceTypes := #[]
  staticTypes := #[]
  resolved := Array.replicate 8 none
  statics := none }

/-- the primitive byte -/
def k13 : Class := { plain "byte" none with kind := .primitive 'B', accessFlags := 0x411 }
/-- [B -/
def k14 : Class := { plain "[B" (some 0) with kind := .array 13 .byte, interfaces := #[12, 3], accessFlags := 1041 }

/-- the primitive int -/
def k15 : Class := { plain "int" none with kind := .primitive 'I', accessFlags := 0x411 }
/-- [I -/
def k16 : Class := { plain "[I" (some 0) with kind := .array 15 .int, interfaces := #[12, 3], accessFlags := 1041 }

/-- the primitive long -/
def k17 : Class := { plain "long" none with kind := .primitive 'J', accessFlags := 0x411 }
/-- [J -/
def k18 : Class := { plain "[J" (some 0) with kind := .array 17 .long, interfaces := #[12, 3], accessFlags := 1041 }

def heap : Heap := #[]
def classes : Array Class := #[k0, k1, k2, k3, k4, k5, k6, k7, k8, k9, k10, k11, k12, k13, k14, k15, k16, k17, k18]
def interned : List (Array UInt16 × Addr) := []
def slotsUsed : Nat := 0
def theMethod : MethodId := ⟨1, 1⟩
def args0 : Array Value := #[.long 5, .long 7, .long 9, .long 7, .int 5]
def aboutOver (below : List Frame) : State where
  vm := { classes := classes, interned := interned.toArray }
  heap := heap
  slotsUsed := slotsUsed
  threads := #[{ frames := .invoking theMethod args0 :: below }]
def below0 : List Frame := [.native { method := ⟨0, 0⟩, args := #[] }]
def about1 : State := aboutOver below0
def p0 : Program := .bare "" "" ""
def e0 : Env := launch0.env 0 0 0
theorem w_frames : about1.frames = Frame.invoking theMethod args0 :: below0 := rfl
set_option maxRecDepth 65536 in
theorem w_args : argsFit about1.vm theMethod args0 = true := by decide +kernel
set_option maxRecDepth 65536 in
theorem w_heap : heapFits about1 = true := by decide +kernel
set_option maxRecDepth 65536 in
theorem w_runnable : about1.curStatus? = some .runnable := by decide +kernel
set_option maxRecDepth 65536 in
theorem w_alone : about1.alone = true := by decide +kernel
set_option maxRecDepth 65536 in
theorem w_named : about1.methodNamed? x = some theMethod := by decide +kernel
set_option maxRecDepth 65536 in
theorem w_hears : about1.hears theMethod below0 = true := by decide +kernel
set_option maxRecDepth 65536 in
theorem w_ripe : about1.ripe theMethod args0 below0 = true := by decide +kernel
theorem w_running : about1.status = .running := rfl
set_option maxRecDepth 65536 in
theorem w_room : about1.hasRoom e0.platform room_1 = true :=
  launch0.hasRoom_least _ room_1 (by decide +kernel) (by decide +kernel) (by decide +kernel) (by decide +kernel) (by decide +kernel) (by decide +kernel)
theorem allAtoms_all (ts : List Jvm.Cond) (a : Array Jvm.Value) (st : Jvm.State) : (allAtoms ts).before a st = ts.all (fun c => c.before a st) := by
  induction ts with
  | nil => rfl
  | cons c t ih =>
    show (Jvm.Cond.and c (allAtoms t)).before a st = _
    rw [Jvm.Cond.before_and, ih, List.all_cons]
def words1 : List Jvm.Cond := Jvm.Cond.code x code maxLocals ret :: tables_1
/-- a 'code' word, met by the world's own term for the bytes: nothing is compared byte by byte -/
theorem code_word {y : MethodName} {bytes : ByteArray} {mx : Nat} {rt : Option FieldType} {a : Array Value} {s : State} {m : MethodId} {meth : Method} {c : Code} (h1 : s.methodNamed? y = some m) (h2 : s.vm.method? m = some meth) (h3 : meth.code = some c) (h4 : c.code = bytes)
    (h5 : (c.maxLocals == mx && c.exceptionTable.isEmpty && decide (c.maxStack ≤ mostOperands) && decide (meth.sig.returnType = rt) && !meth.locks && decide (parseMethodDescriptor y.desc = some meth.sig)) = true) : (Jvm.Cond.code y bytes mx rt).before a s = true := by
  simp only [Bool.and_eq_true, beq_iff_eq, Bool.not_eq_true', decide_eq_true_eq] at h5
  obtain ⟨⟨⟨⟨⟨g1, g2⟩, g3⟩, g4⟩, g5⟩, g6⟩ := h5
  simp [Cond.before, Cond.holds, Cond.value, h1, h2, h3, h4, g1, g2, g3, g4, g5, g6]
def isCode : Jvm.Cond → Bool
  | .code _ _ _ _ => true
  | _ => false
theorem all_split {L : List Jvm.Cond} {P : Jvm.Cond → Bool} (h1 : L.all (fun c => isCode c || P c) = true) (h2 : ∀ c ∈ L.filter isCode, P c = true) : L.all P = true := by
  refine List.all_eq_true.mpr fun c hc => ?_
  have h := List.all_eq_true.mp h1 c hc
  rcases Bool.eq_false_or_eq_true (isCode c) with hi | hi
  · exact h2 c (List.mem_filter.mpr ⟨hc, hi⟩)
  · simpa [hi] using h
set_option maxRecDepth 65536 in
theorem w_c0 : (Jvm.Cond.code x code maxLocals ret).before args0 about1 = true := code_word (m := ⟨1, 1⟩) (meth := k1m1) (c := k1c1) (by decide +kernel) rfl rfl rfl (by decide +kernel)
set_option maxRecDepth 65536 in
theorem w_c1 : (Jvm.Cond.code ({ cls := "com/example/tristream/tristream/LongIndex", name := "<init>", desc := "()V" } : Jvm.MethodName) prog_25_method_1_code (1 : Nat) (Option.none : Option Jvm.ClassFile.FieldType)).before args0 about1 = true := code_word (m := ⟨2, 0⟩) (meth := k2m0) (c := k2c0) (by decide +kernel) rfl rfl rfl (by decide +kernel)
set_option maxRecDepth 65536 in
theorem w_c2 : (Jvm.Cond.code ({ cls := "java/lang/Object", name := "<init>", desc := "()V" } : Jvm.MethodName) object_method_1_code (1 : Nat) (Option.none : Option Jvm.ClassFile.FieldType)).before args0 about1 = true := code_word (m := ⟨0, 0⟩) (meth := k0m0) (c := k0c0) (by decide +kernel) rfl rfl rfl (by decide +kernel)
set_option maxRecDepth 65536 in
theorem w_c3 : (Jvm.Cond.code ({ cls := "java/lang/Integer", name := "numberOfTrailingZeros", desc := "(I)I" } : Jvm.MethodName) jdk_33_method_48_code (2 : Nat) (Option.some Jvm.ClassFile.FieldType.int)).before args0 about1 = true := code_word (m := ⟨8, 0⟩) (meth := k8m0) (c := k8c0) (by decide +kernel) rfl rfl rfl (by decide +kernel)
set_option maxRecDepth 65536 in
theorem w_c4 : (Jvm.Cond.code ({ cls := "com/example/tristream/tristream/LongIndex", name := "add", desc := "(J)I" } : Jvm.MethodName) prog_25_method_5_code (4 : Nat) (Option.some Jvm.ClassFile.FieldType.int)).before args0 about1 = true := code_word (m := ⟨2, 2⟩) (meth := k2m2) (c := k2c2) (by decide +kernel) rfl rfl rfl (by decide +kernel)
set_option maxRecDepth 65536 in
theorem w_c5 : (Jvm.Cond.code ({ cls := "com/example/tristream/tristream/LongIndex", name := "find", desc := "(J)I" } : Jvm.MethodName) prog_25_method_7_code (5 : Nat) (Option.some Jvm.ClassFile.FieldType.int)).before args0 about1 = true := code_word (m := ⟨2, 4⟩) (meth := k2m4) (c := k2c4) (by decide +kernel) rfl rfl rfl (by decide +kernel)
set_option maxRecDepth 65536 in
theorem w_c6 : (Jvm.Cond.code ({ cls := "com/example/tristream/tristream/LongIndex", name := "home", desc := "(J)I" } : Jvm.MethodName) prog_25_method_8_code (3 : Nat) (Option.some Jvm.ClassFile.FieldType.int)).before args0 about1 = true := code_word (m := ⟨2, 5⟩) (meth := k2m5) (c := k2c5) (by decide +kernel) rfl rfl rfl (by decide +kernel)
set_option maxRecDepth 65536 in
theorem w_c7 : (Jvm.Cond.code ({ cls := "com/example/tristream/tristream/LongIndex", name := "resize", desc := "(I)V" } : Jvm.MethodName) prog_25_method_10_code (5 : Nat) (Option.none : Option Jvm.ClassFile.FieldType)).before args0 about1 = true := code_word (m := ⟨2, 7⟩) (meth := k2m7) (c := k2c7) (by decide +kernel) rfl rfl rfl (by decide +kernel)
set_option maxRecDepth 65536 in
theorem w_c8 : (Jvm.Cond.code ({ cls := "java/util/Arrays", name := "copyOf", desc := "([JI)[J" } : Jvm.MethodName) jdk_65_method_124_code (3 : Nat) (Option.some (Jvm.ClassFile.FieldType.array Jvm.ClassFile.FieldType.long))).before args0 about1 = true := code_word (m := ⟨9, 1⟩) (meth := k9m1) (c := k9c1) (by decide +kernel) rfl rfl rfl (by decide +kernel)
set_option maxRecDepth 65536 in
theorem w_c9 : (Jvm.Cond.code ({ cls := "java/lang/Math", name := "min", desc := "(II)I" } : Jvm.MethodName) jdk_29_method_69_code (2 : Nat) (Option.some Jvm.ClassFile.FieldType.int)).before args0 about1 = true := code_word (m := ⟨10, 1⟩) (meth := k10m1) (c := k10c1) (by decide +kernel) rfl rfl rfl (by decide +kernel)
set_option maxRecDepth 65536 in
theorem w_c10 : (Jvm.Cond.code ({ cls := "com/example/tristream/tristream/LongIndex", name := "indexOf", desc := "(J)I" } : Jvm.MethodName) prog_25_method_4_code (3 : Nat) (Option.some Jvm.ClassFile.FieldType.int)).before args0 about1 = true := code_word (m := ⟨2, 1⟩) (meth := k2m1) (c := k2c1) (by decide +kernel) rfl rfl rfl (by decide +kernel)
set_option maxRecDepth 65536 in
theorem w_c11 : (Jvm.Cond.code ({ cls := "com/example/tristream/tristream/LongIndexIndexOfPinLaw", name := "expected", desc := "([JIJ)I" } : Jvm.MethodName) method_3_code (4 : Nat) (Option.some Jvm.ClassFile.FieldType.int)).before args0 about1 = true := code_word (m := ⟨1, 2⟩) (meth := k1m2) (c := k1c2) (by decide +kernel) rfl rfl rfl (by decide +kernel)
set_option maxRecDepth 65536 in
theorem w_c12 : (Jvm.Cond.code ({ cls := "com/example/tristream/tristream/LongIndex", name := "remove", desc := "(J)V" } : Jvm.MethodName) prog_25_method_6_code (7 : Nat) (Option.none : Option Jvm.ClassFile.FieldType)).before args0 about1 = true := code_word (m := ⟨2, 3⟩) (meth := k2m3) (c := k2c3) (by decide +kernel) rfl rfl rfl (by decide +kernel)
set_option maxRecDepth 65536 in
theorem w_c13 : (Jvm.Cond.code ({ cls := "com/example/tristream/tristream/LongIndex", name := "clear", desc := "(I)V" } : Jvm.MethodName) prog_25_method_9_code (6 : Nat) (Option.none : Option Jvm.ClassFile.FieldType)).before args0 about1 = true := code_word (m := ⟨2, 6⟩) (meth := k2m6) (c := k2c6) (by decide +kernel) rfl rfl rfl (by decide +kernel)
def codes1 : List Jvm.Cond := [Jvm.Cond.code x code maxLocals ret, Jvm.Cond.code ({ cls := "com/example/tristream/tristream/LongIndex", name := "<init>", desc := "()V" } : Jvm.MethodName) prog_25_method_1_code (1 : Nat) (Option.none : Option Jvm.ClassFile.FieldType), Jvm.Cond.code ({ cls := "java/lang/Object", name := "<init>", desc := "()V" } : Jvm.MethodName) object_method_1_code (1 : Nat) (Option.none : Option Jvm.ClassFile.FieldType), Jvm.Cond.code ({ cls := "java/lang/Integer", name := "numberOfTrailingZeros", desc := "(I)I" } : Jvm.MethodName) jdk_33_method_48_code (2 : Nat) (Option.some Jvm.ClassFile.FieldType.int), Jvm.Cond.code ({ cls := "com/example/tristream/tristream/LongIndex", name := "add", desc := "(J)I" } : Jvm.MethodName) prog_25_method_5_code (4 : Nat) (Option.some Jvm.ClassFile.FieldType.int), Jvm.Cond.code ({ cls := "com/example/tristream/tristream/LongIndex", name := "find", desc := "(J)I" } : Jvm.MethodName) prog_25_method_7_code (5 : Nat) (Option.some Jvm.ClassFile.FieldType.int), Jvm.Cond.code ({ cls := "com/example/tristream/tristream/LongIndex", name := "home", desc := "(J)I" } : Jvm.MethodName) prog_25_method_8_code (3 : Nat) (Option.some Jvm.ClassFile.FieldType.int), Jvm.Cond.code ({ cls := "com/example/tristream/tristream/LongIndex", name := "resize", desc := "(I)V" } : Jvm.MethodName) prog_25_method_10_code (5 : Nat) (Option.none : Option Jvm.ClassFile.FieldType), Jvm.Cond.code ({ cls := "java/util/Arrays", name := "copyOf", desc := "([JI)[J" } : Jvm.MethodName) jdk_65_method_124_code (3 : Nat) (Option.some (Jvm.ClassFile.FieldType.array Jvm.ClassFile.FieldType.long)), Jvm.Cond.code ({ cls := "java/lang/Math", name := "min", desc := "(II)I" } : Jvm.MethodName) jdk_29_method_69_code (2 : Nat) (Option.some Jvm.ClassFile.FieldType.int), Jvm.Cond.code ({ cls := "com/example/tristream/tristream/LongIndex", name := "indexOf", desc := "(J)I" } : Jvm.MethodName) prog_25_method_4_code (3 : Nat) (Option.some Jvm.ClassFile.FieldType.int), Jvm.Cond.code ({ cls := "com/example/tristream/tristream/LongIndexIndexOfPinLaw", name := "expected", desc := "([JIJ)I" } : Jvm.MethodName) method_3_code (4 : Nat) (Option.some Jvm.ClassFile.FieldType.int), Jvm.Cond.code ({ cls := "com/example/tristream/tristream/LongIndex", name := "remove", desc := "(J)V" } : Jvm.MethodName) prog_25_method_6_code (7 : Nat) (Option.none : Option Jvm.ClassFile.FieldType), Jvm.Cond.code ({ cls := "com/example/tristream/tristream/LongIndex", name := "clear", desc := "(I)V" } : Jvm.MethodName) prog_25_method_9_code (6 : Nat) (Option.none : Option Jvm.ClassFile.FieldType)]
set_option maxRecDepth 65536 in
theorem codes_eq : words1.filter isCode = codes1 := rfl
theorem w_codes : ∀ c ∈ words1.filter isCode, c.before args0 about1 = true := by
  rw [codes_eq]
  intro c hc
  simp only [codes1, List.mem_cons, List.not_mem_nil, or_false] at hc
  rcases hc with rfl | rfl | rfl | rfl | rfl | rfl | rfl | rfl | rfl | rfl | rfl | rfl | rfl | rfl
  · exact w_c0
  · exact w_c1
  · exact w_c2
  · exact w_c3
  · exact w_c4
  · exact w_c5
  · exact w_c6
  · exact w_c7
  · exact w_c8
  · exact w_c9
  · exact w_c10
  · exact w_c11
  · exact w_c12
  · exact w_c13
set_option maxRecDepth 65536 in
theorem w_t1 : (words1.take 24).all (fun c => isCode c || c.before args0 about1) = true := by decide +kernel
set_option maxRecDepth 65536 in
theorem w_t2 : ((words1.drop 24).take 24).all (fun c => isCode c || c.before args0 about1) = true := by decide +kernel
set_option maxRecDepth 65536 in
theorem w_t3 : (((words1.drop 24).drop 24).take 24).all (fun c => isCode c || c.before args0 about1) = true := by decide +kernel
set_option maxRecDepth 65536 in
theorem w_t4 : (((words1.drop 24).drop 24).drop 24).all (fun c => isCode c || c.before args0 about1) = true := by decide +kernel
theorem w_tables : (allAtoms (Jvm.Cond.code x code maxLocals ret :: tables_1)).before args0 about1 = true := by
  rw [allAtoms_all]
  show words1.all (fun c => c.before args0 about1) = true
  refine all_split ?_ w_codes
  rw [← List.take_append_drop 24 words1, List.all_append, w_t1, ← List.take_append_drop 24 (words1.drop 24), List.all_append, w_t2, ← List.take_append_drop 24 ((words1.drop 24).drop 24), List.all_append, w_t3, w_t4]
  rfl
set_option maxRecDepth 65536 in
theorem w_case : (Jvm.Cond.and given_1 narrow_1).before args0 about1 = true := by decide +kernel
theorem w_applies : (headSpec (Jvm.Cond.code x code maxLocals ret :: tables_1) room_1).applies x e0.platform about1 = true :=
  (Spec.applies_iff w_frames).mpr ⟨w_running, w_runnable, w_alone, w_named, w_hears, w_ripe, w_room, w_tables⟩
theorem atStart : AtStart classFile x code maxLocals ret World_1 tables_1 room_1 Calls_1 rest_1 Pre_1 launch0 p0 e0 about1 theMethod args0 below0 :=
  ⟨lists_1, trivial, launch0.admits_env _ _ _, launch0.least_env, fairChoices_fair.cas, fairChoices_fair.clock, w_frames, w_args, w_heap, w_applies, trivial, trivial, w_case⟩
end start1
theorem witness_1 : WitnessClaimed_1 := ⟨start1.p0, start1.e0, start1.about1, start1.theMethod, start1.args0, start1.below0, start1.atStart⟩
end Jvm.Pilot.@@N@@
