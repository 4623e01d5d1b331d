import JvmDerived
import JvmDerived.Pilot.@@N@@Statement
import JvmDerived.Pilot.@@N@@Code
set_option linter.unusedVariables false
set_option linter.unusedSimpArgs false
namespace Jvm.Pilot.@@N@@
open Jvm Jvm.ClassFile Sem Op Lib Jvm.Free Jvm.Stand Jvm.LawKit Jvm.RoadKit Bundle Jvm.Pilot.@@N@@.Jvm.D
section Own
variable {p : Program} {l : Launch} {e : Env} {R : Room} {s : State} {m : MethodId} {args : Array Value} {below : List Frame} {meth : Method} {c : Code} {T : State} {locs : List Loc} {cells slots : Nat} {Z : State} {a0 : Array Value} {h h' : Heap}
/-- from S the walk comes to the method's end, where Q holds of what is returned, the heap and the written places -/
def OEnds (p : Program) (e : Env) (below : List Frame) (s : State) (Q : Option Value → Heap → List Loc → Prop) (K N : Nat) (S : State) : Prop :=
  ∃ s₂ o, Steps p.tables e below S s₂ ∧ s₂.status = .running ∧ Ended s₂ below o ∧ ∃ v L, o = .returned v ∧ Q v s₂.heap L ∧ FrameEnd s o s₂ L K N
variable {Q Q' : Option Value → Heap → List Loc → Prop} {K N : Nat} {S S' : State}
theorem own_by (st : ∀ t, Steps p.tables e below S' t → Steps p.tables e below S t) (k : OEnds p e below s Q K N S') : OEnds p e below s Q K N S := by
  obtain ⟨a, o, h1, h2⟩ := k
  exact ⟨a, o, st _ h1, h2⟩
theorem own_tr (st : Steps p.tables e below S S') (k : OEnds p e below s Q K N S') : OEnds p e below s Q K N S := by
  obtain ⟨a, o, h1, h2⟩ := k
  exact ⟨a, o, st.trans h1, h2⟩
theorem own_mono (f : ∀ v h L, Q' v h L → Q v h L) (k : OEnds p e below s Q' K N S) : OEnds p e below s Q K N S := by
  obtain ⟨a, o, h1, h2, h3, v, L, h4, h5, h6⟩ := k
  exact ⟨a, o, h1, h2, h3, v, L, h4, f _ _ _ h5, h6⟩
theorem own_fin (X : Stand p l e R s m args below meth c T locs cells slots) (hlk : meth.locks = false) {v : Option Value} (hv : meth.sig.returnType = none → v = none) (hQ : Q v T.heap locs) (hK : cells ≤ K) (hN : slots ≤ N)
    (hst : ∀ fs, (∀ (f : JFrame) (acts : List Action), f.method = m → f.locked = none → f.entered = [] → (doReturn e (T.setTop f) acts v).1 = T.setFrames fs) → Steps p.tables e below S (T.setFrames fs)) : OEnds p e below s Q K N S := by
  obtain ⟨fs, hr, hrun, hended, hW, hsame⟩ := X.leave hv hlk
  exact ⟨_, _, hst fs hr, hrun, hended, _, _, rfl, hQ, ⟨_, rfl⟩, hW, hsame.mono hK hN⟩
theorem own_retI (X : Stand p l e R s m args below meth c T locs cells slots) (hx : p.tables.exec = Jvm.exec) (hlk : meth.locks = false) {pc : Nat} {Ls : Array Slot} {z : Int32} {rest : List Value} (hret : meth.sig.returnType = some .int) (hd : decode c.code pc = .ok (.ireturn, 1))
    (hQ : Q (some (.int z)) T.heap locs) (hK : cells ≤ K) (hN : slots ≤ N) : OEnds p e below s Q K N (T.setTop (mkF m pc Ls (.int z :: rest))) :=
  own_fin X hlk (fun q => by rw [hret] at q; cases q) hQ hK hN fun _ hr => retOut X hx hret rfl (Or.inl ⟨rfl, Or.inl rfl, _, rfl⟩) hd hr
theorem own_retN (X : Stand p l e R s m args below meth c T locs cells slots) (hx : p.tables.exec = Jvm.exec) (hlk : meth.locks = false) (t : FieldType) (ht : t = .boolean ∨ t = .byte ∨ t = .char ∨ t = .short) {pc : Nat} {Ls : Array Slot} {z : Int32} {rest : List Value} (hret : meth.sig.returnType = some t) (hd : decode c.code pc = .ok (.ireturn, 1))
    (hQ : Q (some (.int (nar t z))) T.heap locs) (hK : cells ≤ K) (hN : slots ≤ N) : OEnds p e below s Q K N (T.setTop (mkF m pc Ls (.int z :: rest))) :=
  own_fin X hlk (fun q => by rw [hret] at q; cases q) hQ hK hN fun _ hr => retN X hx hret ht hd hr
theorem own_retJ (X : Stand p l e R s m args below meth c T locs cells slots) (hx : p.tables.exec = Jvm.exec) (hlk : meth.locks = false) {pc : Nat} {Ls : Array Slot} {z : Int64} {rest : List Value} (hret : meth.sig.returnType = some .long) (hd : decode c.code pc = .ok (.lreturn, 1))
    (hQ : Q (some (.long z)) T.heap locs) (hK : cells ≤ K) (hN : slots ≤ N) : OEnds p e below s Q K N (T.setTop (mkF m pc Ls (.long z :: rest))) :=
  own_fin X hlk (fun q => by rw [hret] at q; cases q) hQ hK hN fun _ hr => retOut X hx hret rfl (Or.inr (Or.inl ⟨rfl, rfl, _, rfl⟩)) hd hr
theorem own_retA (X : Stand p l e R s m args below meth c T locs cells slots) (hx : p.tables.exec = Jvm.exec) (hlk : meth.locks = false) {t : FieldType} (ht : t.isReference = true) {pc : Nat} {Ls : Array Slot} {a : Addr} {rest : List Value} (hret : meth.sig.returnType = some t) (hn : narrow t (.ref a) = .ref a) (hd : decode c.code pc = .ok (.areturn, 1))
    (hQ : Q (some (.ref a)) T.heap locs) (hK : cells ≤ K) (hN : slots ≤ N) : OEnds p e below s Q K N (T.setTop (mkF m pc Ls (.ref a :: rest))) :=
  own_fin X hlk (fun q => by rw [hret] at q; cases q) hQ hK hN fun _ hr => retOut X hx hret hn (Or.inr (Or.inr (Or.inr (Or.inr ⟨rfl, ht, rfl⟩)))) hd hr
theorem own_retV (X : Stand p l e R s m args below meth c T locs cells slots) (hx : p.tables.exec = Jvm.exec) (hlk : meth.locks = false) {pc : Nat} {Ls : Array Slot} (hret : meth.sig.returnType = none) (hd : decode c.code pc = .ok (.return_, 1))
    (hQ : Q none T.heap locs) (hK : cells ≤ K) (hN : slots ≤ N) : OEnds p e below s Q K N (T.setTop (mkF m pc Ls [])) :=
  own_fin X hlk (fun _ => rfl) hQ hK hN fun _ hr => X.returnOut hx hret hd hr
/-- what a plain method leaves: its value, nothing written, the heap as it was -/
def QP (r : Value) (h0 : Heap) (v : Option Value) (h : Heap) (L : List Loc) : Prop := v = some r ∧ L = [] ∧ h = h0
theorem own_eq {r r' : Value} {h0 : Heap} (q : r = r') (k : OEnds p e below s (QP r' h0) K N S) : OEnds p e below s (QP r h0) K N S := by subst q; exact k
theorem own_lrem {g : JFrame} {target : State} (X : Stand p l e R s m args below meth c T locs cells slots) (hx : p.tables.exec = Jvm.exec) (hg : g.method = m) {x y : Int64} {rest : List Value} (hd : decode c.code g.pc = .ok (.lrem, 1)) (hs : g.stack = .long y :: .long x :: rest) (hy : y ≠ 0)
    (hr : Steps p.tables e below (T.setTop { g with pc := g.pc + 1, stack := .long (x % y) :: rest }) target) : Steps p.tables e below (T.setTop g) target := by
  have q : x - x / y * y = x % y := lrem_mod x y
  exact XS.lrem X.here hx hg hd hs hy (by rw [q]; exact hr)
/-- a call of a plain static method by its contract -/
theorem own_callP (X : Stand p l e R s m args below meth c T locs cells slots) (hx : p.tables.exec = Jvm.exec) (hZ : Z.Warmed39 s.vm) {own : String} {index : Nat} {y : MethodName} {bytes : ByteArray} {maxL : Nat} {ret : Option FieldType} {fr lo : Nat} {r : Value} {argsL rest : List Value} {g : JFrame}
    (hown : s.vm.findClass own = some m.cls) (w1 : (Cond.methodLink own index y).before a0 Z = true) (w2 : (Cond.static y).before a0 Z = true) (w3 : (Cond.initialized y.cls).before a0 Z = true) (w4 : (Cond.code y bytes maxL ret).before a0 Z = true)
    (hy : y.cls ≠ "java/lang/invoke/MethodHandle" ∧ y.cls ≠ "java/lang/invoke/VarHandle")
    (hM : MetFree l y (head1 [Cond.code y bytes maxL ret] ({ frames := fr, cells := 0, slots := 0, locals := lo } : Room)) (fun a U => a = argsL.toArray ∧ Z.Warmed39 U.vm ∧ U.heap = h) (fun _ _ _ _ _ => True) (fun _ U o U' => ∃ v L, o = .returned v ∧ QP r h v U'.heap L ∧ FrameEnd U o U' L 0 0))
    (eT : T.heap = h) (hg : g.method = m) (hsize : g.locals.size = c.maxLocals) (hlen : ∀ sig, parseMethodDescriptor y.desc = some sig → argsL.length = sig.parameters.length) (hstack : g.stack = argsL.reverse ++ rest) {W : Nat} (hW : 2 * g.monitorRoom + (rest.map fun v => v.category).sum ≤ W)
    (hd : decode c.code g.pc = .ok (.invokestatic index, 3)) (hf : fr + 1 ≤ R.frames) (hl : W + (maxL + 11) + lo ≤ R.locals) (hc : cells ≤ R.cells) (hs : slots ≤ R.slots) :
    ∃ T', Stand p l e R s m args below meth c T' locs cells slots ∧ T'.heap = h ∧ ∀ target, Steps p.tables e below (T'.setTop { g with pc := g.pc + 3, stack := r :: rest }) target → Steps p.tables e below (T.setTop g) target := by
  obtain ⟨_, _, ⟨T1, L1, k1, n1⟩, -, X1, ⟨Lc, hQ, l1, y1, z1⟩, st⟩ := Jvm.LawKit.callS X hx (y := y) hown (mvT hZ w1) (mvT hZ w2) (mvT hZ w3) (mvT hZ w4) hy (backOf (rm := ({ frames := fr, cells := 0, slots := 0, locals := lo } : Room)) (W := W) hM hZ w4 w3 hf hl) (g := g) hg hsize (argsL := argsL) (rest := rest) hlen hstack hW hd (fun _ _ => ⟨rfl, eT, hc, hs⟩)
  dsimp only [Pt.U, Pt.locs, Pt.cells, Pt.slots] at X1 l1 y1 z1 st hQ
  subst l1 y1 z1
  obtain ⟨rfl, rfl, e1⟩ := hQ
  rw [List.append_nil] at X1
  exact ⟨T1, X1, e1, st⟩
end Own
section Own2
variable {p : Program} {l : Launch} {e : Env} {R : Room} {s : State} {m : MethodId} {args : Array Value} {below : List Frame} {meth : Method} {c : Code} {T : State} {locs : List Loc} {cells slots : Nat} {Z : State} {a0 : Array Value} {h h' : Heap}
  {a b : Addr} {C : String} {sch : List (String × String)} {vs : List Value} {ws : List Addr} {sl : Nat} {v : Value}
/-- the object at a is exactly a C, and its fields (in the order of sch) hold vs -/
def Obj (Z : State) (h : Heap) (a : Addr) (C : String) (sch : List (String × String)) (vs : List Value) : Prop :=
  Exa Z h a C ∧ ∀ (i : Nat) (n d : String) (v : Value), sch[i]? = some (n, d) → vs[i]? = some v → Fld Z h a C n d v
def SchOk (Z : State) (a0 : Array Value) (C : String) (sch : List (String × String)) : Prop :=
  (∀ q ∈ sch, Laid Z a0 C C q.1 q.2) ∧ (∀ q ∈ sch, (parseFieldDescriptor q.2).isSome = true) ∧ (sch.map (·.1)).Nodup
theorem Obj.exa (O : Obj Z h a C sch vs) : Exa Z h a C := O.1
theorem Obj.lt (O : Obj Z h a C sch vs) : a < h.size := O.1.lt
theorem Obj.fld (O : Obj Z h a C sch vs) (i : Nat) {n d : String} {v : Value} (h1 : sch[i]? = some (n, d)) (h2 : vs[i]? = some v) : Fld Z h a C n d v := O.2 i n d v h1 h2
theorem Obj.ext (O : Obj Z h a C sch vs) (E : Ext h h') : Obj Z h' a C sch vs := ⟨O.1.ext E, fun i n d v h1 h2 => (O.2 i n d v h1 h2).ext E⟩
theorem Obj.other (O : Obj Z h b C sch vs) (W : Wr h h' a sl v) (q : b ≠ a) : Obj Z h' b C sch vs := ⟨O.1.wr W, fun i n d v h1 h2 => (O.2 i n d v h1 h2).other W (Or.inl q)⟩
theorem Obj.keep (O : Obj Z h a C sch vs) (K : Keep h h' ws) (q : a ∉ ws) : Obj Z h' a C sch vs := ⟨O.1.keep K, fun i n d v h1 h2 => (O.2 i n d v h1 h2).keep K q⟩
theorem sch_ne (S : SchOk Z a0 C sch) {i j : Nat} {n d n' d' : String} (hi : sch[i]? = some (n, d)) (hj : sch[j]? = some (n', d')) (ne : i ≠ j) : n ≠ n' := by
  intro q
  have h3 := S.2.2
  rw [List.nodup_iff_pairwise_ne, List.pairwise_iff_getElem] at h3
  have e1 : (sch.map (·.1))[i]? = some n := by rw [List.getElem?_map, hi]; rfl
  have e2 : (sch.map (·.1))[j]? = some n' := by rw [List.getElem?_map, hj]; rfl
  obtain ⟨l1, f1⟩ := List.getElem?_eq_some_iff.mp e1
  obtain ⟨l2, f2⟩ := List.getElem?_eq_some_iff.mp e2
  rcases Nat.lt_or_gt_of_ne ne with k | k
  · exact h3 i j l1 l2 k (by rw [f1, f2, q])
  · exact h3 j i l2 l1 k (by rw [f1, f2, q])
theorem sch_ty (S : SchOk Z a0 C sch) {i : Nat} {n d : String} (hi : sch[i]? = some (n, d)) : ∃ t, parseFieldDescriptor d = some t :=
  Option.isSome_iff_exists.mp (S.2.1 _ (List.mem_of_getElem? hi))
theorem Obj.set (O : Obj Z h a C sch vs) (S : SchOk Z a0 C sch) {n d : String} (W : Wr h h' a (Jvm.RoadKit.slotOf Z C n d) v) (i : Nat) (hi : sch[i]? = some (n, d)) (hl : i < vs.length) : Obj Z h' a C sch (vs.set i v) := by
  refine ⟨O.1.wr W, fun j n' d' w h1 h2 => ?_⟩
  by_cases q : j = i
  · subst q
    cases hi.symm.trans h1
    rw [List.getElem?_set_self hl] at h2
    cases h2
    exact Fld.same W (O.2 j n d _ hi (List.getElem?_eq_getElem hl))
  · rw [List.getElem?_set_ne (Ne.symm q)] at h2
    obtain ⟨t, ht⟩ := sch_ty S hi
    obtain ⟨t', ht'⟩ := sch_ty S h1
    have L1 : Laid Z a0 C C n' d' := S.1 (n', d') (List.mem_of_getElem? h1)
    have L2 : Laid Z a0 C C n d := S.1 (n, d) (List.mem_of_getElem? hi)
    exact Fld.other W (O.2 j n' d' w h1 h2) (Or.inr (slot_ne L1 L2 (sch_ne S h1 hi q) ht' ht))
theorem Obj.new (S : SchOk Z a0 C sch) (A : Exa Z h a C) (D : ∀ {O nm d : String} {ty : FieldType}, Laid Z a0 C O nm d → parseFieldDescriptor d = some ty → Fld Z h a O nm d (defaultValue ty)) (tys : List FieldType) (ht : sch.map (fun q => parseFieldDescriptor q.2) = tys.map some) : Obj Z h a C sch (tys.map defaultValue) := by
  refine ⟨A, fun i n d v h1 h2 => ?_⟩
  rw [List.getElem?_map] at h2
  have e1 : (sch.map (fun q => parseFieldDescriptor q.2))[i]? = some (parseFieldDescriptor d) := by rw [List.getElem?_map, h1]; rfl
  rw [ht, List.getElem?_map] at e1
  cases hq : tys[i]? with
  | none => rw [hq] at e1; cases e1
  | some t =>
    rw [hq] at e1 h2
    cases h2
    exact D (S.1 _ (List.mem_of_getElem? h1)) (Option.some.inj e1).symm
/-- an array of n places whose i-th holds f i -/
def FA (Z : State) (h : Heap) (a : Addr) (ty : FieldType) (n : Nat) (f : Nat → Value) : Prop :=
  ∃ c : Cell, Arr Z h a c ty ∧ c.slots.size = n ∧ n < 2 ^ 31 ∧ ∀ i, i < n → c.slots[i]? = some (f i)
variable {ty ty' : FieldType} {n n' : Nat} {f f' : Nat → Value}
theorem FA.lt (F : FA Z h a ty n f) : a < h.size := by obtain ⟨c, A, -⟩ := F; exact A.lt
theorem FA.ext (F : FA Z h a ty n f) (E : Ext h h') : FA Z h' a ty n f := by obtain ⟨c, A, r⟩ := F; exact ⟨c, A.ext E, r⟩
theorem FA.other (F : FA Z h b ty n f) (W : Wr h h' a sl v) (q : b ≠ a) : FA Z h' b ty n f := by obtain ⟨c, A, r⟩ := F; exact ⟨c, A.other W q, r⟩
theorem FA.keep (F : FA Z h a ty n f) (K : Keep h h' ws) (q : a ∉ ws) : FA Z h' a ty n f := by obtain ⟨c, A, r⟩ := F; exact ⟨c, ⟨K.2.1 _ _ A.1 q, A.2⟩, r⟩
theorem FA.congr (F : FA Z h a ty n f) (q : ∀ i, i < n → f i = f' i) : FA Z h a ty n f' := by
  obtain ⟨c, A, r1, r2, r3⟩ := F
  exact ⟨c, A, r1, r2, fun i hi => by rw [r3 i hi, q i hi]⟩
theorem FA.new {k : ClassId} {z : Int32} (A : Arr Z h a (newA k ty z) ty) (q : ¬ z < 0) (hn : z.toNatClampNeg = n) {d : Value} (hd : defaultValue ty = d) : FA Z h a ty n (fun _ => d) := by
  subst hn hd
  refine ⟨_, A, sz_new _ _ _, (back32 q).2, fun i hi => ?_⟩
  show (Array.replicate z.toNatClampNeg (defaultValue ty))[i]? = _
  simp [hi]
theorem FA.set (F : FA Z h a ty n f) {k : Nat} (W : Wr h h' a k v) : FA Z h' a ty n (fun i => if i = k then v else f i) := by
  obtain ⟨c, A, r1, r2, r3⟩ := F
  refine ⟨c.setSlot k v, A.same W, by rw [sz_set]; exact r1, r2, fun i hi => ?_⟩
  show (c.slots.setIfInBounds k v)[i]? = _
  by_cases q : i = k
  · subst q; simp [r1, hi]
  · rw [Array.getElem?_setIfInBounds_ne (Ne.symm q), r3 i hi]; simp [q]
theorem FA.ne_ty (F : FA Z h a ty n f) (G : FA Z h b ty' n' f') (q : ty ≠ ty') : a ≠ b := fun e => by
  subst e
  obtain ⟨c, A, -⟩ := F
  obtain ⟨c', A', -⟩ := G
  cases A.1.symm.trans A'.1
  obtain ⟨-, k1, j1, comp, j2⟩ := A.2.1
  obtain ⟨-, k2, i1, comp', i2⟩ := A'.2.1
  cases j1.symm.trans i1
  rw [j2] at i2
  cases i2
  exact q rfl
theorem Obj.ne_fa {kk : Nat} (O : Obj Z h a C sch vs) (wi : (Cond.instantiable C kk).before a0 Z = true) (F : FA Z h b ty n f) : a ≠ b := by
  obtain ⟨c, A, -⟩ := F
  exact ne_arr O.1 wi A
theorem nat_at {j : Int32} {k : Nat} (hk : j.toInt = (k : Int)) : j.toNatClampNeg = k ∧ ¬ j < 0 := by
  refine ⟨by show j.toInt.toNat = k; rw [hk]; rfl, fun q => ?_⟩
  rw [Int32.lt_iff_toInt_lt, hk] at q
  have : (0 : Int32).toInt = 0 := by decide
  omega
theorem inb {j : Int32} {k : Nat} {c : Cell} (hk : j.toInt = (k : Int)) (hn : c.slots.size = n) (hl : k < n) : ¬ (j < 0 ∨ c.slots.size ≤ j.toNatClampNeg) := by
  obtain ⟨h1, h2⟩ := nat_at hk
  rw [h1, hn]
  rintro (q | q)
  · exact h2 q
  · omega
theorem own_laload (X : Stand p l e R s m args below meth c T locs cells slots) (hx : p.tables.exec = Jvm.exec) (hZ : Z.Warmed39 s.vm) (eT : T.heap = h) (F : FA Z h a .long n f) {j : Int32} (k : Nat) (hk : j.toInt = (k : Int)) (hl : k < n) (hv : f k = v)
    {g : JFrame} (hg : g.method = m) {rest : List Value} (hs : g.stack = .int j :: .ref a :: rest) (hd : decode c.code g.pc = .ok (.laload, 1)) : ∀ target, Steps p.tables e below (T.setTop { g with pc := g.pc + 1, stack := v :: rest }) target → Steps p.tables e below (T.setTop g) target := by
  obtain ⟨cl, A, r1, r2, r3⟩ := F
  exact fun t k' => X.laload hx (by rw [eT]; exact A.1) (State.isArrayOf_alike hZ.alike A.2.1) A.2.2 (inb hk r1 hl) (by rw [(nat_at hk).1, r3 k hl, hv]) hg hs hd t k'
theorem own_iaload (X : Stand p l e R s m args below meth c T locs cells slots) (hx : p.tables.exec = Jvm.exec) (hZ : Z.Warmed39 s.vm) (eT : T.heap = h) (F : FA Z h a .int n f) {j : Int32} (k : Nat) (hk : j.toInt = (k : Int)) (hl : k < n) (hv : f k = v)
    {g : JFrame} (hg : g.method = m) {rest : List Value} (hs : g.stack = .int j :: .ref a :: rest) (hd : decode c.code g.pc = .ok (.iaload, 1)) : ∀ target, Steps p.tables e below (T.setTop { g with pc := g.pc + 1, stack := v :: rest }) target → Steps p.tables e below (T.setTop g) target := by
  obtain ⟨cl, A, r1, r2, r3⟩ := F
  exact fun t k' => X.iaload hx (by rw [eT]; exact A.1) (State.isArrayOf_alike hZ.alike A.2.1) A.2.2 (inb hk r1 hl) (by rw [(nat_at hk).1, r3 k hl, hv]) hg hs hd t k'
theorem own_baload (X : Stand p l e R s m args below meth c T locs cells slots) (hx : p.tables.exec = Jvm.exec) (hZ : Z.Warmed39 s.vm) (eT : T.heap = h) (F : FA Z h a .byte n f) {j : Int32} (k : Nat) (hk : j.toInt = (k : Int)) (hl : k < n) (hv : f k = v)
    {g : JFrame} (hg : g.method = m) {rest : List Value} (hs : g.stack = .int j :: .ref a :: rest) (hd : decode c.code g.pc = .ok (.baload, 1)) : ∀ target, Steps p.tables e below (T.setTop { g with pc := g.pc + 1, stack := v :: rest }) target → Steps p.tables e below (T.setTop g) target := by
  obtain ⟨cl, A, r1, r2, r3⟩ := F
  exact fun t k' => X.baloadBytes hx (by rw [eT]; exact A.1) (State.isArrayOf_alike hZ.alike A.2.1) A.2.2 (inb hk r1 hl) (by rw [(nat_at hk).1, r3 k hl, hv]) hg hs hd t k'
theorem own_aaload (X : Stand p l e R s m args below meth c T locs cells slots) (hx : p.tables.exec = Jvm.exec) (hZ : Z.Warmed39 s.vm) (eT : T.heap = h) (F : FA Z h a ty n f) (hty : ty.isReference = true) {j : Int32} (k : Nat) (hk : j.toInt = (k : Int)) (hl : k < n) (hv : f k = v)
    {g : JFrame} (hg : g.method = m) {rest : List Value} (hs : g.stack = .int j :: .ref a :: rest) (hd : decode c.code g.pc = .ok (.aaload, 1)) : ∀ target, Steps p.tables e below (T.setTop { g with pc := g.pc + 1, stack := v :: rest }) target → Steps p.tables e below (T.setTop g) target := by
  obtain ⟨cl, A, r1, r2, r3⟩ := F
  exact fun t k' => X.aaload hx (by rw [eT]; exact A.1) (State.isArrayOf_alike hZ.alike A.2.1) hty A.2.2 (inb hk r1 hl) (by rw [(nat_at hk).1, r3 k hl, hv]) hg hs hd t k'
theorem own_len (X : Stand p l e R s m args below meth c T locs cells slots) (hx : p.tables.exec = Jvm.exec) (hZ : Z.Warmed39 s.vm) (eT : T.heap = h) (F : FA Z h a ty n f) {z : Int32} (hz : n.toInt32 = z)
    {g : JFrame} (hg : g.method = m) {rest : List Value} (hs : g.stack = .ref a :: rest) (hd : decode c.code g.pc = .ok (.arraylength, 1)) : ∀ target, Steps p.tables e below (T.setTop { g with pc := g.pc + 1, stack := .int z :: rest }) target → Steps p.tables e below (T.setTop g) target := by
  obtain ⟨cl, A, r1, r2, r3⟩ := F
  refine fun t k' => X.arraylength hx (by rw [eT]; exact A.1) (State.isArrayOf_alike hZ.alike A.2.1) hg hs hd t ?_
  rw [r1, hz]; exact k'
theorem own_iastore (X : Stand p l e R s m args below meth c T locs cells slots) (hx : p.tables.exec = Jvm.exec) (hZ : Z.Warmed39 s.vm) (eT : T.heap = h) (F : FA Z h a .int n f) {j x : Int32} (k : Nat) (hk : j.toInt = (k : Int)) (hl : k < n)
    {g : JFrame} (hg : g.method = m) {rest : List Value} (hs : g.stack = .int x :: .int j :: .ref a :: rest) (hd : decode c.code g.pc = .ok (.iastore, 1)) :
    ∃ T' h', Stand p l e R s m args below meth c T' (locs ++ [⟨a, k⟩]) cells slots ∧ T'.heap = h' ∧ Wr h h' a k (.int x) ∧ ∀ target, Steps p.tables e below (T'.setTop { g with pc := g.pc + 1, stack := rest }) target → Steps p.tables e below (T.setTop g) target := by
  obtain ⟨cl, A, r1, r2, r3⟩ := F
  have q := stI X hx hZ eT A (x := x) (inb hk r1 hl) hg hs hd
  rw [(nat_at hk).1] at q
  exact q
theorem own_lastore (X : Stand p l e R s m args below meth c T locs cells slots) (hx : p.tables.exec = Jvm.exec) (hZ : Z.Warmed39 s.vm) (eT : T.heap = h) (F : FA Z h a .long n f) {j : Int32} {x : Int64} (k : Nat) (hk : j.toInt = (k : Int)) (hl : k < n)
    {g : JFrame} (hg : g.method = m) {rest : List Value} (hs : g.stack = .long x :: .int j :: .ref a :: rest) (hd : decode c.code g.pc = .ok (.lastore, 1)) :
    ∃ T' h', Stand p l e R s m args below meth c T' (locs ++ [⟨a, k⟩]) cells slots ∧ T'.heap = h' ∧ Wr h h' a k (.long x) ∧ ∀ target, Steps p.tables e below (T'.setTop { g with pc := g.pc + 1, stack := rest }) target → Steps p.tables e below (T.setTop g) target := by
  obtain ⟨cl, A, r1, r2, r3⟩ := F
  have q := stJ X hx hZ eT A (x := x) (inb hk r1 hl) hg hs hd
  rw [(nat_at hk).1] at q
  exact q
theorem own_bastore (X : Stand p l e R s m args below meth c T locs cells slots) (hx : p.tables.exec = Jvm.exec) (hZ : Z.Warmed39 s.vm) (eT : T.heap = h) (F : FA Z h a .byte n f) {j x : Int32} (k : Nat) (hk : j.toInt = (k : Int)) (hl : k < n)
    {g : JFrame} (hg : g.method = m) {rest : List Value} (hs : g.stack = .int x :: .int j :: .ref a :: rest) (hd : decode c.code g.pc = .ok (.bastore, 1)) :
    ∃ T' h', Stand p l e R s m args below meth c T' (locs ++ [⟨a, k⟩]) cells slots ∧ T'.heap = h' ∧ Wr h h' a k (.int (nar .byte x)) ∧ ∀ target, Steps p.tables e below (T'.setTop { g with pc := g.pc + 1, stack := rest }) target → Steps p.tables e below (T.setTop g) target := by
  obtain ⟨cl, A, r1, r2, r3⟩ := F
  have q := stB X hx hZ eT A (x := x) (inb hk r1 hl) hg hs hd
  rw [(nat_at hk).1] at q
  exact q
/-- the typed updates -/
def updL (f : Nat → Int64) (k : Nat) (x : Int64) : Nat → Int64 := fun i => if i = k then x else f i
def updI (f : Nat → Int32) (k : Nat) (x : Int32) : Nat → Int32 := fun i => if i = k then x else f i
theorem FA.setL {f : Nat → Int64} {x : Int64} (F : FA Z h a ty n (fun i => .long (f i))) {k : Nat} (W : Wr h h' a k (.long x)) : FA Z h' a ty n (fun i => .long (updL f k x i)) :=
  (F.set W).congr fun i _ => by by_cases q : i = k <;> simp [updL, q]
theorem FA.setI {f : Nat → Int32} {x : Int32} (F : FA Z h a ty n (fun i => .int (f i))) {k : Nat} (W : Wr h h' a k (.int x)) : FA Z h' a ty n (fun i => .int (updI f k x i)) :=
  (F.set W).congr fun i _ => by by_cases q : i = k <;> simp [updI, q]
/-- a call by a contract, whatever it writes or makes: static, virtual, a constructor's -/
theorem own_callS (X : Stand p l e R s m args below meth c T locs cells slots) (hx : p.tables.exec = Jvm.exec) (hZ : Z.Warmed39 s.vm) {own : String} {index : Nat} {y : MethodName} {bytes : ByteArray} {maxL : Nat} {ret : Option FieldType} {rm : Room} {Q : Option Value → Heap → List Loc → Prop} {argsL rest : List Value} {g : JFrame}
    (hown : s.vm.findClass own = some m.cls) (w1 : (Cond.methodLink own index y).before a0 Z = true) (w2 : (Cond.static y).before a0 Z = true) (w3 : (Cond.initialized y.cls).before a0 Z = true) (w4 : (Cond.code y bytes maxL ret).before a0 Z = true)
    (hy : y.cls ≠ "java/lang/invoke/MethodHandle" ∧ y.cls ≠ "java/lang/invoke/VarHandle")
    (hM : MetFree l y (head1 [Cond.code y bytes maxL ret] rm) (fun a U => a = argsL.toArray ∧ Z.Warmed39 U.vm ∧ U.heap = h) (fun _ _ _ _ _ => True) (fun _ U o U' => ∃ v L, o = .returned v ∧ Q v U'.heap L ∧ FrameEnd U o U' L rm.cells rm.slots))
    (eT : T.heap = h) (hg : g.method = m) (hsize : g.locals.size = c.maxLocals) (hlen : ∀ sig, parseMethodDescriptor y.desc = some sig → argsL.length = sig.parameters.length) (hstack : g.stack = argsL.reverse ++ rest) {W : Nat} (hW : 2 * g.monitorRoom + (rest.map fun v => v.category).sum ≤ W)
    (hd : decode c.code g.pc = .ok (.invokestatic index, 3)) (hf : rm.frames + 1 ≤ R.frames) (hl : W + (maxL + 11) + rm.locals ≤ R.locals) (hc : cells + rm.cells ≤ R.cells) (hs : slots + rm.slots ≤ R.slots) :
    ∃ v T' L h', Stand p l e R s m args below meth c T' (locs ++ L) (cells + rm.cells) (slots + rm.slots) ∧ T'.heap = h' ∧ Q v h' L ∧ Steps p.tables e below (T.setTop g) (T'.setTop { g with pc := g.pc + 3, stack := v.toList ++ rest }) := by
  obtain ⟨v, _, ⟨T1, L1, k1, n1⟩, -, X1, ⟨Lc, hQ, l1, y1, z1⟩, st⟩ := Jvm.LawKit.callS X hx (y := y) hown (mvT hZ w1) (mvT hZ w2) (mvT hZ w3) (mvT hZ w4) hy (backOf (rm := rm) (W := W) hM hZ w4 w3 hf hl) (g := g) hg hsize (argsL := argsL) (rest := rest) hlen hstack hW hd (fun _ _ => ⟨rfl, eT, hc, hs⟩)
  dsimp only [Pt.U, Pt.locs, Pt.cells, Pt.slots] at X1 l1 y1 z1 st hQ
  subst l1 y1 z1
  exact ⟨v, T1, Lc, _, X1, rfl, hQ, st _ (Steps.refl _)⟩
theorem own_callV (X : Stand p l e R s m args below meth c T locs cells slots) (hx : p.tables.exec = Jvm.exec) (hZ : Z.Warmed39 s.vm) {own : String} {index : Nat} {y : MethodName} {bytes : ByteArray} {maxL : Nat} {ret : Option FieldType} {rm : Room} {Q : Option Value → Heap → List Loc → Prop} {argsL rest : List Value} {g : JFrame}
    (hown : s.vm.findClass own = some m.cls) (w1 : (Cond.methodLink own index y).before a0 Z = true) (w2 : (Cond.declares y).before a0 Z = true) (w3 : (Cond.selects C y y).before a0 Z = true) (w4 : (Cond.instanceMethod y).before a0 Z = true) (w5 : (Cond.code y bytes maxL ret).before a0 Z = true) (w6 : (Cond.initialized y.cls).before a0 Z = true)
    (hy : y.cls ≠ "java/lang/invoke/MethodHandle" ∧ y.cls ≠ "java/lang/invoke/VarHandle") (E : Exa Z h b C)
    (hM : MetFree l y (head1 [Cond.code y bytes maxL ret] rm) (fun a U => a = (.ref b :: argsL).toArray ∧ Z.Warmed39 U.vm ∧ U.heap = h) (fun _ _ _ _ _ => True) (fun _ U o U' => ∃ v L, o = .returned v ∧ Q v U'.heap L ∧ FrameEnd U o U' L rm.cells rm.slots))
    (eT : T.heap = h) (hg : g.method = m) (hsize : g.locals.size = c.maxLocals) (hlen : ∀ sig, parseMethodDescriptor y.desc = some sig → argsL.length = sig.parameters.length) (hstack : g.stack = argsL.reverse ++ .ref b :: rest) {W : Nat} (hW : 2 * g.monitorRoom + (rest.map fun v => v.category).sum ≤ W)
    (hd : decode c.code g.pc = .ok (.invokevirtual index, 3)) (hf : rm.frames + 1 ≤ R.frames) (hl : W + (maxL + 11) + rm.locals ≤ R.locals) (hc : cells + rm.cells ≤ R.cells) (hs : slots + rm.slots ≤ R.slots) :
    ∃ v T' L h', Stand p l e R s m args below meth c T' (locs ++ L) (cells + rm.cells) (slots + rm.slots) ∧ T'.heap = h' ∧ Q v h' L ∧ Steps p.tables e below (T.setTop g) (T'.setTop { g with pc := g.pc + 3, stack := v.toList ++ rest }) := by
  obtain ⟨cq, kq, qa, qb, qc⟩ := isOf hZ eT E
  obtain ⟨v, _, ⟨T1, L1, k1, n1⟩, -, X1, ⟨Lc, hQ, l1, y1, z1⟩, st⟩ := X.virtualBack hx (y := y) (z := y) hown (mvT hZ w1) (mvT hZ w2) (notFace_of_selects (args := #[]) (mvT hZ w3)) (mvT hZ w3) (mvT hZ w4) hy (backOf (rm := rm) (W := W) hM hZ w5 w6 hf hl) qa qc (g := g) hg hsize (Steps.refl _) (argsL := argsL) (rest := rest) hlen hstack hW hd (fun _ _ => ⟨rfl, eT, hc, hs⟩)
  dsimp only [Pt.U, Pt.locs, Pt.cells, Pt.slots] at X1 l1 y1 z1 st hQ
  subst l1 y1 z1
  exact ⟨v, T1, Lc, _, X1, rfl, hQ, st⟩
theorem own_callI (X : Stand p l e R s m args below meth c T locs cells slots) (hx : p.tables.exec = Jvm.exec) (hZ : Z.Warmed39 s.vm) {own : String} {index : Nat} {y : MethodName} {bytes : ByteArray} {maxL : Nat} {rm : Room} {Q : Option Value → Heap → List Loc → Prop} {argsL rest : List Value} {g : JFrame} (hy1 : y.name = "<init>")
    (hown : s.vm.findClass own = some m.cls) (w1 : (Cond.methodLink own index y).before a0 Z = true) (w2 : (Cond.instanceMethod y).before a0 Z = true) (w3 : (Cond.code y bytes maxL none).before a0 Z = true) (w4 : (Cond.initialized y.cls).before a0 Z = true)
    (hy : y.cls ≠ "java/lang/invoke/MethodHandle" ∧ y.cls ≠ "java/lang/invoke/VarHandle")
    (hM : MetFree l y (head1 [Cond.code y bytes maxL none] rm) (fun a U => a = (.ref b :: argsL).toArray ∧ Z.Warmed39 U.vm ∧ U.heap = h) (fun _ _ _ _ _ => True) (fun _ U o U' => ∃ v L, o = .returned v ∧ Q v U'.heap L ∧ FrameEnd U o U' L rm.cells rm.slots))
    (eT : T.heap = h) (hg : g.method = m) (hsize : g.locals.size = c.maxLocals) (hlen : ∀ sig, parseMethodDescriptor y.desc = some sig → argsL.length = sig.parameters.length) (hstack : g.stack = argsL.reverse ++ .ref b :: rest) {W : Nat} (hW : 2 * g.monitorRoom + (rest.map fun v => v.category).sum ≤ W)
    (hd : decode c.code g.pc = .ok (.invokespecial index, 3)) (hf : rm.frames + 1 ≤ R.frames) (hl : W + (maxL + 11) + rm.locals ≤ R.locals) (hc : cells + rm.cells ≤ R.cells) (hs : slots + rm.slots ≤ R.slots) :
    ∃ v T' L h', Stand p l e R s m args below meth c T' (locs ++ L) (cells + rm.cells) (slots + rm.slots) ∧ T'.heap = h' ∧ Q v h' L ∧ Steps p.tables e below (T.setTop g) (T'.setTop { g with pc := g.pc + 3, stack := v.toList ++ rest }) := by
  obtain ⟨v, _, ⟨T1, L1, k1, n1⟩, -, X1, ⟨Lc, hQ, l1, y1, z1⟩, st⟩ := X.specialBack hx (y := y) hy1 hown (mvT hZ w1) (mvT hZ w2) (mvT hZ w3) hy (backOf (rm := rm) (W := W) hM hZ w3 w4 hf hl) (g := g) hg hsize (Steps.refl _) (a := b) (argsL := argsL) (rest := rest) hlen hstack hW hd (fun _ _ => ⟨rfl, eT, hc, hs⟩)
  dsimp only [Pt.U, Pt.locs, Pt.cells, Pt.slots] at X1 l1 y1 z1 st hQ
  subst l1 y1 z1
  exact ⟨v, T1, Lc, _, X1, rfl, hQ, st⟩
end Own2
section Own3
variable {p : Program} {l : Launch} {e : Env} {R : Room} {s : State} {m : MethodId} {args : Array Value} {below : List Frame} {meth : Method} {c : Code} {T : State} {locs : List Loc} {cells slots : Nat} {Z : State} {a0 : Array Value} {h h' : Heap} {a b : Addr} {C : String}
/-- a call of an instance method that writes nothing -/
theorem own_callR (X : Stand p l e R s m args below meth c T locs cells slots) (hx : p.tables.exec = Jvm.exec) (hZ : Z.Warmed39 s.vm) {own : String} {index : Nat} {y : MethodName} {bytes : ByteArray} {maxL : Nat} {ret : Option FieldType} {fr lo : Nat} {r : Value} {argsL rest : List Value} {g : JFrame}
    (hown : s.vm.findClass own = some m.cls) (w1 : (Cond.methodLink own index y).before a0 Z = true) (w2 : (Cond.declares y).before a0 Z = true) (w3 : (Cond.selects C y y).before a0 Z = true) (w4 : (Cond.instanceMethod y).before a0 Z = true) (w5 : (Cond.code y bytes maxL ret).before a0 Z = true) (w6 : (Cond.initialized y.cls).before a0 Z = true)
    (hy : y.cls ≠ "java/lang/invoke/MethodHandle" ∧ y.cls ≠ "java/lang/invoke/VarHandle") (E : Exa Z h b C)
    (hM : MetFree l y (head1 [Cond.code y bytes maxL ret] ({ frames := fr, cells := 0, slots := 0, locals := lo } : Room)) (fun a U => a = (.ref b :: argsL).toArray ∧ Z.Warmed39 U.vm ∧ U.heap = h) (fun _ _ _ _ _ => True) (fun _ U o U' => ∃ v L, o = .returned v ∧ QP r h v U'.heap L ∧ FrameEnd U o U' L 0 0))
    (eT : T.heap = h) (hg : g.method = m) (hsize : g.locals.size = c.maxLocals) (hlen : ∀ sig, parseMethodDescriptor y.desc = some sig → argsL.length = sig.parameters.length) (hstack : g.stack = argsL.reverse ++ .ref b :: rest) {W : Nat} (hW : 2 * g.monitorRoom + (rest.map fun v => v.category).sum ≤ W)
    (hd : decode c.code g.pc = .ok (.invokevirtual index, 3)) (hf : fr + 1 ≤ R.frames) (hl : W + (maxL + 11) + lo ≤ R.locals) (hc : cells ≤ R.cells) (hs : slots ≤ R.slots) :
    ∃ T', Stand p l e R s m args below meth c T' locs cells slots ∧ T'.heap = h ∧ ∀ target, Steps p.tables e below (T'.setTop { g with pc := g.pc + 3, stack := r :: rest }) target → Steps p.tables e below (T.setTop g) target := by
  obtain ⟨v, T1, L1, h1, X1, e1, ⟨rfl, rfl, q⟩, st⟩ := own_callV X hx hZ hown w1 w2 w3 w4 w5 w6 hy E (rm := ({ frames := fr, cells := 0, slots := 0, locals := lo } : Room)) hM eT hg hsize hlen hstack hW hd hf hl hc hs
  rw [List.append_nil] at X1
  exact ⟨T1, X1, e1.trans q, fun t k => st.trans k⟩
/-- a call of a private instance method by its contract -/
theorem own_callX (X : Stand p l e R s m args below meth c T locs cells slots) (hx : p.tables.exec = Jvm.exec) (hZ : Z.Warmed39 s.vm) {own : String} {index : Nat} {y : MethodName} {bytes : ByteArray} {maxL kk : Nat} {ret : Option FieldType} {rm : Room} {Q : Option Value → Heap → List Loc → Prop} {argsL rest : List Value} {g : JFrame}
    (hown : s.vm.findClass own = some m.cls) (w1 : (Cond.methodLink own index y).before a0 Z = true) (w2 : (Cond.instanceMethod y).before a0 Z = true) (w3 : (Cond.privateMethod y).before a0 Z = true) (w4 : (Cond.code y bytes maxL ret).before a0 Z = true) (w5 : (Cond.initialized y.cls).before a0 Z = true) (w6 : (Cond.instantiable y.cls kk).before a0 Z = true)
    (hy : y.cls ≠ "java/lang/invoke/MethodHandle" ∧ y.cls ≠ "java/lang/invoke/VarHandle") (E : Exa Z h b C)
    (hM : MetFree l y (head1 [Cond.code y bytes maxL ret] rm) (fun a U => a = (.ref b :: argsL).toArray ∧ Z.Warmed39 U.vm ∧ U.heap = h) (fun _ _ _ _ _ => True) (fun _ U o U' => ∃ v L, o = .returned v ∧ Q v U'.heap L ∧ FrameEnd U o U' L rm.cells rm.slots))
    (eT : T.heap = h) (hg : g.method = m) (hsize : g.locals.size = c.maxLocals) (hlen : ∀ sig, parseMethodDescriptor y.desc = some sig → argsL.length = sig.parameters.length) (hstack : g.stack = argsL.reverse ++ .ref b :: rest) {W : Nat} (hW : 2 * g.monitorRoom + (rest.map fun v => v.category).sum ≤ W)
    (hd : decode c.code g.pc = .ok (.invokevirtual index, 3)) (hf : rm.frames + 1 ≤ R.frames) (hl : W + (maxL + 11) + rm.locals ≤ R.locals) (hc : cells + rm.cells ≤ R.cells) (hs : slots + rm.slots ≤ R.slots) :
    ∃ v T' L h', Stand p l e R s m args below meth c T' (locs ++ L) (cells + rm.cells) (slots + rm.slots) ∧ T'.heap = h' ∧ Q v h' L ∧ Steps p.tables e below (T.setTop g) (T'.setTop { g with pc := g.pc + 3, stack := v.toList ++ rest }) := by
  have v2 : (Cond.instanceMethod y).before args s = true := mvT hZ w2
  have v4 : (Cond.code y bytes maxL ret).before args s = true := mvT hZ w4
  have v6 : (Cond.instantiable y.cls kk).before args s = true := mv hZ w6
  obtain ⟨mk, me, n1, n2, n3, n4⟩ := Cond.instanceMethod_spec v2
  obtain ⟨me', cM, n5, -, -, -, -, -, -, n6⟩ := Cond.code_spec n1 v4
  cases n2.symm.trans n5
  obtain ⟨cI, kI, i1, i2, -, i4, -⟩ := Cond.instantiable_spec v6
  cases (findClass_of_methodNamed n1).symm.trans i1
  have ni : kI.isInterface = false := by simp only [Bool.or_eq_false_iff] at i4; exact i4.1
  obtain ⟨cell, c1, c2⟩ := E.cell
  have pr := Cond.privateMethod_at (mvP hZ w3 (args := args)) mk me n1 n2
  obtain ⟨vm₁, X₁, s₁⟩ := X.invokevirtual hx hown (mvT hZ w1) n1 n2 n3 i2 ni hy (a := b) (cell := cell) (by rw [eT]; exact c1) c2 (selectMethod_private n2 pr) n2 n4 i2 ni (g := g) hg (argsL := argsL) (rest := rest) (hlen _ n6) hstack hd
  obtain ⟨v, ⟨T1, L1, k1, n1'⟩, X1, ⟨Lc, hQ, l1, y1, z1⟩, st⟩ := backOf (rm := rm) (W := W) hM hZ w4 w5 hf hl m meth c ⟨T.setVm vm₁, locs, cells, slots⟩ { g with stack := rest } (.invokevirtual index) mk (.ref b :: argsL).toArray X₁ hg hsize hd hW (X₁.named n1) ⟨rfl, eT, hc, hs⟩
  dsimp only [Pt.U, Pt.locs, Pt.cells, Pt.slots] at X1 l1 y1 z1 st hQ
  subst l1 y1 z1
  exact ⟨v, T1, Lc, _, X1, rfl, hQ, (s₁ _ fun acts => by rw [doInvoke_state]; exact Steps.refl _).trans st⟩
theorem own_callXR (X : Stand p l e R s m args below meth c T locs cells slots) (hx : p.tables.exec = Jvm.exec) (hZ : Z.Warmed39 s.vm) {own : String} {index : Nat} {y : MethodName} {bytes : ByteArray} {maxL kk : Nat} {ret : Option FieldType} {fr lo : Nat} {r : Value} {argsL rest : List Value} {g : JFrame}
    (hown : s.vm.findClass own = some m.cls) (w1 : (Cond.methodLink own index y).before a0 Z = true) (w2 : (Cond.instanceMethod y).before a0 Z = true) (w3 : (Cond.privateMethod y).before a0 Z = true) (w4 : (Cond.code y bytes maxL ret).before a0 Z = true) (w5 : (Cond.initialized y.cls).before a0 Z = true) (w6 : (Cond.instantiable y.cls kk).before a0 Z = true)
    (hy : y.cls ≠ "java/lang/invoke/MethodHandle" ∧ y.cls ≠ "java/lang/invoke/VarHandle") (E : Exa Z h b C)
    (hM : MetFree l y (head1 [Cond.code y bytes maxL ret] ({ frames := fr, cells := 0, slots := 0, locals := lo } : Room)) (fun a U => a = (.ref b :: argsL).toArray ∧ Z.Warmed39 U.vm ∧ U.heap = h) (fun _ _ _ _ _ => True) (fun _ U o U' => ∃ v L, o = .returned v ∧ QP r h v U'.heap L ∧ FrameEnd U o U' L 0 0))
    (eT : T.heap = h) (hg : g.method = m) (hsize : g.locals.size = c.maxLocals) (hlen : ∀ sig, parseMethodDescriptor y.desc = some sig → argsL.length = sig.parameters.length) (hstack : g.stack = argsL.reverse ++ .ref b :: rest) {W : Nat} (hW : 2 * g.monitorRoom + (rest.map fun v => v.category).sum ≤ W)
    (hd : decode c.code g.pc = .ok (.invokevirtual index, 3)) (hf : fr + 1 ≤ R.frames) (hl : W + (maxL + 11) + lo ≤ R.locals) (hc : cells ≤ R.cells) (hs : slots ≤ R.slots) :
    ∃ T', Stand p l e R s m args below meth c T' locs cells slots ∧ T'.heap = h ∧ ∀ target, Steps p.tables e below (T'.setTop { g with pc := g.pc + 3, stack := r :: rest }) target → Steps p.tables e below (T.setTop g) target := by
  obtain ⟨v, T1, L1, h1, X1, e1, ⟨rfl, rfl, q⟩, st⟩ := own_callX X hx hZ hown w1 w2 w3 w4 w5 w6 hy E (rm := ({ frames := fr, cells := 0, slots := 0, locals := lo } : Room)) hM eT hg hsize hlen hstack hW hd hf hl hc hs
  rw [List.append_nil] at X1
  exact ⟨T1, X1, e1.trans q, fun t k => st.trans k⟩
end Own3
theorem pd_prZ : parseMethodDescriptor "()Z" = some ⟨[], some .boolean⟩ := by decide +kernel
theorem pd_pJJrJ : parseMethodDescriptor "(JJ)J" = some ⟨[.long, .long], some .long⟩ := by decide +kernel
theorem pd_pJJrV : parseMethodDescriptor "(JJ)V" = some ⟨[.long, .long], none⟩ := by decide +kernel
theorem d3_0 : decode jdk_29_method_70_code 0 = .ok (.lload_n 0, 1) := by decide +kernel
theorem d3_1 : decode jdk_29_method_70_code 1 = .ok (.lload_n 2, 1) := by decide +kernel
theorem d3_2 : decode jdk_29_method_70_code 2 = .ok (.lcmp, 1) := by decide +kernel
theorem d3_3 : decode jdk_29_method_70_code 3 = .ok (.ifCond .gt 7, 3) := by decide +kernel
theorem d3_6 : decode jdk_29_method_70_code 6 = .ok (.lload_n 0, 1) := by decide +kernel
theorem d3_7 : decode jdk_29_method_70_code 7 = .ok (.goto 4, 3) := by decide +kernel
theorem d3_10 : decode jdk_29_method_70_code 10 = .ok (.lload_n 2, 1) := by decide +kernel
theorem d3_11 : decode jdk_29_method_70_code 11 = .ok (.lreturn, 1) := by decide +kernel
theorem ef_3 (m : MethodId) (q0 : Int64) (q1 : Int64) : entryFrame m #[(.long q0), (.long q1)] 4 = mkF m 0 #[.val (.long q0), .second, .val (.long q1), .second] [] := by first | (simp [entryFrame, mkF, argsToLocals, Value.category]; done) | rfl
def jmin_11 (v11_s0 : Int64) : Int64 := v11_s0
def jmin (q0 : Int64) (q1 : Int64) : Int64 := if q1 < q0 then (jmin_11 q1) else (jmin_11 q0)
set_option maxRecDepth 65536 in
set_option maxHeartbeats 40000000 in
theorem rm_jmin (l : Launch) (Z : State) (a0 : Array Value) (hw : ∀ d ∈ tables_1, d.before a0 Z = true) (ws : List Jvm.Cond) (q0 : Int64) (q1 : Int64) (h0 : Heap) :
    MetFree l (⟨"java/lang/Math", "min", "(JJ)J"⟩ : MethodName) (head1 (Jvm.Cond.code (⟨"java/lang/Math", "min", "(JJ)J"⟩ : MethodName) jdk_29_method_70_code 4 (some .long) :: ws) ({ frames := 0, cells := 0, slots := 0, locals := 0 } : Room)) (fun a U => a = #[(.long q0), (.long q1)] ∧ Z.Warmed39 U.vm ∧ U.heap = h0) (fun _ _ _ _ _ => True) (fun _ U o U' => ∃ v L, o = .returned v ∧ QP (Value.long (jmin q0 q1)) h0 v U'.heap L ∧ FrameEnd U o U' L 0 0) := by
  refine MetFree.of_bodySF (Jvm.Free.JP.mathPlain rfl (by decide +kernel)) hisR ?_
  intro p e s m args below meth c s₁ Bd hml0 hP hK
  obtain ⟨rfl, hZ, hh⟩ := hP
  have hx := Bd.exec
  have hby := Bd.bytes
  have hlk : meth.locks = false := Bd.notSynchronized
  have hml : c.maxLocals = 4 := hml0
  have hown : s.vm.findClass "java/lang/Math" = some m.cls := findClass_of_methodNamed Bd.named
  have X0 : Stand p l e ({ frames := 0, cells := 0, slots := 0, locals := 0 } : Room) s m #[(.long q0), (.long q1)] below meth c s₁ [] 0 0 := Stand.of_body Bd
  have e0 : s₁.heap = h0 := by rw [← hh, Bd.state]; rfl
  have bjmin_11 : ∀ (T : State) (X : Stand p l e ({ frames := 0, cells := 0, slots := 0, locals := 0 } : Room) s m #[(.long q0), (.long q1)] below meth c T [] 0 0) (eT : T.heap = h0) (v11_s0 : Int64), OEnds p e below s (QP (Value.long (jmin_11 v11_s0)) h0) 0 0 (T.setTop (mkF m 11 #[.val (.long q0), .second, .val (.long q1), .second] [(.long v11_s0)])) := by
    intro T X eT v11_s0
    exact own_retJ X hx hlk Bd.returns (hb hby d3_11) ⟨congrArg (fun z => some (Value.long z)) (Eq.symm (by rw [jmin_11] <;> rfl)), rfl, eT⟩ (Nat.le_refl _) (Nat.le_refl _)
  show OEnds p e below s _ _ _ _
  refine own_by (fun t k => castTop (ef_3 m q0 q1) k) ?_
  show OEnds p e below s _ _ _ (s₁.setTop (mkF m 0 #[.val (.long q0), .second, .val (.long q1), .second] []))
  refine own_by (fun _ k => XS.lloadN X0.here hx rfl (hb hby d3_0) rfl k) ?_
  show OEnds p e below s _ _ _ (s₁.setTop (mkF m 1 #[.val (.long q0), .second, .val (.long q1), .second] [(.long q0)]))
  refine own_by (fun _ k => XS.lloadN X0.here hx rfl (hb hby d3_1) rfl k) ?_
  show OEnds p e below s _ _ _ (s₁.setTop (mkF m 2 #[.val (.long q0), .second, .val (.long q1), .second] [(.long q1), (.long q0)]))
  refine own_by (fun _ k => XS.lcmp X0.here hx rfl (hb hby d3_2) rfl k) ?_
  show OEnds p e below s _ _ _ (s₁.setTop (mkF m 3 #[.val (.long q0), .second, .val (.long q1), .second] [(.int (lcmpW q0 q1))]))
  by_cases hc3 : q1 < q0
  · refine own_by (fun _ k => XS.ifYes X0.here hx rfl (pc0 := 3) (pc' := 10) rfl (hb hby d3_3) rfl ((if0 _ _).trans (tlt ((lw_gt _ _).mpr hc3)).2.2.1) (by decide) (by decide) k) ?_
    show OEnds p e below s _ _ _ (s₁.setTop (mkF m 10 #[.val (.long q0), .second, .val (.long q1), .second] []))
    refine own_by (fun _ k => XS.lloadN X0.here hx rfl (hb hby d3_10) rfl k) ?_
    show OEnds p e below s _ _ _ (s₁.setTop (mkF m 11 #[.val (.long q0), .second, .val (.long q1), .second] [(.long q1)]))
    exact own_eq (congrArg Value.long (by rw [jmin, if_pos hc3] <;> rfl)) (bjmin_11 s₁ X0 e0 q1)
  · refine own_by (fun _ k => XS.ifNo X0.here hx rfl (hb hby d3_3) rfl ((if0 _ _).trans (flt (fun q => hc3 ((lw_gt _ _).mp q))).2.2.1) k) ?_
    show OEnds p e below s _ _ _ (s₁.setTop (mkF m 6 #[.val (.long q0), .second, .val (.long q1), .second] []))
    refine own_by (fun _ k => XS.lloadN X0.here hx rfl (hb hby d3_6) rfl k) ?_
    show OEnds p e below s _ _ _ (s₁.setTop (mkF m 7 #[.val (.long q0), .second, .val (.long q1), .second] [(.long q0)]))
    refine own_by (fun _ k => XS.goto X0.here hx rfl (pc0 := 7) (pc' := 11) rfl (hb hby d3_7) (by decide) (by decide) k) ?_
    show OEnds p e below s _ _ _ (s₁.setTop (mkF m 11 #[.val (.long q0), .second, .val (.long q1), .second] [(.long q0)]))
    exact own_eq (congrArg Value.long (by rw [jmin, if_neg hc3] <;> rfl)) (bjmin_11 s₁ X0 e0 q0)
theorem d4_0 : decode jdk_29_method_66_code 0 = .ok (.lload_n 0, 1) := by decide +kernel
theorem d4_1 : decode jdk_29_method_66_code 1 = .ok (.lload_n 2, 1) := by decide +kernel
theorem d4_2 : decode jdk_29_method_66_code 2 = .ok (.lcmp, 1) := by decide +kernel
theorem d4_3 : decode jdk_29_method_66_code 3 = .ok (.ifCond .lt 7, 3) := by decide +kernel
theorem d4_6 : decode jdk_29_method_66_code 6 = .ok (.lload_n 0, 1) := by decide +kernel
theorem d4_7 : decode jdk_29_method_66_code 7 = .ok (.goto 4, 3) := by decide +kernel
theorem d4_10 : decode jdk_29_method_66_code 10 = .ok (.lload_n 2, 1) := by decide +kernel
theorem d4_11 : decode jdk_29_method_66_code 11 = .ok (.lreturn, 1) := by decide +kernel
theorem ef_4 (m : MethodId) (q0 : Int64) (q1 : Int64) : entryFrame m #[(.long q0), (.long q1)] 4 = mkF m 0 #[.val (.long q0), .second, .val (.long q1), .second] [] := by first | (simp [entryFrame, mkF, argsToLocals, Value.category]; done) | rfl
def jmax_11 (v11_s0 : Int64) : Int64 := v11_s0
def jmax (q0 : Int64) (q1 : Int64) : Int64 := if q0 < q1 then (jmax_11 q1) else (jmax_11 q0)
set_option maxRecDepth 65536 in
set_option maxHeartbeats 40000000 in
theorem rm_jmax (l : Launch) (Z : State) (a0 : Array Value) (hw : ∀ d ∈ tables_1, d.before a0 Z = true) (ws : List Jvm.Cond) (q0 : Int64) (q1 : Int64) (h0 : Heap) :
    MetFree l (⟨"java/lang/Math", "max", "(JJ)J"⟩ : MethodName) (head1 (Jvm.Cond.code (⟨"java/lang/Math", "max", "(JJ)J"⟩ : MethodName) jdk_29_method_66_code 4 (some .long) :: ws) ({ frames := 0, cells := 0, slots := 0, locals := 0 } : Room)) (fun a U => a = #[(.long q0), (.long q1)] ∧ Z.Warmed39 U.vm ∧ U.heap = h0) (fun _ _ _ _ _ => True) (fun _ U o U' => ∃ v L, o = .returned v ∧ QP (Value.long (jmax q0 q1)) h0 v U'.heap L ∧ FrameEnd U o U' L 0 0) := by
  refine MetFree.of_bodySF (Jvm.Free.JP.mathPlain rfl (by decide +kernel)) hisR ?_
  intro p e s m args below meth c s₁ Bd hml0 hP hK
  obtain ⟨rfl, hZ, hh⟩ := hP
  have hx := Bd.exec
  have hby := Bd.bytes
  have hlk : meth.locks = false := Bd.notSynchronized
  have hml : c.maxLocals = 4 := hml0
  have hown : s.vm.findClass "java/lang/Math" = some m.cls := findClass_of_methodNamed Bd.named
  have X0 : Stand p l e ({ frames := 0, cells := 0, slots := 0, locals := 0 } : Room) s m #[(.long q0), (.long q1)] below meth c s₁ [] 0 0 := Stand.of_body Bd
  have e0 : s₁.heap = h0 := by rw [← hh, Bd.state]; rfl
  have bjmax_11 : ∀ (T : State) (X : Stand p l e ({ frames := 0, cells := 0, slots := 0, locals := 0 } : Room) s m #[(.long q0), (.long q1)] below meth c T [] 0 0) (eT : T.heap = h0) (v11_s0 : Int64), OEnds p e below s (QP (Value.long (jmax_11 v11_s0)) h0) 0 0 (T.setTop (mkF m 11 #[.val (.long q0), .second, .val (.long q1), .second] [(.long v11_s0)])) := by
    intro T X eT v11_s0
    exact own_retJ X hx hlk Bd.returns (hb hby d4_11) ⟨congrArg (fun z => some (Value.long z)) (Eq.symm (by rw [jmax_11] <;> rfl)), rfl, eT⟩ (Nat.le_refl _) (Nat.le_refl _)
  show OEnds p e below s _ _ _ _
  refine own_by (fun t k => castTop (ef_4 m q0 q1) k) ?_
  show OEnds p e below s _ _ _ (s₁.setTop (mkF m 0 #[.val (.long q0), .second, .val (.long q1), .second] []))
  refine own_by (fun _ k => XS.lloadN X0.here hx rfl (hb hby d4_0) rfl k) ?_
  show OEnds p e below s _ _ _ (s₁.setTop (mkF m 1 #[.val (.long q0), .second, .val (.long q1), .second] [(.long q0)]))
  refine own_by (fun _ k => XS.lloadN X0.here hx rfl (hb hby d4_1) rfl k) ?_
  show OEnds p e below s _ _ _ (s₁.setTop (mkF m 2 #[.val (.long q0), .second, .val (.long q1), .second] [(.long q1), (.long q0)]))
  refine own_by (fun _ k => XS.lcmp X0.here hx rfl (hb hby d4_2) rfl k) ?_
  show OEnds p e below s _ _ _ (s₁.setTop (mkF m 3 #[.val (.long q0), .second, .val (.long q1), .second] [(.int (lcmpW q0 q1))]))
  by_cases hc3 : q0 < q1
  · refine own_by (fun _ k => XS.ifYes X0.here hx rfl (pc0 := 3) (pc' := 10) rfl (hb hby d4_3) rfl ((if0 _ _).trans (tlt ((lw_lt _ _).mpr hc3)).1) (by decide) (by decide) k) ?_
    show OEnds p e below s _ _ _ (s₁.setTop (mkF m 10 #[.val (.long q0), .second, .val (.long q1), .second] []))
    refine own_by (fun _ k => XS.lloadN X0.here hx rfl (hb hby d4_10) rfl k) ?_
    show OEnds p e below s _ _ _ (s₁.setTop (mkF m 11 #[.val (.long q0), .second, .val (.long q1), .second] [(.long q1)]))
    exact own_eq (congrArg Value.long (by rw [jmax, if_pos hc3] <;> rfl)) (bjmax_11 s₁ X0 e0 q1)
  · refine own_by (fun _ k => XS.ifNo X0.here hx rfl (hb hby d4_3) rfl ((if0 _ _).trans (flt (fun q => hc3 ((lw_lt _ _).mp q))).1) k) ?_
    show OEnds p e below s _ _ _ (s₁.setTop (mkF m 6 #[.val (.long q0), .second, .val (.long q1), .second] []))
    refine own_by (fun _ k => XS.lloadN X0.here hx rfl (hb hby d4_6) rfl k) ?_
    show OEnds p e below s _ _ _ (s₁.setTop (mkF m 7 #[.val (.long q0), .second, .val (.long q1), .second] [(.long q0)]))
    refine own_by (fun _ k => XS.goto X0.here hx rfl (pc0 := 7) (pc' := 11) rfl (hb hby d4_7) (by decide) (by decide) k) ?_
    show OEnds p e below s _ _ _ (s₁.setTop (mkF m 11 #[.val (.long q0), .second, .val (.long q1), .second] [(.long q0)]))
    exact own_eq (congrArg Value.long (by rw [jmax, if_neg hc3] <;> rfl)) (bjmax_11 s₁ X0 e0 q0)
def sch_edge : List (String × String) := [("u", "J"), ("v", "J")]
theorem so_sch_edge {Z : State} {a0 : Array Value} (hw : ∀ d ∈ tables_1, d.before a0 Z = true) : SchOk Z a0 "com/example/tristream/tristream/Edge" sch_edge := by
  refine ⟨fun q hq => ?_, by decide, by decide⟩
  simp only [sch_edge, List.mem_cons, List.not_mem_nil, or_false] at hq
  rcases hq with rfl | rfl
  · exact Or.inr (hw _ (List.mem_of_getElem? (i := 15) rfl))
  · exact Or.inr (hw _ (List.mem_of_getElem? (i := 20) rfl))
theorem d1_0 : decode prog_8_method_1_code 0 = .ok (.aload_n 0, 1) := by decide +kernel
theorem d1_1 : decode prog_8_method_1_code 1 = .ok (.invokespecial 1, 3) := by decide +kernel
theorem d1_4 : decode prog_8_method_1_code 4 = .ok (.lload_n 1, 1) := by decide +kernel
theorem d1_5 : decode prog_8_method_1_code 5 = .ok (.lconst 0, 1) := by decide +kernel
theorem d1_6 : decode prog_8_method_1_code 6 = .ok (.lcmp, 1) := by decide +kernel
theorem d1_7 : decode prog_8_method_1_code 7 = .ok (.ifCond .lt 9, 3) := by decide +kernel
theorem d1_10 : decode prog_8_method_1_code 10 = .ok (.lload_n 3, 1) := by decide +kernel
theorem d1_11 : decode prog_8_method_1_code 11 = .ok (.lconst 0, 1) := by decide +kernel
theorem d1_12 : decode prog_8_method_1_code 12 = .ok (.lcmp, 1) := by decide +kernel
theorem d1_13 : decode prog_8_method_1_code 13 = .ok (.ifCond .ge 18, 3) := by decide +kernel
theorem d1_31 : decode prog_8_method_1_code 31 = .ok (.aload_n 0, 1) := by decide +kernel
theorem d1_32 : decode prog_8_method_1_code 32 = .ok (.lload_n 1, 1) := by decide +kernel
theorem d1_33 : decode prog_8_method_1_code 33 = .ok (.lload_n 3, 1) := by decide +kernel
theorem d1_34 : decode prog_8_method_1_code 34 = .ok (.invokestatic 16, 3) := by decide +kernel
theorem d1_37 : decode prog_8_method_1_code 37 = .ok (.putfield 22, 3) := by decide +kernel
theorem d1_40 : decode prog_8_method_1_code 40 = .ok (.aload_n 0, 1) := by decide +kernel
theorem d1_41 : decode prog_8_method_1_code 41 = .ok (.lload_n 1, 1) := by decide +kernel
theorem d1_42 : decode prog_8_method_1_code 42 = .ok (.lload_n 3, 1) := by decide +kernel
theorem d1_43 : decode prog_8_method_1_code 43 = .ok (.invokestatic 28, 3) := by decide +kernel
theorem d1_46 : decode prog_8_method_1_code 46 = .ok (.putfield 31, 3) := by decide +kernel
theorem d1_49 : decode prog_8_method_1_code 49 = .ok (.return_, 1) := by decide +kernel
theorem pn_1 : plainName "com/example/tristream/tristream/Edge" = true := by first | (simp [plainName, overriddenIn]; done) | decide +kernel
theorem ef_1 (m : MethodId) (a : Addr) (u : Int64) (v : Int64) : entryFrame m #[(.ref a), (.long u), (.long v)] 5 = mkF m 0 #[.val (.ref a), .val (.long u), .second, .val (.long v), .second] [] := by first | (simp [entryFrame, mkF, argsToLocals, Value.category]; done) | rfl
def QI (Z : State) (a : Addr) (u v : Int64) (h0 : Heap) (n0 : Nat) (r : Option Value) (h : Heap) (L : List Loc) : Prop := r = none ∧ Fr n0 L ∧ Keep h0 h [a] ∧ Obj Z h a "com/example/tristream/tristream/Edge" sch_edge [(.long (jmin u v)), (.long (jmax u v))]
set_option maxRecDepth 65536 in
set_option maxHeartbeats 40000000 in
theorem rm_init (l : Launch) (Z : State) (a0 : Array Value) (hw : ∀ d ∈ tables_1, d.before a0 Z = true) (ws : List Jvm.Cond) (a : Addr) (u : Int64) (v : Int64) (h0 : Heap) (n0 : Nat) (Z0 : n0 ≤ h0.size) (O0 : Obj Z h0 a "com/example/tristream/tristream/Edge" sch_edge [(.long (0 : Int64)), (.long (0 : Int64))]) (ga : n0 ≤ a) (hu : ¬ u < (0 : Int64)) (hv : ¬ v < (0 : Int64)) :
    MetFree l (⟨"com/example/tristream/tristream/Edge", "<init>", "(JJ)V"⟩ : MethodName) (head1 (Jvm.Cond.code (⟨"com/example/tristream/tristream/Edge", "<init>", "(JJ)V"⟩ : MethodName) prog_8_method_1_code 5 none :: ws) ({ frames := 1, cells := 0, slots := 0, locals := 16 } : Room)) (fun a_ U => a_ = #[(.ref a), (.long u), (.long v)] ∧ Z.Warmed39 U.vm ∧ U.heap = h0) (fun _ _ _ _ _ => True) (fun _ U o U' => ∃ v_ L_, o = .returned v_ ∧ QI Z a u v h0 n0 v_ U'.heap L_ ∧ FrameEnd U o U' L_ ({ frames := 1, cells := 0, slots := 0, locals := 16 } : Room).cells ({ frames := 1, cells := 0, slots := 0, locals := 16 } : Room).slots) := by
  refine MetFree.of_bodySF (plainFor_of_name pn_1) hisR ?_
  intro p e s m args below meth c s₁ Bd hml0 hP hK
  obtain ⟨rfl, hZ, hh⟩ := hP
  have hx := Bd.exec
  have hby := Bd.bytes
  have hlk : meth.locks = false := Bd.notSynchronized
  have hml : c.maxLocals = 5 := hml0
  have hown : s.vm.findClass "com/example/tristream/tristream/Edge" = some m.cls := findClass_of_methodNamed Bd.named
  have hnm := (name_of_methodNamed Bd.named Bd.method).1
  have X0 : Stand p l e ({ frames := 1, cells := 0, slots := 0, locals := 16 } : Room) s m #[(.ref a), (.long u), (.long v)] below meth c s₁ [] 0 0 := Stand.of_body Bd
  have e0 : s₁.heap = h0 := by rw [← hh, Bd.state]; rfl
  have N0 := Fr.nil n0
  have K0 : Keep h0 h0 [a] := Keep.refl _ _
  show OEnds p e below s (QI Z a u v h0 n0) _ _ _
  refine own_by (fun t k => castTop (ef_1 m a u v) k) ?_
  show OEnds p e below s _ _ _ (s₁.setTop (mkF m 0 #[.val (.ref a), .val (.long u), .second, .val (.long v), .second] []))
  refine own_by (fun _ k => XS.aloadN X0.here hx rfl (hb hby d1_0) rfl rfl k) ?_
  show OEnds p e below s _ _ _ (s₁.setTop (mkF m 1 #[.val (.ref a), .val (.long u), .second, .val (.long v), .second] [(.ref a)]))
  obtain ⟨T1, X1, e1, st1⟩ := initO X0 hx hZ hown (hw _ (List.mem_of_getElem? (i := 7) rfl)) (hw _ (List.mem_of_getElem? (i := 8) rfl)) (hw _ (List.mem_of_getElem? (i := 9) rfl)) e0 (g := (mkF m 1 #[.val (.ref a), .val (.long u), .second, .val (.long v), .second] [(.ref a)])) rfl (by rw [hml]; rfl) rfl (hb hby d1_1) (by decide) (W := 0) (by show 2 * 0 + _ ≤ _; exact Nat.le_of_eq rfl) (by decide)
  refine own_by (st1) ?_
  show OEnds p e below s _ _ _ (T1.setTop (mkF m 4 #[.val (.ref a), .val (.long u), .second, .val (.long v), .second] []))
  refine own_by (fun _ k => XS.lloadN X1.here hx rfl (hb hby d1_4) rfl k) ?_
  show OEnds p e below s _ _ _ (T1.setTop (mkF m 5 #[.val (.ref a), .val (.long u), .second, .val (.long v), .second] [(.long u)]))
  refine own_by (fun _ k => XS.lconst X1.here hx rfl (hb hby d1_5) k) ?_
  show OEnds p e below s _ _ _ (T1.setTop (mkF m 6 #[.val (.ref a), .val (.long u), .second, .val (.long v), .second] [(.long (0 : Int64)), (.long u)]))
  refine own_by (fun _ k => XS.lcmp X1.here hx rfl (hb hby d1_6) rfl k) ?_
  show OEnds p e below s _ _ _ (T1.setTop (mkF m 7 #[.val (.ref a), .val (.long u), .second, .val (.long v), .second] [(.int (lcmpW u (0 : Int64)))]))
  refine own_by (fun _ k => XS.ifNo X1.here hx rfl (hb hby d1_7) rfl ((if0 _ _).trans (flt (fun q => hu ((lw_lt _ _).mp q))).1) k) ?_
  show OEnds p e below s _ _ _ (T1.setTop (mkF m 10 #[.val (.ref a), .val (.long u), .second, .val (.long v), .second] []))
  refine own_by (fun _ k => XS.lloadN X1.here hx rfl (hb hby d1_10) rfl k) ?_
  show OEnds p e below s _ _ _ (T1.setTop (mkF m 11 #[.val (.ref a), .val (.long u), .second, .val (.long v), .second] [(.long v)]))
  refine own_by (fun _ k => XS.lconst X1.here hx rfl (hb hby d1_11) k) ?_
  show OEnds p e below s _ _ _ (T1.setTop (mkF m 12 #[.val (.ref a), .val (.long u), .second, .val (.long v), .second] [(.long (0 : Int64)), (.long v)]))
  refine own_by (fun _ k => XS.lcmp X1.here hx rfl (hb hby d1_12) rfl k) ?_
  show OEnds p e below s _ _ _ (T1.setTop (mkF m 13 #[.val (.ref a), .val (.long u), .second, .val (.long v), .second] [(.int (lcmpW v (0 : Int64)))]))
  refine own_by (fun _ k => XS.ifYes X1.here hx rfl (pc0 := 13) (pc' := 31) rfl (hb hby d1_13) rfl ((if0 _ _).trans (flt (fun q => hv ((lw_lt _ _).mp q))).2.1) (by decide) (by decide) k) ?_
  show OEnds p e below s _ _ _ (T1.setTop (mkF m 31 #[.val (.ref a), .val (.long u), .second, .val (.long v), .second] []))
  refine own_by (fun _ k => XS.aloadN X1.here hx rfl (hb hby d1_31) rfl rfl k) ?_
  show OEnds p e below s _ _ _ (T1.setTop (mkF m 32 #[.val (.ref a), .val (.long u), .second, .val (.long v), .second] [(.ref a)]))
  refine own_by (fun _ k => XS.lloadN X1.here hx rfl (hb hby d1_32) rfl k) ?_
  show OEnds p e below s _ _ _ (T1.setTop (mkF m 33 #[.val (.ref a), .val (.long u), .second, .val (.long v), .second] [(.long u), (.ref a)]))
  refine own_by (fun _ k => XS.lloadN X1.here hx rfl (hb hby d1_33) rfl k) ?_
  show OEnds p e below s _ _ _ (T1.setTop (mkF m 34 #[.val (.ref a), .val (.long u), .second, .val (.long v), .second] [(.long v), (.long u), (.ref a)]))
  obtain ⟨T2, X2, e2, st2⟩ := own_callP X1 hx hZ (y := (⟨"java/lang/Math", "min", "(JJ)J"⟩ : MethodName)) hown (hw _ (List.mem_of_getElem? (i := 10) rfl)) (hw _ (List.mem_of_getElem? (i := 11) rfl)) (hw _ (List.mem_of_getElem? (i := 12) rfl)) (hw _ (List.mem_of_getElem? (i := 13) rfl)) (by decide) (rm_jmin l Z a0 hw [] u v h0) e1 (g := (mkF m 34 #[.val (.ref a), .val (.long u), .second, .val (.long v), .second] [(.long v), (.long u), (.ref a)])) rfl (by rw [hml]; rfl) (argsL := [(.long u), (.long v)]) (rest := [(.ref a)]) (lenOf pd_pJJrJ rfl) rfl (W := 1) (by show 2 * 0 + _ ≤ _; exact Nat.le_of_eq rfl) (hb hby d1_34) (by decide) (by decide) (by decide) (by decide)
  refine own_by (st2) ?_
  show OEnds p e below s _ _ _ (T2.setTop (mkF m 37 #[.val (.ref a), .val (.long u), .second, .val (.long v), .second] [(.long (jmin u v)), (.ref a)]))
  obtain ⟨T3, h3, X3, e3, W3, st3⟩ := putF X2 hx hZ hown (host := "") (Or.inl (hw _ (List.mem_of_getElem? (i := 14) rfl))) Via.refl e2 (O0.fld 0 rfl rfl) O0.exa (Or.inr ⟨(hw _ (List.mem_of_getElem? (i := 15) rfl)), rfl, hnm⟩) (hw _ (List.mem_of_getElem? (i := 2) rfl)) (ty := .long) (by decide) rfl rfl (g := (mkF m 37 #[.val (.ref a), .val (.long u), .second, .val (.long v), .second] [(.long (jmin u v)), (.ref a)])) rfl rfl (hb hby d1_37)
  refine own_by (st3) ?_
  have O3 : Obj Z h3 a "com/example/tristream/tristream/Edge" sch_edge [(.long (jmin u v)), (.long (0 : Int64))] := O0.set (so_sch_edge hw) W3 0 rfl (Nat.le_of_ble_eq_true rfl)
  have N3 := Fr.snoc X3 N0 ga
  have K3 : Keep h0 h3 [a] := K0.wr W3 (Or.inl (List.mem_of_getElem? (i := 0) rfl))
  show OEnds p e below s _ _ _ (T3.setTop (mkF m 40 #[.val (.ref a), .val (.long u), .second, .val (.long v), .second] []))
  refine own_by (fun _ k => XS.aloadN X3.here hx rfl (hb hby d1_40) rfl rfl k) ?_
  show OEnds p e below s _ _ _ (T3.setTop (mkF m 41 #[.val (.ref a), .val (.long u), .second, .val (.long v), .second] [(.ref a)]))
  refine own_by (fun _ k => XS.lloadN X3.here hx rfl (hb hby d1_41) rfl k) ?_
  show OEnds p e below s _ _ _ (T3.setTop (mkF m 42 #[.val (.ref a), .val (.long u), .second, .val (.long v), .second] [(.long u), (.ref a)]))
  refine own_by (fun _ k => XS.lloadN X3.here hx rfl (hb hby d1_42) rfl k) ?_
  show OEnds p e below s _ _ _ (T3.setTop (mkF m 43 #[.val (.ref a), .val (.long u), .second, .val (.long v), .second] [(.long v), (.long u), (.ref a)]))
  obtain ⟨T4, X4, e4, st4⟩ := own_callP X3 hx hZ (y := (⟨"java/lang/Math", "max", "(JJ)J"⟩ : MethodName)) hown (hw _ (List.mem_of_getElem? (i := 16) rfl)) (hw _ (List.mem_of_getElem? (i := 17) rfl)) (hw _ (List.mem_of_getElem? (i := 12) rfl)) (hw _ (List.mem_of_getElem? (i := 18) rfl)) (by decide) (rm_jmax l Z a0 hw [] u v h3) e3 (g := (mkF m 43 #[.val (.ref a), .val (.long u), .second, .val (.long v), .second] [(.long v), (.long u), (.ref a)])) rfl (by rw [hml]; rfl) (argsL := [(.long u), (.long v)]) (rest := [(.ref a)]) (lenOf pd_pJJrJ rfl) rfl (W := 1) (by show 2 * 0 + _ ≤ _; exact Nat.le_of_eq rfl) (hb hby d1_43) (by decide) (by decide) (by decide) (by decide)
  refine own_by (st4) ?_
  show OEnds p e below s _ _ _ (T4.setTop (mkF m 46 #[.val (.ref a), .val (.long u), .second, .val (.long v), .second] [(.long (jmax u v)), (.ref a)]))
  obtain ⟨T5, h5, X5, e5, W5, st5⟩ := putF X4 hx hZ hown (host := "") (Or.inl (hw _ (List.mem_of_getElem? (i := 19) rfl))) Via.refl e4 (O3.fld 1 rfl rfl) O3.exa (Or.inr ⟨(hw _ (List.mem_of_getElem? (i := 20) rfl)), rfl, hnm⟩) (hw _ (List.mem_of_getElem? (i := 2) rfl)) (ty := .long) (by decide) rfl rfl (g := (mkF m 46 #[.val (.ref a), .val (.long u), .second, .val (.long v), .second] [(.long (jmax u v)), (.ref a)])) rfl rfl (hb hby d1_46)
  refine own_by (st5) ?_
  have O5 : Obj Z h5 a "com/example/tristream/tristream/Edge" sch_edge [(.long (jmin u v)), (.long (jmax u v))] := O3.set (so_sch_edge hw) W5 1 rfl (Nat.le_of_ble_eq_true rfl)
  have N5 := Fr.snoc X5 N3 ga
  have K5 : Keep h0 h5 [a] := K3.wr W5 (Or.inl (List.mem_of_getElem? (i := 0) rfl))
  show OEnds p e below s _ _ _ (T5.setTop (mkF m 49 #[.val (.ref a), .val (.long u), .second, .val (.long v), .second] []))
  exact own_retV X5 hx hlk Bd.returns (hb hby d1_49) (by rw [e5]; exact ⟨rfl, N5, K5, O5⟩) (by decide) (by decide)
theorem d5_0 : decode prog_8_method_4_code 0 = .ok (.aload_n 0, 1) := by decide +kernel
theorem d5_1 : decode prog_8_method_4_code 1 = .ok (.getfield 22, 3) := by decide +kernel
theorem d5_4 : decode prog_8_method_4_code 4 = .ok (.aload_n 0, 1) := by decide +kernel
theorem d5_5 : decode prog_8_method_4_code 5 = .ok (.getfield 31, 3) := by decide +kernel
theorem d5_8 : decode prog_8_method_4_code 8 = .ok (.lcmp, 1) := by decide +kernel
theorem d5_9 : decode prog_8_method_4_code 9 = .ok (.ifCond .ne 7, 3) := by decide +kernel
theorem d5_12 : decode prog_8_method_4_code 12 = .ok (.iconst 1, 1) := by decide +kernel
theorem d5_13 : decode prog_8_method_4_code 13 = .ok (.goto 4, 3) := by decide +kernel
theorem d5_16 : decode prog_8_method_4_code 16 = .ok (.iconst 0, 1) := by decide +kernel
theorem d5_17 : decode prog_8_method_4_code 17 = .ok (.ireturn, 1) := by decide +kernel
theorem pn_5 : plainName "com/example/tristream/tristream/Edge" = true := by first | (simp [plainName, overriddenIn]; done) | decide +kernel
theorem ef_5 (m : MethodId) (a : Addr) : entryFrame m #[(.ref a)] 1 = mkF m 0 #[.val (.ref a)] [] := by first | (simp [entryFrame, mkF, argsToLocals, Value.category]; done) | rfl
def selfLoop (u v : Int64) : Int32 := if u = v then 1 else 0
set_option maxRecDepth 65536 in
set_option maxHeartbeats 40000000 in
theorem rm_self (l : Launch) (Z : State) (a0 : Array Value) (hw : ∀ d ∈ tables_1, d.before a0 Z = true) (ws : List Jvm.Cond) (a : Addr) (u : Int64) (v : Int64) (h0 : Heap) (n0 : Nat) (Z0 : n0 ≤ h0.size) (O0 : Obj Z h0 a "com/example/tristream/tristream/Edge" sch_edge [(.long u), (.long v)]) :
    MetFree l (⟨"com/example/tristream/tristream/Edge", "isSelfLoop", "()Z"⟩ : MethodName) (head1 (Jvm.Cond.code (⟨"com/example/tristream/tristream/Edge", "isSelfLoop", "()Z"⟩ : MethodName) prog_8_method_4_code 1 (some .boolean) :: ws) ({ frames := 0, cells := 0, slots := 0, locals := 0 } : Room)) (fun a_ U => a_ = #[(.ref a)] ∧ Z.Warmed39 U.vm ∧ U.heap = h0) (fun _ _ _ _ _ => True) (fun _ U o U' => ∃ v_ L_, o = .returned v_ ∧ QP (.int (selfLoop u v)) h0 v_ U'.heap L_ ∧ FrameEnd U o U' L_ ({ frames := 0, cells := 0, slots := 0, locals := 0 } : Room).cells ({ frames := 0, cells := 0, slots := 0, locals := 0 } : Room).slots) := by
  refine MetFree.of_bodySF (plainFor_of_name pn_5) hisR ?_
  intro p e s m args below meth c s₁ Bd hml0 hP hK
  obtain ⟨rfl, hZ, hh⟩ := hP
  have hx := Bd.exec
  have hby := Bd.bytes
  have hlk : meth.locks = false := Bd.notSynchronized
  have hml : c.maxLocals = 1 := hml0
  have hown : s.vm.findClass "com/example/tristream/tristream/Edge" = some m.cls := findClass_of_methodNamed Bd.named
  have hnm := (name_of_methodNamed Bd.named Bd.method).1
  have X0 : Stand p l e ({ frames := 0, cells := 0, slots := 0, locals := 0 } : Room) s m #[(.ref a)] below meth c s₁ [] 0 0 := Stand.of_body Bd
  have e0 : s₁.heap = h0 := by rw [← hh, Bd.state]; rfl
  have N0 := Fr.nil n0
  have K0 : Keep h0 h0 [] := Keep.refl _ _
  show OEnds p e below s (QP (.int (selfLoop u v)) h0) _ _ _
  refine own_by (fun t k => castTop (ef_5 m a) k) ?_
  show OEnds p e below s _ _ _ (s₁.setTop (mkF m 0 #[.val (.ref a)] []))
  refine own_by (fun _ k => XS.aloadN X0.here hx rfl (hb hby d5_0) rfl rfl k) ?_
  show OEnds p e below s _ _ _ (s₁.setTop (mkF m 1 #[.val (.ref a)] [(.ref a)]))
  obtain ⟨T1, X1, e1, st1⟩ := getF X0 hx hZ hown (host := "") (Or.inl (hw _ (List.mem_of_getElem? (i := 14) rfl))) Via.refl e0 (O0.fld 0 rfl rfl) (g := (mkF m 1 #[.val (.ref a)] [(.ref a)])) rfl rfl (hb hby d5_1)
  refine own_by (st1) ?_
  show OEnds p e below s _ _ _ (T1.setTop (mkF m 4 #[.val (.ref a)] [(.long u)]))
  refine own_by (fun _ k => XS.aloadN X1.here hx rfl (hb hby d5_4) rfl rfl k) ?_
  show OEnds p e below s _ _ _ (T1.setTop (mkF m 5 #[.val (.ref a)] [(.ref a), (.long u)]))
  obtain ⟨T2, X2, e2, st2⟩ := getF X1 hx hZ hown (host := "") (Or.inl (hw _ (List.mem_of_getElem? (i := 19) rfl))) Via.refl e1 (O0.fld 1 rfl rfl) (g := (mkF m 5 #[.val (.ref a)] [(.ref a), (.long u)])) rfl rfl (hb hby d5_5)
  refine own_by (st2) ?_
  show OEnds p e below s _ _ _ (T2.setTop (mkF m 8 #[.val (.ref a)] [(.long v), (.long u)]))
  refine own_by (fun _ k => XS.lcmp X2.here hx rfl (hb hby d5_8) rfl k) ?_
  show OEnds p e below s _ _ _ (T2.setTop (mkF m 9 #[.val (.ref a)] [(.int (lcmpW u v))]))
  by_cases hc9_3 : u = v
  · refine own_by (fun _ k => XS.ifNo X2.here hx rfl (hb hby d5_9) rfl ((if0 _ _).trans (teq ((lw_eq _ _).mpr hc9_3)).2) k) ?_
    show OEnds p e below s _ _ _ (T2.setTop (mkF m 12 #[.val (.ref a)] []))
    refine own_by (fun _ k => XS.iconst X2.here hx rfl (hb hby d5_12) k) ?_
    show OEnds p e below s _ _ _ (T2.setTop (mkF m 13 #[.val (.ref a)] [(.int (1 : Int32))]))
    refine own_by (fun _ k => XS.goto X2.here hx rfl (pc0 := 13) (pc' := 17) rfl (hb hby d5_13) (by decide) (by decide) k) ?_
    show OEnds p e below s _ _ _ (T2.setTop (mkF m 17 #[.val (.ref a)] [(.int (1 : Int32))]))
    exact own_retN X2 hx hlk .boolean (by simp) Bd.returns (hb hby d5_17) ⟨congrArg (fun z => some (Value.int z)) (Eq.symm (by rw [selfLoop, if_pos hc9_3] <;> rfl)), rfl, e2⟩ (by decide) (by decide)
  · refine own_by (fun _ k => XS.ifYes X2.here hx rfl (pc0 := 9) (pc' := 16) rfl (hb hby d5_9) rfl ((if0 _ _).trans (feq (fun q => hc9_3 ((lw_eq _ _).mp q))).2) (by decide) (by decide) k) ?_
    show OEnds p e below s _ _ _ (T2.setTop (mkF m 16 #[.val (.ref a)] []))
    refine own_by (fun _ k => XS.iconst X2.here hx rfl (hb hby d5_16) k) ?_
    show OEnds p e below s _ _ _ (T2.setTop (mkF m 17 #[.val (.ref a)] [(.int (0 : Int32))]))
    exact own_retN X2 hx hlk .boolean (by simp) Bd.returns (hb hby d5_17) ⟨congrArg (fun z => some (Value.int z)) (Eq.symm (by rw [selfLoop, if_neg hc9_3] <;> rfl)), rfl, e2⟩ (by decide) (by decide)
theorem own_nn (x : Int64) : ¬ (x &&& (9223372036854775807 : Int64)) < (0 : Int64) := by
  have h := c_maskL x 9223372036854775807 63 (by decide) (by decide)
  rw [Int64.lt_iff_toInt_lt, h]
  have : (0 : Int64).toInt = 0 := by decide
  omega
theorem own_mm (u v : Int64) : jmin u v = jmax u v ↔ u = v := by
  simp only [jmin, jmax, jmin_11, jmax_11]
  by_cases h1 : v < u
  · have h2 : ¬ u < v := by rw [Int64.lt_iff_toInt_lt] at *; omega
    rw [if_pos h1, if_neg h2]; exact ⟨fun q => q.symm, fun q => q.symm⟩
  · rw [if_neg h1]
    by_cases h2 : u < v
    · rw [if_pos h2]
    · rw [if_neg h2]
      refine ⟨fun _ => ?_, fun _ => rfl⟩
      rw [Int64.lt_iff_toInt_lt] at h1 h2
      exact Int64.toInt_inj.mp (by omega)
theorem own_self {u v : Int64} (h : u = v) : selfLoop (jmin u v) (jmax u v) = 1 := by rw [selfLoop, if_pos ((own_mm u v).mpr h)]
theorem own_self' {u v : Int64} (h : ¬ u = v) : selfLoop (jmin u v) (jmax u v) = 0 := by rw [selfLoop, if_neg (fun q => h ((own_mm u v).mp q))]
theorem pn_0 : plainName "com/example/tristream/tristream/EdgeIsSelfLoopPinLaw" = true := by first | (simp [plainName, overriddenIn]; done) | decide +kernel
theorem ef_0 (m : MethodId) (q0 : Int64) (q1 : Int64) (q2 : Int32) : entryFrame m #[(.long q0), (.long q1), (.int q2)] maxLocals = mkF m 0 #[.val (.long q0), .second, .val (.long q1), .second, .val (.int q2), .unset, .unset, .unset, .unset, .unset, .unset, .unset] [] := by first | (simp [entryFrame, mkF, argsToLocals, Value.category, maxLocals]; done) | rfl
def QL (n0 : Nat) (v : Option Value) (h : Heap) (L : List Loc) : Prop := v = some (.int 1) ∧ Fr n0 L
set_option maxRecDepth 65536 in
set_option maxHeartbeats 40000000 in
theorem rm_law (l : Launch) (Z : State) (a0 : Array Value) (hw : ∀ d ∈ tables_1, d.before a0 Z = true) (ws : List Jvm.Cond) (q0 : Int64) (q1 : Int64) (q2 : Int32) (h0 : Heap) (n0 : Nat) (Z0 : n0 ≤ h0.size) :
    MetFree l x (head1 (Jvm.Cond.code x code maxLocals ret :: ws) room_1) (fun a_ U => a_ = #[(.long q0), (.long q1), (.int q2)] ∧ Z.Warmed39 U.vm ∧ U.heap = h0) (fun _ _ _ _ _ => True) (fun _ U o U' => ∃ v_ L_, o = .returned v_ ∧ QL n0 v_ U'.heap L_ ∧ FrameEnd U o U' L_ room_1.cells room_1.slots) := by
  refine MetFree.of_bodySF (plainFor_of_name pn_0) hisR ?_
  intro p e s m args below meth c s₁ Bd hml0 hP hK
  obtain ⟨rfl, hZ, hh⟩ := hP
  have hx := Bd.exec
  have hby := Bd.bytes
  have hlk : meth.locks = false := Bd.notSynchronized
  have hml : c.maxLocals = 12 := hml0
  have hown : s.vm.findClass "com/example/tristream/tristream/EdgeIsSelfLoopPinLaw" = some m.cls := findClass_of_methodNamed Bd.named
  have hnm := (name_of_methodNamed Bd.named Bd.method).1
  have X0 : Stand p l e room_1 s m #[(.long q0), (.long q1), (.int q2)] below meth c s₁ [] 0 0 := Stand.of_body Bd
  have e0 : s₁.heap = h0 := by rw [← hh, Bd.state]; rfl
  have N0 := Fr.nil n0
  have K0 : Keep h0 h0 [] := Keep.refl _ _
  show OEnds p e below s (QL n0) _ _ _
  refine own_by (fun t k => castTop (ef_0 m q0 q1 q2) k) ?_
  show OEnds p e below s _ _ _ (s₁.setTop (mkF m 0 #[.val (.long q0), .second, .val (.long q1), .second, .val (.int q2), .unset, .unset, .unset, .unset, .unset, .unset, .unset] []))
  refine own_by (fun _ k => XS.lloadN X0.here hx rfl (hb hby at_0) rfl k) ?_
  show OEnds p e below s _ _ _ (s₁.setTop (mkF m 1 #[.val (.long q0), .second, .val (.long q1), .second, .val (.int q2), .unset, .unset, .unset, .unset, .unset, .unset, .unset] [(.long q0)]))
  refine own_by (X0.ldc2Long hx hown (mvT hZ (hw _ (List.mem_of_getElem? (i := 0) rfl))) (g := (mkF m 1 #[.val (.long q0), .second, .val (.long q1), .second, .val (.int q2), .unset, .unset, .unset, .unset, .unset, .unset, .unset] [(.long q0)])) rfl (hb hby at_1)) ?_
  show OEnds p e below s _ _ _ (s₁.setTop (mkF m 4 #[.val (.long q0), .second, .val (.long q1), .second, .val (.int q2), .unset, .unset, .unset, .unset, .unset, .unset, .unset] [(.long (9223372036854775807 : Int64)), (.long q0)]))
  refine own_by (fun _ k => XS.land X0.here hx rfl (hb hby at_4) rfl k) ?_
  show OEnds p e below s _ _ _ (s₁.setTop (mkF m 5 #[.val (.long q0), .second, .val (.long q1), .second, .val (.int q2), .unset, .unset, .unset, .unset, .unset, .unset, .unset] [(.long (q0 &&& (9223372036854775807 : Int64)))]))
  refine own_by (fun _ k => XS.lstore X0.here hx rfl (hb hby at_5) rfl (l' := #[.val (.long q0), .second, .val (.long q1), .second, .val (.int q2), .val (.long (q0 &&& (9223372036854775807 : Int64))), .second, .unset, .unset, .unset, .unset, .unset]) rfl k) ?_
  show OEnds p e below s _ _ _ (s₁.setTop (mkF m 7 #[.val (.long q0), .second, .val (.long q1), .second, .val (.int q2), .val (.long (q0 &&& (9223372036854775807 : Int64))), .second, .unset, .unset, .unset, .unset, .unset] []))
  refine own_by (fun _ k => XS.lloadN X0.here hx rfl (hb hby at_7) rfl k) ?_
  show OEnds p e below s _ _ _ (s₁.setTop (mkF m 8 #[.val (.long q0), .second, .val (.long q1), .second, .val (.int q2), .val (.long (q0 &&& (9223372036854775807 : Int64))), .second, .unset, .unset, .unset, .unset, .unset] [(.long q1)]))
  refine own_by (X0.ldc2Long hx hown (mvT hZ (hw _ (List.mem_of_getElem? (i := 0) rfl))) (g := (mkF m 8 #[.val (.long q0), .second, .val (.long q1), .second, .val (.int q2), .val (.long (q0 &&& (9223372036854775807 : Int64))), .second, .unset, .unset, .unset, .unset, .unset] [(.long q1)])) rfl (hb hby at_8)) ?_
  show OEnds p e below s _ _ _ (s₁.setTop (mkF m 11 #[.val (.long q0), .second, .val (.long q1), .second, .val (.int q2), .val (.long (q0 &&& (9223372036854775807 : Int64))), .second, .unset, .unset, .unset, .unset, .unset] [(.long (9223372036854775807 : Int64)), (.long q1)]))
  refine own_by (fun _ k => XS.land X0.here hx rfl (hb hby at_11) rfl k) ?_
  show OEnds p e below s _ _ _ (s₁.setTop (mkF m 12 #[.val (.long q0), .second, .val (.long q1), .second, .val (.int q2), .val (.long (q0 &&& (9223372036854775807 : Int64))), .second, .unset, .unset, .unset, .unset, .unset] [(.long (q1 &&& (9223372036854775807 : Int64)))]))
  refine own_by (fun _ k => XS.lstore X0.here hx rfl (hb hby at_12) rfl (l' := #[.val (.long q0), .second, .val (.long q1), .second, .val (.int q2), .val (.long (q0 &&& (9223372036854775807 : Int64))), .second, .val (.long (q1 &&& (9223372036854775807 : Int64))), .second, .unset, .unset, .unset]) rfl k) ?_
  show OEnds p e below s _ _ _ (s₁.setTop (mkF m 14 #[.val (.long q0), .second, .val (.long q1), .second, .val (.int q2), .val (.long (q0 &&& (9223372036854775807 : Int64))), .second, .val (.long (q1 &&& (9223372036854775807 : Int64))), .second, .unset, .unset, .unset] []))
  have hxa : ¬ (q0 &&& (9223372036854775807 : Int64)) < (0 : Int64) := own_nn q0
  have hxb : ¬ (q1 &&& (9223372036854775807 : Int64)) < (0 : Int64) := own_nn q1
  generalize (q0 &&& (9223372036854775807 : Int64)) = xa at hxa ⊢
  generalize (q1 &&& (9223372036854775807 : Int64)) = xb at hxb ⊢
  show OEnds p e below s _ _ _ (s₁.setTop (mkF m 14 #[.val (.long q0), .second, .val (.long q1), .second, .val (.int q2), .val (.long xa), .second, .val (.long xb), .second, .unset, .unset, .unset] []))
  refine own_by (fun _ k => XS.iload X0.here hx rfl (hb hby at_14) rfl k) ?_
  show OEnds p e below s _ _ _ (s₁.setTop (mkF m 16 #[.val (.long q0), .second, .val (.long q1), .second, .val (.int q2), .val (.long xa), .second, .val (.long xb), .second, .unset, .unset, .unset] [(.int q2)]))
  refine own_by (fun _ k => XS.iconst X0.here hx rfl (hb hby at_16) k) ?_
  show OEnds p e below s _ _ _ (s₁.setTop (mkF m 17 #[.val (.long q0), .second, .val (.long q1), .second, .val (.int q2), .val (.long xa), .second, .val (.long xb), .second, .unset, .unset, .unset] [(.int (1 : Int32)), (.int q2)]))
  refine own_by (fun _ k => XS.iand X0.here hx rfl (hb hby at_17) rfl k) ?_
  show OEnds p e below s _ _ _ (s₁.setTop (mkF m 18 #[.val (.long q0), .second, .val (.long q1), .second, .val (.int q2), .val (.long xa), .second, .val (.long xb), .second, .unset, .unset, .unset] [(.int (q2 &&& (1 : Int32)))]))
  by_cases hc18_1 : (q2 &&& (1 : Int32)) = (0 : Int32)
  · refine own_by (fun _ k => XS.ifYes X0.here hx rfl (pc0 := 18) (pc' := 25) rfl (hb hby at_18) rfl ((if0 _ _).trans (teq hc18_1).1) (by decide) (by decide) k) ?_
    show OEnds p e below s _ _ _ (s₁.setTop (mkF m 25 #[.val (.long q0), .second, .val (.long q1), .second, .val (.int q2), .val (.long xa), .second, .val (.long xb), .second, .unset, .unset, .unset] []))
    refine own_by (fun _ k => XS.iload X0.here hx rfl (hb hby at_25) rfl k) ?_
    show OEnds p e below s _ _ _ (s₁.setTop (mkF m 27 #[.val (.long q0), .second, .val (.long q1), .second, .val (.int q2), .val (.long xa), .second, .val (.long xb), .second, .unset, .unset, .unset] [(.int q2)]))
    refine own_by (fun _ k => XS.iconst X0.here hx rfl (hb hby at_27) k) ?_
    show OEnds p e below s _ _ _ (s₁.setTop (mkF m 28 #[.val (.long q0), .second, .val (.long q1), .second, .val (.int q2), .val (.long xa), .second, .val (.long xb), .second, .unset, .unset, .unset] [(.int (2 : Int32)), (.int q2)]))
    refine own_by (fun _ k => XS.iand X0.here hx rfl (hb hby at_28) rfl k) ?_
    show OEnds p e below s _ _ _ (s₁.setTop (mkF m 29 #[.val (.long q0), .second, .val (.long q1), .second, .val (.int q2), .val (.long xa), .second, .val (.long xb), .second, .unset, .unset, .unset] [(.int (q2 &&& (2 : Int32)))]))
    by_cases hc29_2 : (q2 &&& (2 : Int32)) = (0 : Int32)
    · refine own_by (fun _ k => XS.ifYes X0.here hx rfl (pc0 := 29) (pc' := 36) rfl (hb hby at_29) rfl ((if0 _ _).trans (teq hc29_2).1) (by decide) (by decide) k) ?_
      show OEnds p e below s _ _ _ (s₁.setTop (mkF m 36 #[.val (.long q0), .second, .val (.long q1), .second, .val (.int q2), .val (.long xa), .second, .val (.long xb), .second, .unset, .unset, .unset] []))
      refine own_by (fun _ k => XS.iconst X0.here hx rfl (hb hby at_36) k) ?_
      show OEnds p e below s _ _ _ (s₁.setTop (mkF m 37 #[.val (.long q0), .second, .val (.long q1), .second, .val (.int q2), .val (.long xa), .second, .val (.long xb), .second, .unset, .unset, .unset] [(.int (0 : Int32))]))
      refine own_by (fun _ k => XS.istore X0.here hx rfl (hb hby at_37) rfl (l' := #[.val (.long q0), .second, .val (.long q1), .second, .val (.int q2), .val (.long xa), .second, .val (.long xb), .second, .val (.int (0 : Int32)), .unset, .unset]) rfl k) ?_
      show OEnds p e below s _ _ _ (s₁.setTop (mkF m 39 #[.val (.long q0), .second, .val (.long q1), .second, .val (.int q2), .val (.long xa), .second, .val (.long xb), .second, .val (.int (0 : Int32)), .unset, .unset] []))
      refine own_by (fun _ k => XS.iload X0.here hx rfl (hb hby at_39) rfl k) ?_
      show OEnds p e below s _ _ _ (s₁.setTop (mkF m 41 #[.val (.long q0), .second, .val (.long q1), .second, .val (.int q2), .val (.long xa), .second, .val (.long xb), .second, .val (.int (0 : Int32)), .unset, .unset] [(.int (0 : Int32))]))
      refine own_by (fun _ k => XS.ifYes X0.here hx rfl (pc0 := 41) (pc' := 58) rfl (hb hby at_41) rfl ((if0 _ _).trans (teq (by decide : (0 : Int32) = (0 : Int32))).1) (by decide) (by decide) k) ?_
      show OEnds p e below s _ _ _ (s₁.setTop (mkF m 58 #[.val (.long q0), .second, .val (.long q1), .second, .val (.int q2), .val (.long xa), .second, .val (.long xb), .second, .val (.int (0 : Int32)), .unset, .unset] []))
      obtain ⟨T3, h3, X3, e3, E3, A3, D3, -, st3⟩ := newO X0 hx hZ hown (hw _ (List.mem_of_getElem? (i := 1) rfl)) (hw _ (List.mem_of_getElem? (i := 2) rfl)) (hw _ (List.mem_of_getElem? (i := 3) rfl)) e0 (g := (mkF m 58 #[.val (.long q0), .second, .val (.long q1), .second, .val (.int q2), .val (.long xa), .second, .val (.long xb), .second, .val (.int (0 : Int32)), .unset, .unset] [])) rfl (hb hby at_58) (by decide) (by decide)
      obtain ⟨nb3, g3⟩ : ∃ z, z = h0.size := ⟨_, rfl⟩
      rw [← g3] at A3 D3 st3
      refine own_by (st3) ?_
      have g_nb3 : n0 ≤ nb3 := Nat.le_trans Z0 (Nat.le_of_eq g3.symm)
      have Z3 : n0 ≤ h3.size := Nat.le_trans Z0 E3.1
      have O3 : Obj Z h3 nb3 "com/example/tristream/tristream/Edge" sch_edge [(.long (0 : Int64)), (.long (0 : Int64))] := Obj.new (so_sch_edge hw) A3 D3 [.long, .long] (by decide)
      show OEnds p e below s _ _ _ (T3.setTop (mkF m 61 #[.val (.long q0), .second, .val (.long q1), .second, .val (.int q2), .val (.long xa), .second, .val (.long xb), .second, .val (.int (0 : Int32)), .unset, .unset] [(.ref nb3)]))
      refine own_by (fun _ k => XS.dup X3.here hx rfl (hb hby at_61) rfl rfl k) ?_
      show OEnds p e below s _ _ _ (T3.setTop (mkF m 62 #[.val (.long q0), .second, .val (.long q1), .second, .val (.int q2), .val (.long xa), .second, .val (.long xb), .second, .val (.int (0 : Int32)), .unset, .unset] [(.ref nb3), (.ref nb3)]))
      refine own_by (fun _ k => XS.lload X3.here hx rfl (hb hby at_62) rfl k) ?_
      show OEnds p e below s _ _ _ (T3.setTop (mkF m 64 #[.val (.long q0), .second, .val (.long q1), .second, .val (.int q2), .val (.long xa), .second, .val (.long xb), .second, .val (.int (0 : Int32)), .unset, .unset] [(.long xa), (.ref nb3), (.ref nb3)]))
      refine own_by (fun _ k => XS.lload X3.here hx rfl (hb hby at_64) rfl k) ?_
      show OEnds p e below s _ _ _ (T3.setTop (mkF m 66 #[.val (.long q0), .second, .val (.long q1), .second, .val (.int q2), .val (.long xa), .second, .val (.long xb), .second, .val (.int (0 : Int32)), .unset, .unset] [(.long xb), (.long xa), (.ref nb3), (.ref nb3)]))
      obtain ⟨v4, T4, L4, h4, X4, e4, hQ4, st4⟩ := own_callI X3 hx hZ (y := (⟨"com/example/tristream/tristream/Edge", "<init>", "(JJ)V"⟩ : MethodName)) rfl hown (hw _ (List.mem_of_getElem? (i := 4) rfl)) (hw _ (List.mem_of_getElem? (i := 5) rfl)) (hw _ (List.mem_of_getElem? (i := 6) rfl)) (hw _ (List.mem_of_getElem? (i := 3) rfl)) (by decide) (rm_init l Z a0 hw [] nb3 xa xb h3 n0 Z3 O3 g_nb3 hxa hxb) e3 (g := (mkF m 66 #[.val (.long q0), .second, .val (.long q1), .second, .val (.int q2), .val (.long xa), .second, .val (.long xb), .second, .val (.int (0 : Int32)), .unset, .unset] [(.long xb), (.long xa), (.ref nb3), (.ref nb3)])) rfl (by rw [hml]; rfl) (argsL := [(.long xa), (.long xb)]) (rest := [(.ref nb3)]) (lenOf pd_pJJrV rfl) rfl (W := 1) (by show 2 * 0 + _ ≤ _; exact Nat.le_of_eq rfl) (hb hby at_66) (by decide) (by decide) (by decide) (by decide)
      obtain ⟨rfl, Nq4, Kq4, O4⟩ := hQ4
      have N4 := Fr.app N0 Nq4
      have Z4 : n0 ≤ h4.size := Nat.le_trans Z3 Kq4.1
      refine own_tr st4 ?_
      show OEnds p e below s _ _ _ (T4.setTop (mkF m 69 #[.val (.long q0), .second, .val (.long q1), .second, .val (.int q2), .val (.long xa), .second, .val (.long xb), .second, .val (.int (0 : Int32)), .unset, .unset] [(.ref nb3)]))
      refine own_by (fun _ k => XS.astore X4.here hx rfl (hb hby at_69) rfl rfl (l' := #[.val (.long q0), .second, .val (.long q1), .second, .val (.int q2), .val (.long xa), .second, .val (.long xb), .second, .val (.int (0 : Int32)), .val (.ref nb3), .unset]) rfl k) ?_
      show OEnds p e below s _ _ _ (T4.setTop (mkF m 71 #[.val (.long q0), .second, .val (.long q1), .second, .val (.int q2), .val (.long xa), .second, .val (.long xb), .second, .val (.int (0 : Int32)), .val (.ref nb3), .unset] []))
      refine own_by (fun _ k => XS.lload X4.here hx rfl (hb hby at_71) rfl k) ?_
      show OEnds p e below s _ _ _ (T4.setTop (mkF m 73 #[.val (.long q0), .second, .val (.long q1), .second, .val (.int q2), .val (.long xa), .second, .val (.long xb), .second, .val (.int (0 : Int32)), .val (.ref nb3), .unset] [(.long xa)]))
      refine own_by (fun _ k => XS.lload X4.here hx rfl (hb hby at_73) rfl k) ?_
      show OEnds p e below s _ _ _ (T4.setTop (mkF m 75 #[.val (.long q0), .second, .val (.long q1), .second, .val (.int q2), .val (.long xa), .second, .val (.long xb), .second, .val (.int (0 : Int32)), .val (.ref nb3), .unset] [(.long xb), (.long xa)]))
      refine own_by (fun _ k => XS.lcmp X4.here hx rfl (hb hby at_75) rfl k) ?_
      show OEnds p e below s _ _ _ (T4.setTop (mkF m 76 #[.val (.long q0), .second, .val (.long q1), .second, .val (.int q2), .val (.long xa), .second, .val (.long xb), .second, .val (.int (0 : Int32)), .val (.ref nb3), .unset] [(.int (lcmpW xa xb))]))
      by_cases hc76_5 : xa = xb
      · refine own_by (fun _ k => XS.ifNo X4.here hx rfl (hb hby at_76) rfl ((if0 _ _).trans (teq ((lw_eq _ _).mpr hc76_5)).2) k) ?_
        show OEnds p e below s _ _ _ (T4.setTop (mkF m 79 #[.val (.long q0), .second, .val (.long q1), .second, .val (.int q2), .val (.long xa), .second, .val (.long xb), .second, .val (.int (0 : Int32)), .val (.ref nb3), .unset] []))
        refine own_by (fun _ k => XS.iconst X4.here hx rfl (hb hby at_79) k) ?_
        show OEnds p e below s _ _ _ (T4.setTop (mkF m 80 #[.val (.long q0), .second, .val (.long q1), .second, .val (.int q2), .val (.long xa), .second, .val (.long xb), .second, .val (.int (0 : Int32)), .val (.ref nb3), .unset] [(.int (1 : Int32))]))
        refine own_by (fun _ k => XS.goto X4.here hx rfl (pc0 := 80) (pc' := 84) rfl (hb hby at_80) (by decide) (by decide) k) ?_
        show OEnds p e below s _ _ _ (T4.setTop (mkF m 84 #[.val (.long q0), .second, .val (.long q1), .second, .val (.int q2), .val (.long xa), .second, .val (.long xb), .second, .val (.int (0 : Int32)), .val (.ref nb3), .unset] [(.int (1 : Int32))]))
        refine own_by (fun _ k => XS.istore X4.here hx rfl (hb hby at_84) rfl (l' := #[.val (.long q0), .second, .val (.long q1), .second, .val (.int q2), .val (.long xa), .second, .val (.long xb), .second, .val (.int (0 : Int32)), .val (.ref nb3), .val (.int (1 : Int32))]) rfl k) ?_
        show OEnds p e below s _ _ _ (T4.setTop (mkF m 86 #[.val (.long q0), .second, .val (.long q1), .second, .val (.int q2), .val (.long xa), .second, .val (.long xb), .second, .val (.int (0 : Int32)), .val (.ref nb3), .val (.int (1 : Int32))] []))
        refine own_by (fun _ k => XS.aload X4.here hx rfl (hb hby at_86) rfl rfl k) ?_
        show OEnds p e below s _ _ _ (T4.setTop (mkF m 88 #[.val (.long q0), .second, .val (.long q1), .second, .val (.int q2), .val (.long xa), .second, .val (.long xb), .second, .val (.int (0 : Int32)), .val (.ref nb3), .val (.int (1 : Int32))] [(.ref nb3)]))
        obtain ⟨T6, X6, e6, st6⟩ := own_callR X4 hx hZ (y := (⟨"com/example/tristream/tristream/Edge", "isSelfLoop", "()Z"⟩ : MethodName)) hown (hw _ (List.mem_of_getElem? (i := 21) rfl)) (hw _ (List.mem_of_getElem? (i := 22) rfl)) (hw _ (List.mem_of_getElem? (i := 24) rfl)) (hw _ (List.mem_of_getElem? (i := 23) rfl)) (hw _ (List.mem_of_getElem? (i := 25) rfl)) (hw _ (List.mem_of_getElem? (i := 3) rfl)) (by decide) O4.exa (rm_self l Z a0 hw [] nb3 (jmin xa xb) (jmax xa xb) h4 n0 Z4 O4) e4 (g := (mkF m 88 #[.val (.long q0), .second, .val (.long q1), .second, .val (.int q2), .val (.long xa), .second, .val (.long xb), .second, .val (.int (0 : Int32)), .val (.ref nb3), .val (.int (1 : Int32))] [(.ref nb3)])) rfl (by rw [hml]; rfl) (argsL := []) (rest := []) (lenOf pd_prZ rfl) rfl (W := 0) (by show 2 * 0 + _ ≤ _; exact Nat.le_of_eq rfl) (hb hby at_88) (by decide) (by decide) (by decide) (by decide)
        refine own_by (st6) ?_
        show OEnds p e below s _ _ _ (T6.setTop (mkF m 91 #[.val (.long q0), .second, .val (.long q1), .second, .val (.int q2), .val (.long xa), .second, .val (.long xb), .second, .val (.int (0 : Int32)), .val (.ref nb3), .val (.int (1 : Int32))] [(.int (selfLoop (jmin xa xb) (jmax xa xb)))]))
        refine own_by (fun _ k => XS.iload X6.here hx rfl (hb hby at_91) rfl k) ?_
        show OEnds p e below s _ _ _ (T6.setTop (mkF m 93 #[.val (.long q0), .second, .val (.long q1), .second, .val (.int q2), .val (.long xa), .second, .val (.long xb), .second, .val (.int (0 : Int32)), .val (.ref nb3), .val (.int (1 : Int32))] [(.int (1 : Int32)), (.int (selfLoop (jmin xa xb) (jmax xa xb)))]))
        refine own_by (fun _ k => XS.icmpNo X6.here hx rfl (hb hby at_93) rfl (teq (by first | exact own_self hc76_5 | exact own_self (Eq.symm hc76_5))).2 k) ?_
        show OEnds p e below s _ _ _ (T6.setTop (mkF m 96 #[.val (.long q0), .second, .val (.long q1), .second, .val (.int q2), .val (.long xa), .second, .val (.long xb), .second, .val (.int (0 : Int32)), .val (.ref nb3), .val (.int (1 : Int32))] []))
        refine own_by (fun _ k => XS.iconst X6.here hx rfl (hb hby at_96) k) ?_
        show OEnds p e below s _ _ _ (T6.setTop (mkF m 97 #[.val (.long q0), .second, .val (.long q1), .second, .val (.int q2), .val (.long xa), .second, .val (.long xb), .second, .val (.int (0 : Int32)), .val (.ref nb3), .val (.int (1 : Int32))] [(.int (1 : Int32))]))
        refine own_by (fun _ k => XS.goto X6.here hx rfl (pc0 := 97) (pc' := 101) rfl (hb hby at_97) (by decide) (by decide) k) ?_
        show OEnds p e below s _ _ _ (T6.setTop (mkF m 101 #[.val (.long q0), .second, .val (.long q1), .second, .val (.int q2), .val (.long xa), .second, .val (.long xb), .second, .val (.int (0 : Int32)), .val (.ref nb3), .val (.int (1 : Int32))] [(.int (1 : Int32))]))
        exact own_retN X6 hx hlk .boolean (by simp) Bd.returns (hb hby at_101) ⟨rfl, N4⟩ (by decide) (by decide)
      · refine own_by (fun _ k => XS.ifYes X4.here hx rfl (pc0 := 76) (pc' := 83) rfl (hb hby at_76) rfl ((if0 _ _).trans (feq (fun q => hc76_5 ((lw_eq _ _).mp q))).2) (by decide) (by decide) k) ?_
        show OEnds p e below s _ _ _ (T4.setTop (mkF m 83 #[.val (.long q0), .second, .val (.long q1), .second, .val (.int q2), .val (.long xa), .second, .val (.long xb), .second, .val (.int (0 : Int32)), .val (.ref nb3), .unset] []))
        refine own_by (fun _ k => XS.iconst X4.here hx rfl (hb hby at_83) k) ?_
        show OEnds p e below s _ _ _ (T4.setTop (mkF m 84 #[.val (.long q0), .second, .val (.long q1), .second, .val (.int q2), .val (.long xa), .second, .val (.long xb), .second, .val (.int (0 : Int32)), .val (.ref nb3), .unset] [(.int (0 : Int32))]))
        refine own_by (fun _ k => XS.istore X4.here hx rfl (hb hby at_84) rfl (l' := #[.val (.long q0), .second, .val (.long q1), .second, .val (.int q2), .val (.long xa), .second, .val (.long xb), .second, .val (.int (0 : Int32)), .val (.ref nb3), .val (.int (0 : Int32))]) rfl k) ?_
        show OEnds p e below s _ _ _ (T4.setTop (mkF m 86 #[.val (.long q0), .second, .val (.long q1), .second, .val (.int q2), .val (.long xa), .second, .val (.long xb), .second, .val (.int (0 : Int32)), .val (.ref nb3), .val (.int (0 : Int32))] []))
        refine own_by (fun _ k => XS.aload X4.here hx rfl (hb hby at_86) rfl rfl k) ?_
        show OEnds p e below s _ _ _ (T4.setTop (mkF m 88 #[.val (.long q0), .second, .val (.long q1), .second, .val (.int q2), .val (.long xa), .second, .val (.long xb), .second, .val (.int (0 : Int32)), .val (.ref nb3), .val (.int (0 : Int32))] [(.ref nb3)]))
        obtain ⟨T7, X7, e7, st7⟩ := own_callR X4 hx hZ (y := (⟨"com/example/tristream/tristream/Edge", "isSelfLoop", "()Z"⟩ : MethodName)) hown (hw _ (List.mem_of_getElem? (i := 21) rfl)) (hw _ (List.mem_of_getElem? (i := 22) rfl)) (hw _ (List.mem_of_getElem? (i := 24) rfl)) (hw _ (List.mem_of_getElem? (i := 23) rfl)) (hw _ (List.mem_of_getElem? (i := 25) rfl)) (hw _ (List.mem_of_getElem? (i := 3) rfl)) (by decide) O4.exa (rm_self l Z a0 hw [] nb3 (jmin xa xb) (jmax xa xb) h4 n0 Z4 O4) e4 (g := (mkF m 88 #[.val (.long q0), .second, .val (.long q1), .second, .val (.int q2), .val (.long xa), .second, .val (.long xb), .second, .val (.int (0 : Int32)), .val (.ref nb3), .val (.int (0 : Int32))] [(.ref nb3)])) rfl (by rw [hml]; rfl) (argsL := []) (rest := []) (lenOf pd_prZ rfl) rfl (W := 0) (by show 2 * 0 + _ ≤ _; exact Nat.le_of_eq rfl) (hb hby at_88) (by decide) (by decide) (by decide) (by decide)
        refine own_by (st7) ?_
        show OEnds p e below s _ _ _ (T7.setTop (mkF m 91 #[.val (.long q0), .second, .val (.long q1), .second, .val (.int q2), .val (.long xa), .second, .val (.long xb), .second, .val (.int (0 : Int32)), .val (.ref nb3), .val (.int (0 : Int32))] [(.int (selfLoop (jmin xa xb) (jmax xa xb)))]))
        refine own_by (fun _ k => XS.iload X7.here hx rfl (hb hby at_91) rfl k) ?_
        show OEnds p e below s _ _ _ (T7.setTop (mkF m 93 #[.val (.long q0), .second, .val (.long q1), .second, .val (.int q2), .val (.long xa), .second, .val (.long xb), .second, .val (.int (0 : Int32)), .val (.ref nb3), .val (.int (0 : Int32))] [(.int (0 : Int32)), (.int (selfLoop (jmin xa xb) (jmax xa xb)))]))
        refine own_by (fun _ k => XS.icmpNo X7.here hx rfl (hb hby at_93) rfl (teq (by first | exact own_self' hc76_5 | exact own_self' (fun q => hc76_5 (Eq.symm q)))).2 k) ?_
        show OEnds p e below s _ _ _ (T7.setTop (mkF m 96 #[.val (.long q0), .second, .val (.long q1), .second, .val (.int q2), .val (.long xa), .second, .val (.long xb), .second, .val (.int (0 : Int32)), .val (.ref nb3), .val (.int (0 : Int32))] []))
        refine own_by (fun _ k => XS.iconst X7.here hx rfl (hb hby at_96) k) ?_
        show OEnds p e below s _ _ _ (T7.setTop (mkF m 97 #[.val (.long q0), .second, .val (.long q1), .second, .val (.int q2), .val (.long xa), .second, .val (.long xb), .second, .val (.int (0 : Int32)), .val (.ref nb3), .val (.int (0 : Int32))] [(.int (1 : Int32))]))
        refine own_by (fun _ k => XS.goto X7.here hx rfl (pc0 := 97) (pc' := 101) rfl (hb hby at_97) (by decide) (by decide) k) ?_
        show OEnds p e below s _ _ _ (T7.setTop (mkF m 101 #[.val (.long q0), .second, .val (.long q1), .second, .val (.int q2), .val (.long xa), .second, .val (.long xb), .second, .val (.int (0 : Int32)), .val (.ref nb3), .val (.int (0 : Int32))] [(.int (1 : Int32))]))
        exact own_retN X7 hx hlk .boolean (by simp) Bd.returns (hb hby at_101) ⟨rfl, N4⟩ (by decide) (by decide)
    · refine own_by (fun _ k => XS.ifNo X0.here hx rfl (hb hby at_29) rfl ((if0 _ _).trans (feq hc29_2).1) k) ?_
      show OEnds p e below s _ _ _ (s₁.setTop (mkF m 32 #[.val (.long q0), .second, .val (.long q1), .second, .val (.int q2), .val (.long xa), .second, .val (.long xb), .second, .unset, .unset, .unset] []))
      refine own_by (fun _ k => XS.iconst X0.here hx rfl (hb hby at_32) k) ?_
      show OEnds p e below s _ _ _ (s₁.setTop (mkF m 33 #[.val (.long q0), .second, .val (.long q1), .second, .val (.int q2), .val (.long xa), .second, .val (.long xb), .second, .unset, .unset, .unset] [(.int (1 : Int32))]))
      refine own_by (fun _ k => XS.goto X0.here hx rfl (pc0 := 33) (pc' := 37) rfl (hb hby at_33) (by decide) (by decide) k) ?_
      show OEnds p e below s _ _ _ (s₁.setTop (mkF m 37 #[.val (.long q0), .second, .val (.long q1), .second, .val (.int q2), .val (.long xa), .second, .val (.long xb), .second, .unset, .unset, .unset] [(.int (1 : Int32))]))
      refine own_by (fun _ k => XS.istore X0.here hx rfl (hb hby at_37) rfl (l' := #[.val (.long q0), .second, .val (.long q1), .second, .val (.int q2), .val (.long xa), .second, .val (.long xb), .second, .val (.int (1 : Int32)), .unset, .unset]) rfl k) ?_
      show OEnds p e below s _ _ _ (s₁.setTop (mkF m 39 #[.val (.long q0), .second, .val (.long q1), .second, .val (.int q2), .val (.long xa), .second, .val (.long xb), .second, .val (.int (1 : Int32)), .unset, .unset] []))
      refine own_by (fun _ k => XS.iload X0.here hx rfl (hb hby at_39) rfl k) ?_
      show OEnds p e below s _ _ _ (s₁.setTop (mkF m 41 #[.val (.long q0), .second, .val (.long q1), .second, .val (.int q2), .val (.long xa), .second, .val (.long xb), .second, .val (.int (1 : Int32)), .unset, .unset] [(.int (1 : Int32))]))
      refine own_by (fun _ k => XS.ifNo X0.here hx rfl (hb hby at_41) rfl ((if0 _ _).trans (feq (by decide : ¬ ((1 : Int32) = (0 : Int32)))).1) k) ?_
      show OEnds p e below s _ _ _ (s₁.setTop (mkF m 44 #[.val (.long q0), .second, .val (.long q1), .second, .val (.int q2), .val (.long xa), .second, .val (.long xb), .second, .val (.int (1 : Int32)), .unset, .unset] []))
      obtain ⟨T8, h8, X8, e8, E8, A8, D8, -, st8⟩ := newO X0 hx hZ hown (hw _ (List.mem_of_getElem? (i := 1) rfl)) (hw _ (List.mem_of_getElem? (i := 2) rfl)) (hw _ (List.mem_of_getElem? (i := 3) rfl)) e0 (g := (mkF m 44 #[.val (.long q0), .second, .val (.long q1), .second, .val (.int q2), .val (.long xa), .second, .val (.long xb), .second, .val (.int (1 : Int32)), .unset, .unset] [])) rfl (hb hby at_44) (by decide) (by decide)
      obtain ⟨nb8, g8⟩ : ∃ z, z = h0.size := ⟨_, rfl⟩
      rw [← g8] at A8 D8 st8
      refine own_by (st8) ?_
      have g_nb8 : n0 ≤ nb8 := Nat.le_trans Z0 (Nat.le_of_eq g8.symm)
      have Z8 : n0 ≤ h8.size := Nat.le_trans Z0 E8.1
      have O8 : Obj Z h8 nb8 "com/example/tristream/tristream/Edge" sch_edge [(.long (0 : Int64)), (.long (0 : Int64))] := Obj.new (so_sch_edge hw) A8 D8 [.long, .long] (by decide)
      show OEnds p e below s _ _ _ (T8.setTop (mkF m 47 #[.val (.long q0), .second, .val (.long q1), .second, .val (.int q2), .val (.long xa), .second, .val (.long xb), .second, .val (.int (1 : Int32)), .unset, .unset] [(.ref nb8)]))
      refine own_by (fun _ k => XS.dup X8.here hx rfl (hb hby at_47) rfl rfl k) ?_
      show OEnds p e below s _ _ _ (T8.setTop (mkF m 48 #[.val (.long q0), .second, .val (.long q1), .second, .val (.int q2), .val (.long xa), .second, .val (.long xb), .second, .val (.int (1 : Int32)), .unset, .unset] [(.ref nb8), (.ref nb8)]))
      refine own_by (fun _ k => XS.lload X8.here hx rfl (hb hby at_48) rfl k) ?_
      show OEnds p e below s _ _ _ (T8.setTop (mkF m 50 #[.val (.long q0), .second, .val (.long q1), .second, .val (.int q2), .val (.long xa), .second, .val (.long xb), .second, .val (.int (1 : Int32)), .unset, .unset] [(.long xb), (.ref nb8), (.ref nb8)]))
      refine own_by (fun _ k => XS.lload X8.here hx rfl (hb hby at_50) rfl k) ?_
      show OEnds p e below s _ _ _ (T8.setTop (mkF m 52 #[.val (.long q0), .second, .val (.long q1), .second, .val (.int q2), .val (.long xa), .second, .val (.long xb), .second, .val (.int (1 : Int32)), .unset, .unset] [(.long xa), (.long xb), (.ref nb8), (.ref nb8)]))
      obtain ⟨v9, T9, L9, h9, X9, e9, hQ9, st9⟩ := own_callI X8 hx hZ (y := (⟨"com/example/tristream/tristream/Edge", "<init>", "(JJ)V"⟩ : MethodName)) rfl hown (hw _ (List.mem_of_getElem? (i := 4) rfl)) (hw _ (List.mem_of_getElem? (i := 5) rfl)) (hw _ (List.mem_of_getElem? (i := 6) rfl)) (hw _ (List.mem_of_getElem? (i := 3) rfl)) (by decide) (rm_init l Z a0 hw [] nb8 xb xa h8 n0 Z8 O8 g_nb8 hxb hxa) e8 (g := (mkF m 52 #[.val (.long q0), .second, .val (.long q1), .second, .val (.int q2), .val (.long xa), .second, .val (.long xb), .second, .val (.int (1 : Int32)), .unset, .unset] [(.long xa), (.long xb), (.ref nb8), (.ref nb8)])) rfl (by rw [hml]; rfl) (argsL := [(.long xb), (.long xa)]) (rest := [(.ref nb8)]) (lenOf pd_pJJrV rfl) rfl (W := 1) (by show 2 * 0 + _ ≤ _; exact Nat.le_of_eq rfl) (hb hby at_52) (by decide) (by decide) (by decide) (by decide)
      obtain ⟨rfl, Nq9, Kq9, O9⟩ := hQ9
      have N9 := Fr.app N0 Nq9
      have Z9 : n0 ≤ h9.size := Nat.le_trans Z8 Kq9.1
      refine own_tr st9 ?_
      show OEnds p e below s _ _ _ (T9.setTop (mkF m 55 #[.val (.long q0), .second, .val (.long q1), .second, .val (.int q2), .val (.long xa), .second, .val (.long xb), .second, .val (.int (1 : Int32)), .unset, .unset] [(.ref nb8)]))
      refine own_by (fun _ k => XS.goto X9.here hx rfl (pc0 := 55) (pc' := 69) rfl (hb hby at_55) (by decide) (by decide) k) ?_
      show OEnds p e below s _ _ _ (T9.setTop (mkF m 69 #[.val (.long q0), .second, .val (.long q1), .second, .val (.int q2), .val (.long xa), .second, .val (.long xb), .second, .val (.int (1 : Int32)), .unset, .unset] [(.ref nb8)]))
      refine own_by (fun _ k => XS.astore X9.here hx rfl (hb hby at_69) rfl rfl (l' := #[.val (.long q0), .second, .val (.long q1), .second, .val (.int q2), .val (.long xa), .second, .val (.long xb), .second, .val (.int (1 : Int32)), .val (.ref nb8), .unset]) rfl k) ?_
      show OEnds p e below s _ _ _ (T9.setTop (mkF m 71 #[.val (.long q0), .second, .val (.long q1), .second, .val (.int q2), .val (.long xa), .second, .val (.long xb), .second, .val (.int (1 : Int32)), .val (.ref nb8), .unset] []))
      refine own_by (fun _ k => XS.lload X9.here hx rfl (hb hby at_71) rfl k) ?_
      show OEnds p e below s _ _ _ (T9.setTop (mkF m 73 #[.val (.long q0), .second, .val (.long q1), .second, .val (.int q2), .val (.long xa), .second, .val (.long xb), .second, .val (.int (1 : Int32)), .val (.ref nb8), .unset] [(.long xa)]))
      refine own_by (fun _ k => XS.lload X9.here hx rfl (hb hby at_73) rfl k) ?_
      show OEnds p e below s _ _ _ (T9.setTop (mkF m 75 #[.val (.long q0), .second, .val (.long q1), .second, .val (.int q2), .val (.long xa), .second, .val (.long xb), .second, .val (.int (1 : Int32)), .val (.ref nb8), .unset] [(.long xb), (.long xa)]))
      refine own_by (fun _ k => XS.lcmp X9.here hx rfl (hb hby at_75) rfl k) ?_
      show OEnds p e below s _ _ _ (T9.setTop (mkF m 76 #[.val (.long q0), .second, .val (.long q1), .second, .val (.int q2), .val (.long xa), .second, .val (.long xb), .second, .val (.int (1 : Int32)), .val (.ref nb8), .unset] [(.int (lcmpW xa xb))]))
      by_cases hc76_10 : xa = xb
      · refine own_by (fun _ k => XS.ifNo X9.here hx rfl (hb hby at_76) rfl ((if0 _ _).trans (teq ((lw_eq _ _).mpr hc76_10)).2) k) ?_
        show OEnds p e below s _ _ _ (T9.setTop (mkF m 79 #[.val (.long q0), .second, .val (.long q1), .second, .val (.int q2), .val (.long xa), .second, .val (.long xb), .second, .val (.int (1 : Int32)), .val (.ref nb8), .unset] []))
        refine own_by (fun _ k => XS.iconst X9.here hx rfl (hb hby at_79) k) ?_
        show OEnds p e below s _ _ _ (T9.setTop (mkF m 80 #[.val (.long q0), .second, .val (.long q1), .second, .val (.int q2), .val (.long xa), .second, .val (.long xb), .second, .val (.int (1 : Int32)), .val (.ref nb8), .unset] [(.int (1 : Int32))]))
        refine own_by (fun _ k => XS.goto X9.here hx rfl (pc0 := 80) (pc' := 84) rfl (hb hby at_80) (by decide) (by decide) k) ?_
        show OEnds p e below s _ _ _ (T9.setTop (mkF m 84 #[.val (.long q0), .second, .val (.long q1), .second, .val (.int q2), .val (.long xa), .second, .val (.long xb), .second, .val (.int (1 : Int32)), .val (.ref nb8), .unset] [(.int (1 : Int32))]))
        refine own_by (fun _ k => XS.istore X9.here hx rfl (hb hby at_84) rfl (l' := #[.val (.long q0), .second, .val (.long q1), .second, .val (.int q2), .val (.long xa), .second, .val (.long xb), .second, .val (.int (1 : Int32)), .val (.ref nb8), .val (.int (1 : Int32))]) rfl k) ?_
        show OEnds p e below s _ _ _ (T9.setTop (mkF m 86 #[.val (.long q0), .second, .val (.long q1), .second, .val (.int q2), .val (.long xa), .second, .val (.long xb), .second, .val (.int (1 : Int32)), .val (.ref nb8), .val (.int (1 : Int32))] []))
        refine own_by (fun _ k => XS.aload X9.here hx rfl (hb hby at_86) rfl rfl k) ?_
        show OEnds p e below s _ _ _ (T9.setTop (mkF m 88 #[.val (.long q0), .second, .val (.long q1), .second, .val (.int q2), .val (.long xa), .second, .val (.long xb), .second, .val (.int (1 : Int32)), .val (.ref nb8), .val (.int (1 : Int32))] [(.ref nb8)]))
        obtain ⟨T11, X11, e11, st11⟩ := own_callR X9 hx hZ (y := (⟨"com/example/tristream/tristream/Edge", "isSelfLoop", "()Z"⟩ : MethodName)) hown (hw _ (List.mem_of_getElem? (i := 21) rfl)) (hw _ (List.mem_of_getElem? (i := 22) rfl)) (hw _ (List.mem_of_getElem? (i := 24) rfl)) (hw _ (List.mem_of_getElem? (i := 23) rfl)) (hw _ (List.mem_of_getElem? (i := 25) rfl)) (hw _ (List.mem_of_getElem? (i := 3) rfl)) (by decide) O9.exa (rm_self l Z a0 hw [] nb8 (jmin xb xa) (jmax xb xa) h9 n0 Z9 O9) e9 (g := (mkF m 88 #[.val (.long q0), .second, .val (.long q1), .second, .val (.int q2), .val (.long xa), .second, .val (.long xb), .second, .val (.int (1 : Int32)), .val (.ref nb8), .val (.int (1 : Int32))] [(.ref nb8)])) rfl (by rw [hml]; rfl) (argsL := []) (rest := []) (lenOf pd_prZ rfl) rfl (W := 0) (by show 2 * 0 + _ ≤ _; exact Nat.le_of_eq rfl) (hb hby at_88) (by decide) (by decide) (by decide) (by decide)
        refine own_by (st11) ?_
        show OEnds p e below s _ _ _ (T11.setTop (mkF m 91 #[.val (.long q0), .second, .val (.long q1), .second, .val (.int q2), .val (.long xa), .second, .val (.long xb), .second, .val (.int (1 : Int32)), .val (.ref nb8), .val (.int (1 : Int32))] [(.int (selfLoop (jmin xb xa) (jmax xb xa)))]))
        refine own_by (fun _ k => XS.iload X11.here hx rfl (hb hby at_91) rfl k) ?_
        show OEnds p e below s _ _ _ (T11.setTop (mkF m 93 #[.val (.long q0), .second, .val (.long q1), .second, .val (.int q2), .val (.long xa), .second, .val (.long xb), .second, .val (.int (1 : Int32)), .val (.ref nb8), .val (.int (1 : Int32))] [(.int (1 : Int32)), (.int (selfLoop (jmin xb xa) (jmax xb xa)))]))
        refine own_by (fun _ k => XS.icmpNo X11.here hx rfl (hb hby at_93) rfl (teq (by first | exact own_self hc76_10 | exact own_self (Eq.symm hc76_10))).2 k) ?_
        show OEnds p e below s _ _ _ (T11.setTop (mkF m 96 #[.val (.long q0), .second, .val (.long q1), .second, .val (.int q2), .val (.long xa), .second, .val (.long xb), .second, .val (.int (1 : Int32)), .val (.ref nb8), .val (.int (1 : Int32))] []))
        refine own_by (fun _ k => XS.iconst X11.here hx rfl (hb hby at_96) k) ?_
        show OEnds p e below s _ _ _ (T11.setTop (mkF m 97 #[.val (.long q0), .second, .val (.long q1), .second, .val (.int q2), .val (.long xa), .second, .val (.long xb), .second, .val (.int (1 : Int32)), .val (.ref nb8), .val (.int (1 : Int32))] [(.int (1 : Int32))]))
        refine own_by (fun _ k => XS.goto X11.here hx rfl (pc0 := 97) (pc' := 101) rfl (hb hby at_97) (by decide) (by decide) k) ?_
        show OEnds p e below s _ _ _ (T11.setTop (mkF m 101 #[.val (.long q0), .second, .val (.long q1), .second, .val (.int q2), .val (.long xa), .second, .val (.long xb), .second, .val (.int (1 : Int32)), .val (.ref nb8), .val (.int (1 : Int32))] [(.int (1 : Int32))]))
        exact own_retN X11 hx hlk .boolean (by simp) Bd.returns (hb hby at_101) ⟨rfl, N9⟩ (by decide) (by decide)
      · refine own_by (fun _ k => XS.ifYes X9.here hx rfl (pc0 := 76) (pc' := 83) rfl (hb hby at_76) rfl ((if0 _ _).trans (feq (fun q => hc76_10 ((lw_eq _ _).mp q))).2) (by decide) (by decide) k) ?_
        show OEnds p e below s _ _ _ (T9.setTop (mkF m 83 #[.val (.long q0), .second, .val (.long q1), .second, .val (.int q2), .val (.long xa), .second, .val (.long xb), .second, .val (.int (1 : Int32)), .val (.ref nb8), .unset] []))
        refine own_by (fun _ k => XS.iconst X9.here hx rfl (hb hby at_83) k) ?_
        show OEnds p e below s _ _ _ (T9.setTop (mkF m 84 #[.val (.long q0), .second, .val (.long q1), .second, .val (.int q2), .val (.long xa), .second, .val (.long xb), .second, .val (.int (1 : Int32)), .val (.ref nb8), .unset] [(.int (0 : Int32))]))
        refine own_by (fun _ k => XS.istore X9.here hx rfl (hb hby at_84) rfl (l' := #[.val (.long q0), .second, .val (.long q1), .second, .val (.int q2), .val (.long xa), .second, .val (.long xb), .second, .val (.int (1 : Int32)), .val (.ref nb8), .val (.int (0 : Int32))]) rfl k) ?_
        show OEnds p e below s _ _ _ (T9.setTop (mkF m 86 #[.val (.long q0), .second, .val (.long q1), .second, .val (.int q2), .val (.long xa), .second, .val (.long xb), .second, .val (.int (1 : Int32)), .val (.ref nb8), .val (.int (0 : Int32))] []))
        refine own_by (fun _ k => XS.aload X9.here hx rfl (hb hby at_86) rfl rfl k) ?_
        show OEnds p e below s _ _ _ (T9.setTop (mkF m 88 #[.val (.long q0), .second, .val (.long q1), .second, .val (.int q2), .val (.long xa), .second, .val (.long xb), .second, .val (.int (1 : Int32)), .val (.ref nb8), .val (.int (0 : Int32))] [(.ref nb8)]))
        obtain ⟨T12, X12, e12, st12⟩ := own_callR X9 hx hZ (y := (⟨"com/example/tristream/tristream/Edge", "isSelfLoop", "()Z"⟩ : MethodName)) hown (hw _ (List.mem_of_getElem? (i := 21) rfl)) (hw _ (List.mem_of_getElem? (i := 22) rfl)) (hw _ (List.mem_of_getElem? (i := 24) rfl)) (hw _ (List.mem_of_getElem? (i := 23) rfl)) (hw _ (List.mem_of_getElem? (i := 25) rfl)) (hw _ (List.mem_of_getElem? (i := 3) rfl)) (by decide) O9.exa (rm_self l Z a0 hw [] nb8 (jmin xb xa) (jmax xb xa) h9 n0 Z9 O9) e9 (g := (mkF m 88 #[.val (.long q0), .second, .val (.long q1), .second, .val (.int q2), .val (.long xa), .second, .val (.long xb), .second, .val (.int (1 : Int32)), .val (.ref nb8), .val (.int (0 : Int32))] [(.ref nb8)])) rfl (by rw [hml]; rfl) (argsL := []) (rest := []) (lenOf pd_prZ rfl) rfl (W := 0) (by show 2 * 0 + _ ≤ _; exact Nat.le_of_eq rfl) (hb hby at_88) (by decide) (by decide) (by decide) (by decide)
        refine own_by (st12) ?_
        show OEnds p e below s _ _ _ (T12.setTop (mkF m 91 #[.val (.long q0), .second, .val (.long q1), .second, .val (.int q2), .val (.long xa), .second, .val (.long xb), .second, .val (.int (1 : Int32)), .val (.ref nb8), .val (.int (0 : Int32))] [(.int (selfLoop (jmin xb xa) (jmax xb xa)))]))
        refine own_by (fun _ k => XS.iload X12.here hx rfl (hb hby at_91) rfl k) ?_
        show OEnds p e below s _ _ _ (T12.setTop (mkF m 93 #[.val (.long q0), .second, .val (.long q1), .second, .val (.int q2), .val (.long xa), .second, .val (.long xb), .second, .val (.int (1 : Int32)), .val (.ref nb8), .val (.int (0 : Int32))] [(.int (0 : Int32)), (.int (selfLoop (jmin xb xa) (jmax xb xa)))]))
        refine own_by (fun _ k => XS.icmpNo X12.here hx rfl (hb hby at_93) rfl (teq (by first | exact own_self' hc76_10 | exact own_self' (fun q => hc76_10 (Eq.symm q)))).2 k) ?_
        show OEnds p e below s _ _ _ (T12.setTop (mkF m 96 #[.val (.long q0), .second, .val (.long q1), .second, .val (.int q2), .val (.long xa), .second, .val (.long xb), .second, .val (.int (1 : Int32)), .val (.ref nb8), .val (.int (0 : Int32))] []))
        refine own_by (fun _ k => XS.iconst X12.here hx rfl (hb hby at_96) k) ?_
        show OEnds p e below s _ _ _ (T12.setTop (mkF m 97 #[.val (.long q0), .second, .val (.long q1), .second, .val (.int q2), .val (.long xa), .second, .val (.long xb), .second, .val (.int (1 : Int32)), .val (.ref nb8), .val (.int (0 : Int32))] [(.int (1 : Int32))]))
        refine own_by (fun _ k => XS.goto X12.here hx rfl (pc0 := 97) (pc' := 101) rfl (hb hby at_97) (by decide) (by decide) k) ?_
        show OEnds p e below s _ _ _ (T12.setTop (mkF m 101 #[.val (.long q0), .second, .val (.long q1), .second, .val (.int q2), .val (.long xa), .second, .val (.long xb), .second, .val (.int (1 : Int32)), .val (.ref nb8), .val (.int (0 : Int32))] [(.int (1 : Int32))]))
        exact own_retN X12 hx hlk .boolean (by simp) Bd.returns (hb hby at_101) ⟨rfl, N9⟩ (by decide) (by decide)
  · refine own_by (fun _ k => XS.ifNo X0.here hx rfl (hb hby at_18) rfl ((if0 _ _).trans (feq hc18_1).1) k) ?_
    show OEnds p e below s _ _ _ (s₁.setTop (mkF m 21 #[.val (.long q0), .second, .val (.long q1), .second, .val (.int q2), .val (.long xa), .second, .val (.long xb), .second, .unset, .unset, .unset] []))
    refine own_by (fun _ k => XS.lload X0.here hx rfl (hb hby at_21) rfl k) ?_
    show OEnds p e below s _ _ _ (s₁.setTop (mkF m 23 #[.val (.long q0), .second, .val (.long q1), .second, .val (.int q2), .val (.long xa), .second, .val (.long xb), .second, .unset, .unset, .unset] [(.long xa)]))
    refine own_by (fun _ k => XS.lstore X0.here hx rfl (hb hby at_23) rfl (l' := #[.val (.long q0), .second, .val (.long q1), .second, .val (.int q2), .val (.long xa), .second, .val (.long xa), .second, .unset, .unset, .unset]) rfl k) ?_
    show OEnds p e below s _ _ _ (s₁.setTop (mkF m 25 #[.val (.long q0), .second, .val (.long q1), .second, .val (.int q2), .val (.long xa), .second, .val (.long xa), .second, .unset, .unset, .unset] []))
    refine own_by (fun _ k => XS.iload X0.here hx rfl (hb hby at_25) rfl k) ?_
    show OEnds p e below s _ _ _ (s₁.setTop (mkF m 27 #[.val (.long q0), .second, .val (.long q1), .second, .val (.int q2), .val (.long xa), .second, .val (.long xa), .second, .unset, .unset, .unset] [(.int q2)]))
    refine own_by (fun _ k => XS.iconst X0.here hx rfl (hb hby at_27) k) ?_
    show OEnds p e below s _ _ _ (s₁.setTop (mkF m 28 #[.val (.long q0), .second, .val (.long q1), .second, .val (.int q2), .val (.long xa), .second, .val (.long xa), .second, .unset, .unset, .unset] [(.int (2 : Int32)), (.int q2)]))
    refine own_by (fun _ k => XS.iand X0.here hx rfl (hb hby at_28) rfl k) ?_
    show OEnds p e below s _ _ _ (s₁.setTop (mkF m 29 #[.val (.long q0), .second, .val (.long q1), .second, .val (.int q2), .val (.long xa), .second, .val (.long xa), .second, .unset, .unset, .unset] [(.int (q2 &&& (2 : Int32)))]))
    by_cases hc29_13 : (q2 &&& (2 : Int32)) = (0 : Int32)
    · refine own_by (fun _ k => XS.ifYes X0.here hx rfl (pc0 := 29) (pc' := 36) rfl (hb hby at_29) rfl ((if0 _ _).trans (teq hc29_13).1) (by decide) (by decide) k) ?_
      show OEnds p e below s _ _ _ (s₁.setTop (mkF m 36 #[.val (.long q0), .second, .val (.long q1), .second, .val (.int q2), .val (.long xa), .second, .val (.long xa), .second, .unset, .unset, .unset] []))
      refine own_by (fun _ k => XS.iconst X0.here hx rfl (hb hby at_36) k) ?_
      show OEnds p e below s _ _ _ (s₁.setTop (mkF m 37 #[.val (.long q0), .second, .val (.long q1), .second, .val (.int q2), .val (.long xa), .second, .val (.long xa), .second, .unset, .unset, .unset] [(.int (0 : Int32))]))
      refine own_by (fun _ k => XS.istore X0.here hx rfl (hb hby at_37) rfl (l' := #[.val (.long q0), .second, .val (.long q1), .second, .val (.int q2), .val (.long xa), .second, .val (.long xa), .second, .val (.int (0 : Int32)), .unset, .unset]) rfl k) ?_
      show OEnds p e below s _ _ _ (s₁.setTop (mkF m 39 #[.val (.long q0), .second, .val (.long q1), .second, .val (.int q2), .val (.long xa), .second, .val (.long xa), .second, .val (.int (0 : Int32)), .unset, .unset] []))
      refine own_by (fun _ k => XS.iload X0.here hx rfl (hb hby at_39) rfl k) ?_
      show OEnds p e below s _ _ _ (s₁.setTop (mkF m 41 #[.val (.long q0), .second, .val (.long q1), .second, .val (.int q2), .val (.long xa), .second, .val (.long xa), .second, .val (.int (0 : Int32)), .unset, .unset] [(.int (0 : Int32))]))
      refine own_by (fun _ k => XS.ifYes X0.here hx rfl (pc0 := 41) (pc' := 58) rfl (hb hby at_41) rfl ((if0 _ _).trans (teq (by decide : (0 : Int32) = (0 : Int32))).1) (by decide) (by decide) k) ?_
      show OEnds p e below s _ _ _ (s₁.setTop (mkF m 58 #[.val (.long q0), .second, .val (.long q1), .second, .val (.int q2), .val (.long xa), .second, .val (.long xa), .second, .val (.int (0 : Int32)), .unset, .unset] []))
      obtain ⟨T14, h14, X14, e14, E14, A14, D14, -, st14⟩ := newO X0 hx hZ hown (hw _ (List.mem_of_getElem? (i := 1) rfl)) (hw _ (List.mem_of_getElem? (i := 2) rfl)) (hw _ (List.mem_of_getElem? (i := 3) rfl)) e0 (g := (mkF m 58 #[.val (.long q0), .second, .val (.long q1), .second, .val (.int q2), .val (.long xa), .second, .val (.long xa), .second, .val (.int (0 : Int32)), .unset, .unset] [])) rfl (hb hby at_58) (by decide) (by decide)
      obtain ⟨nb14, g14⟩ : ∃ z, z = h0.size := ⟨_, rfl⟩
      rw [← g14] at A14 D14 st14
      refine own_by (st14) ?_
      have g_nb14 : n0 ≤ nb14 := Nat.le_trans Z0 (Nat.le_of_eq g14.symm)
      have Z14 : n0 ≤ h14.size := Nat.le_trans Z0 E14.1
      have O14 : Obj Z h14 nb14 "com/example/tristream/tristream/Edge" sch_edge [(.long (0 : Int64)), (.long (0 : Int64))] := Obj.new (so_sch_edge hw) A14 D14 [.long, .long] (by decide)
      show OEnds p e below s _ _ _ (T14.setTop (mkF m 61 #[.val (.long q0), .second, .val (.long q1), .second, .val (.int q2), .val (.long xa), .second, .val (.long xa), .second, .val (.int (0 : Int32)), .unset, .unset] [(.ref nb14)]))
      refine own_by (fun _ k => XS.dup X14.here hx rfl (hb hby at_61) rfl rfl k) ?_
      show OEnds p e below s _ _ _ (T14.setTop (mkF m 62 #[.val (.long q0), .second, .val (.long q1), .second, .val (.int q2), .val (.long xa), .second, .val (.long xa), .second, .val (.int (0 : Int32)), .unset, .unset] [(.ref nb14), (.ref nb14)]))
      refine own_by (fun _ k => XS.lload X14.here hx rfl (hb hby at_62) rfl k) ?_
      show OEnds p e below s _ _ _ (T14.setTop (mkF m 64 #[.val (.long q0), .second, .val (.long q1), .second, .val (.int q2), .val (.long xa), .second, .val (.long xa), .second, .val (.int (0 : Int32)), .unset, .unset] [(.long xa), (.ref nb14), (.ref nb14)]))
      refine own_by (fun _ k => XS.lload X14.here hx rfl (hb hby at_64) rfl k) ?_
      show OEnds p e below s _ _ _ (T14.setTop (mkF m 66 #[.val (.long q0), .second, .val (.long q1), .second, .val (.int q2), .val (.long xa), .second, .val (.long xa), .second, .val (.int (0 : Int32)), .unset, .unset] [(.long xa), (.long xa), (.ref nb14), (.ref nb14)]))
      obtain ⟨v15, T15, L15, h15, X15, e15, hQ15, st15⟩ := own_callI X14 hx hZ (y := (⟨"com/example/tristream/tristream/Edge", "<init>", "(JJ)V"⟩ : MethodName)) rfl hown (hw _ (List.mem_of_getElem? (i := 4) rfl)) (hw _ (List.mem_of_getElem? (i := 5) rfl)) (hw _ (List.mem_of_getElem? (i := 6) rfl)) (hw _ (List.mem_of_getElem? (i := 3) rfl)) (by decide) (rm_init l Z a0 hw [] nb14 xa xa h14 n0 Z14 O14 g_nb14 hxa hxa) e14 (g := (mkF m 66 #[.val (.long q0), .second, .val (.long q1), .second, .val (.int q2), .val (.long xa), .second, .val (.long xa), .second, .val (.int (0 : Int32)), .unset, .unset] [(.long xa), (.long xa), (.ref nb14), (.ref nb14)])) rfl (by rw [hml]; rfl) (argsL := [(.long xa), (.long xa)]) (rest := [(.ref nb14)]) (lenOf pd_pJJrV rfl) rfl (W := 1) (by show 2 * 0 + _ ≤ _; exact Nat.le_of_eq rfl) (hb hby at_66) (by decide) (by decide) (by decide) (by decide)
      obtain ⟨rfl, Nq15, Kq15, O15⟩ := hQ15
      have N15 := Fr.app N0 Nq15
      have Z15 : n0 ≤ h15.size := Nat.le_trans Z14 Kq15.1
      refine own_tr st15 ?_
      show OEnds p e below s _ _ _ (T15.setTop (mkF m 69 #[.val (.long q0), .second, .val (.long q1), .second, .val (.int q2), .val (.long xa), .second, .val (.long xa), .second, .val (.int (0 : Int32)), .unset, .unset] [(.ref nb14)]))
      refine own_by (fun _ k => XS.astore X15.here hx rfl (hb hby at_69) rfl rfl (l' := #[.val (.long q0), .second, .val (.long q1), .second, .val (.int q2), .val (.long xa), .second, .val (.long xa), .second, .val (.int (0 : Int32)), .val (.ref nb14), .unset]) rfl k) ?_
      show OEnds p e below s _ _ _ (T15.setTop (mkF m 71 #[.val (.long q0), .second, .val (.long q1), .second, .val (.int q2), .val (.long xa), .second, .val (.long xa), .second, .val (.int (0 : Int32)), .val (.ref nb14), .unset] []))
      refine own_by (fun _ k => XS.lload X15.here hx rfl (hb hby at_71) rfl k) ?_
      show OEnds p e below s _ _ _ (T15.setTop (mkF m 73 #[.val (.long q0), .second, .val (.long q1), .second, .val (.int q2), .val (.long xa), .second, .val (.long xa), .second, .val (.int (0 : Int32)), .val (.ref nb14), .unset] [(.long xa)]))
      refine own_by (fun _ k => XS.lload X15.here hx rfl (hb hby at_73) rfl k) ?_
      show OEnds p e below s _ _ _ (T15.setTop (mkF m 75 #[.val (.long q0), .second, .val (.long q1), .second, .val (.int q2), .val (.long xa), .second, .val (.long xa), .second, .val (.int (0 : Int32)), .val (.ref nb14), .unset] [(.long xa), (.long xa)]))
      refine own_by (fun _ k => XS.lcmp X15.here hx rfl (hb hby at_75) rfl k) ?_
      show OEnds p e below s _ _ _ (T15.setTop (mkF m 76 #[.val (.long q0), .second, .val (.long q1), .second, .val (.int q2), .val (.long xa), .second, .val (.long xa), .second, .val (.int (0 : Int32)), .val (.ref nb14), .unset] [(.int (lcmpW xa xa))]))
      refine own_by (fun _ k => XS.ifNo X15.here hx rfl (hb hby at_76) rfl ((if0 _ _).trans (teq ((lw_eq _ _).mpr (rfl : xa = xa))).2) k) ?_
      show OEnds p e below s _ _ _ (T15.setTop (mkF m 79 #[.val (.long q0), .second, .val (.long q1), .second, .val (.int q2), .val (.long xa), .second, .val (.long xa), .second, .val (.int (0 : Int32)), .val (.ref nb14), .unset] []))
      refine own_by (fun _ k => XS.iconst X15.here hx rfl (hb hby at_79) k) ?_
      show OEnds p e below s _ _ _ (T15.setTop (mkF m 80 #[.val (.long q0), .second, .val (.long q1), .second, .val (.int q2), .val (.long xa), .second, .val (.long xa), .second, .val (.int (0 : Int32)), .val (.ref nb14), .unset] [(.int (1 : Int32))]))
      refine own_by (fun _ k => XS.goto X15.here hx rfl (pc0 := 80) (pc' := 84) rfl (hb hby at_80) (by decide) (by decide) k) ?_
      show OEnds p e below s _ _ _ (T15.setTop (mkF m 84 #[.val (.long q0), .second, .val (.long q1), .second, .val (.int q2), .val (.long xa), .second, .val (.long xa), .second, .val (.int (0 : Int32)), .val (.ref nb14), .unset] [(.int (1 : Int32))]))
      refine own_by (fun _ k => XS.istore X15.here hx rfl (hb hby at_84) rfl (l' := #[.val (.long q0), .second, .val (.long q1), .second, .val (.int q2), .val (.long xa), .second, .val (.long xa), .second, .val (.int (0 : Int32)), .val (.ref nb14), .val (.int (1 : Int32))]) rfl k) ?_
      show OEnds p e below s _ _ _ (T15.setTop (mkF m 86 #[.val (.long q0), .second, .val (.long q1), .second, .val (.int q2), .val (.long xa), .second, .val (.long xa), .second, .val (.int (0 : Int32)), .val (.ref nb14), .val (.int (1 : Int32))] []))
      refine own_by (fun _ k => XS.aload X15.here hx rfl (hb hby at_86) rfl rfl k) ?_
      show OEnds p e below s _ _ _ (T15.setTop (mkF m 88 #[.val (.long q0), .second, .val (.long q1), .second, .val (.int q2), .val (.long xa), .second, .val (.long xa), .second, .val (.int (0 : Int32)), .val (.ref nb14), .val (.int (1 : Int32))] [(.ref nb14)]))
      obtain ⟨T16, X16, e16, st16⟩ := own_callR X15 hx hZ (y := (⟨"com/example/tristream/tristream/Edge", "isSelfLoop", "()Z"⟩ : MethodName)) hown (hw _ (List.mem_of_getElem? (i := 21) rfl)) (hw _ (List.mem_of_getElem? (i := 22) rfl)) (hw _ (List.mem_of_getElem? (i := 24) rfl)) (hw _ (List.mem_of_getElem? (i := 23) rfl)) (hw _ (List.mem_of_getElem? (i := 25) rfl)) (hw _ (List.mem_of_getElem? (i := 3) rfl)) (by decide) O15.exa (rm_self l Z a0 hw [] nb14 (jmin xa xa) (jmax xa xa) h15 n0 Z15 O15) e15 (g := (mkF m 88 #[.val (.long q0), .second, .val (.long q1), .second, .val (.int q2), .val (.long xa), .second, .val (.long xa), .second, .val (.int (0 : Int32)), .val (.ref nb14), .val (.int (1 : Int32))] [(.ref nb14)])) rfl (by rw [hml]; rfl) (argsL := []) (rest := []) (lenOf pd_prZ rfl) rfl (W := 0) (by show 2 * 0 + _ ≤ _; exact Nat.le_of_eq rfl) (hb hby at_88) (by decide) (by decide) (by decide) (by decide)
      refine own_by (st16) ?_
      show OEnds p e below s _ _ _ (T16.setTop (mkF m 91 #[.val (.long q0), .second, .val (.long q1), .second, .val (.int q2), .val (.long xa), .second, .val (.long xa), .second, .val (.int (0 : Int32)), .val (.ref nb14), .val (.int (1 : Int32))] [(.int (selfLoop (jmin xa xa) (jmax xa xa)))]))
      refine own_by (fun _ k => XS.iload X16.here hx rfl (hb hby at_91) rfl k) ?_
      show OEnds p e below s _ _ _ (T16.setTop (mkF m 93 #[.val (.long q0), .second, .val (.long q1), .second, .val (.int q2), .val (.long xa), .second, .val (.long xa), .second, .val (.int (0 : Int32)), .val (.ref nb14), .val (.int (1 : Int32))] [(.int (1 : Int32)), (.int (selfLoop (jmin xa xa) (jmax xa xa)))]))
      refine own_by (fun _ k => XS.icmpNo X16.here hx rfl (hb hby at_93) rfl (teq (own_self rfl)).2 k) ?_
      show OEnds p e below s _ _ _ (T16.setTop (mkF m 96 #[.val (.long q0), .second, .val (.long q1), .second, .val (.int q2), .val (.long xa), .second, .val (.long xa), .second, .val (.int (0 : Int32)), .val (.ref nb14), .val (.int (1 : Int32))] []))
      refine own_by (fun _ k => XS.iconst X16.here hx rfl (hb hby at_96) k) ?_
      show OEnds p e below s _ _ _ (T16.setTop (mkF m 97 #[.val (.long q0), .second, .val (.long q1), .second, .val (.int q2), .val (.long xa), .second, .val (.long xa), .second, .val (.int (0 : Int32)), .val (.ref nb14), .val (.int (1 : Int32))] [(.int (1 : Int32))]))
      refine own_by (fun _ k => XS.goto X16.here hx rfl (pc0 := 97) (pc' := 101) rfl (hb hby at_97) (by decide) (by decide) k) ?_
      show OEnds p e below s _ _ _ (T16.setTop (mkF m 101 #[.val (.long q0), .second, .val (.long q1), .second, .val (.int q2), .val (.long xa), .second, .val (.long xa), .second, .val (.int (0 : Int32)), .val (.ref nb14), .val (.int (1 : Int32))] [(.int (1 : Int32))]))
      exact own_retN X16 hx hlk .boolean (by simp) Bd.returns (hb hby at_101) ⟨rfl, N15⟩ (by decide) (by decide)
    · refine own_by (fun _ k => XS.ifNo X0.here hx rfl (hb hby at_29) rfl ((if0 _ _).trans (feq hc29_13).1) k) ?_
      show OEnds p e below s _ _ _ (s₁.setTop (mkF m 32 #[.val (.long q0), .second, .val (.long q1), .second, .val (.int q2), .val (.long xa), .second, .val (.long xa), .second, .unset, .unset, .unset] []))
      refine own_by (fun _ k => XS.iconst X0.here hx rfl (hb hby at_32) k) ?_
      show OEnds p e below s _ _ _ (s₁.setTop (mkF m 33 #[.val (.long q0), .second, .val (.long q1), .second, .val (.int q2), .val (.long xa), .second, .val (.long xa), .second, .unset, .unset, .unset] [(.int (1 : Int32))]))
      refine own_by (fun _ k => XS.goto X0.here hx rfl (pc0 := 33) (pc' := 37) rfl (hb hby at_33) (by decide) (by decide) k) ?_
      show OEnds p e below s _ _ _ (s₁.setTop (mkF m 37 #[.val (.long q0), .second, .val (.long q1), .second, .val (.int q2), .val (.long xa), .second, .val (.long xa), .second, .unset, .unset, .unset] [(.int (1 : Int32))]))
      refine own_by (fun _ k => XS.istore X0.here hx rfl (hb hby at_37) rfl (l' := #[.val (.long q0), .second, .val (.long q1), .second, .val (.int q2), .val (.long xa), .second, .val (.long xa), .second, .val (.int (1 : Int32)), .unset, .unset]) rfl k) ?_
      show OEnds p e below s _ _ _ (s₁.setTop (mkF m 39 #[.val (.long q0), .second, .val (.long q1), .second, .val (.int q2), .val (.long xa), .second, .val (.long xa), .second, .val (.int (1 : Int32)), .unset, .unset] []))
      refine own_by (fun _ k => XS.iload X0.here hx rfl (hb hby at_39) rfl k) ?_
      show OEnds p e below s _ _ _ (s₁.setTop (mkF m 41 #[.val (.long q0), .second, .val (.long q1), .second, .val (.int q2), .val (.long xa), .second, .val (.long xa), .second, .val (.int (1 : Int32)), .unset, .unset] [(.int (1 : Int32))]))
      refine own_by (fun _ k => XS.ifNo X0.here hx rfl (hb hby at_41) rfl ((if0 _ _).trans (feq (by decide : ¬ ((1 : Int32) = (0 : Int32)))).1) k) ?_
      show OEnds p e below s _ _ _ (s₁.setTop (mkF m 44 #[.val (.long q0), .second, .val (.long q1), .second, .val (.int q2), .val (.long xa), .second, .val (.long xa), .second, .val (.int (1 : Int32)), .unset, .unset] []))
      obtain ⟨T17, h17, X17, e17, E17, A17, D17, -, st17⟩ := newO X0 hx hZ hown (hw _ (List.mem_of_getElem? (i := 1) rfl)) (hw _ (List.mem_of_getElem? (i := 2) rfl)) (hw _ (List.mem_of_getElem? (i := 3) rfl)) e0 (g := (mkF m 44 #[.val (.long q0), .second, .val (.long q1), .second, .val (.int q2), .val (.long xa), .second, .val (.long xa), .second, .val (.int (1 : Int32)), .unset, .unset] [])) rfl (hb hby at_44) (by decide) (by decide)
      obtain ⟨nb17, g17⟩ : ∃ z, z = h0.size := ⟨_, rfl⟩
      rw [← g17] at A17 D17 st17
      refine own_by (st17) ?_
      have g_nb17 : n0 ≤ nb17 := Nat.le_trans Z0 (Nat.le_of_eq g17.symm)
      have Z17 : n0 ≤ h17.size := Nat.le_trans Z0 E17.1
      have O17 : Obj Z h17 nb17 "com/example/tristream/tristream/Edge" sch_edge [(.long (0 : Int64)), (.long (0 : Int64))] := Obj.new (so_sch_edge hw) A17 D17 [.long, .long] (by decide)
      show OEnds p e below s _ _ _ (T17.setTop (mkF m 47 #[.val (.long q0), .second, .val (.long q1), .second, .val (.int q2), .val (.long xa), .second, .val (.long xa), .second, .val (.int (1 : Int32)), .unset, .unset] [(.ref nb17)]))
      refine own_by (fun _ k => XS.dup X17.here hx rfl (hb hby at_47) rfl rfl k) ?_
      show OEnds p e below s _ _ _ (T17.setTop (mkF m 48 #[.val (.long q0), .second, .val (.long q1), .second, .val (.int q2), .val (.long xa), .second, .val (.long xa), .second, .val (.int (1 : Int32)), .unset, .unset] [(.ref nb17), (.ref nb17)]))
      refine own_by (fun _ k => XS.lload X17.here hx rfl (hb hby at_48) rfl k) ?_
      show OEnds p e below s _ _ _ (T17.setTop (mkF m 50 #[.val (.long q0), .second, .val (.long q1), .second, .val (.int q2), .val (.long xa), .second, .val (.long xa), .second, .val (.int (1 : Int32)), .unset, .unset] [(.long xa), (.ref nb17), (.ref nb17)]))
      refine own_by (fun _ k => XS.lload X17.here hx rfl (hb hby at_50) rfl k) ?_
      show OEnds p e below s _ _ _ (T17.setTop (mkF m 52 #[.val (.long q0), .second, .val (.long q1), .second, .val (.int q2), .val (.long xa), .second, .val (.long xa), .second, .val (.int (1 : Int32)), .unset, .unset] [(.long xa), (.long xa), (.ref nb17), (.ref nb17)]))
      obtain ⟨v18, T18, L18, h18, X18, e18, hQ18, st18⟩ := own_callI X17 hx hZ (y := (⟨"com/example/tristream/tristream/Edge", "<init>", "(JJ)V"⟩ : MethodName)) rfl hown (hw _ (List.mem_of_getElem? (i := 4) rfl)) (hw _ (List.mem_of_getElem? (i := 5) rfl)) (hw _ (List.mem_of_getElem? (i := 6) rfl)) (hw _ (List.mem_of_getElem? (i := 3) rfl)) (by decide) (rm_init l Z a0 hw [] nb17 xa xa h17 n0 Z17 O17 g_nb17 hxa hxa) e17 (g := (mkF m 52 #[.val (.long q0), .second, .val (.long q1), .second, .val (.int q2), .val (.long xa), .second, .val (.long xa), .second, .val (.int (1 : Int32)), .unset, .unset] [(.long xa), (.long xa), (.ref nb17), (.ref nb17)])) rfl (by rw [hml]; rfl) (argsL := [(.long xa), (.long xa)]) (rest := [(.ref nb17)]) (lenOf pd_pJJrV rfl) rfl (W := 1) (by show 2 * 0 + _ ≤ _; exact Nat.le_of_eq rfl) (hb hby at_52) (by decide) (by decide) (by decide) (by decide)
      obtain ⟨rfl, Nq18, Kq18, O18⟩ := hQ18
      have N18 := Fr.app N0 Nq18
      have Z18 : n0 ≤ h18.size := Nat.le_trans Z17 Kq18.1
      refine own_tr st18 ?_
      show OEnds p e below s _ _ _ (T18.setTop (mkF m 55 #[.val (.long q0), .second, .val (.long q1), .second, .val (.int q2), .val (.long xa), .second, .val (.long xa), .second, .val (.int (1 : Int32)), .unset, .unset] [(.ref nb17)]))
      refine own_by (fun _ k => XS.goto X18.here hx rfl (pc0 := 55) (pc' := 69) rfl (hb hby at_55) (by decide) (by decide) k) ?_
      show OEnds p e below s _ _ _ (T18.setTop (mkF m 69 #[.val (.long q0), .second, .val (.long q1), .second, .val (.int q2), .val (.long xa), .second, .val (.long xa), .second, .val (.int (1 : Int32)), .unset, .unset] [(.ref nb17)]))
      refine own_by (fun _ k => XS.astore X18.here hx rfl (hb hby at_69) rfl rfl (l' := #[.val (.long q0), .second, .val (.long q1), .second, .val (.int q2), .val (.long xa), .second, .val (.long xa), .second, .val (.int (1 : Int32)), .val (.ref nb17), .unset]) rfl k) ?_
      show OEnds p e below s _ _ _ (T18.setTop (mkF m 71 #[.val (.long q0), .second, .val (.long q1), .second, .val (.int q2), .val (.long xa), .second, .val (.long xa), .second, .val (.int (1 : Int32)), .val (.ref nb17), .unset] []))
      refine own_by (fun _ k => XS.lload X18.here hx rfl (hb hby at_71) rfl k) ?_
      show OEnds p e below s _ _ _ (T18.setTop (mkF m 73 #[.val (.long q0), .second, .val (.long q1), .second, .val (.int q2), .val (.long xa), .second, .val (.long xa), .second, .val (.int (1 : Int32)), .val (.ref nb17), .unset] [(.long xa)]))
      refine own_by (fun _ k => XS.lload X18.here hx rfl (hb hby at_73) rfl k) ?_
      show OEnds p e below s _ _ _ (T18.setTop (mkF m 75 #[.val (.long q0), .second, .val (.long q1), .second, .val (.int q2), .val (.long xa), .second, .val (.long xa), .second, .val (.int (1 : Int32)), .val (.ref nb17), .unset] [(.long xa), (.long xa)]))
      refine own_by (fun _ k => XS.lcmp X18.here hx rfl (hb hby at_75) rfl k) ?_
      show OEnds p e below s _ _ _ (T18.setTop (mkF m 76 #[.val (.long q0), .second, .val (.long q1), .second, .val (.int q2), .val (.long xa), .second, .val (.long xa), .second, .val (.int (1 : Int32)), .val (.ref nb17), .unset] [(.int (lcmpW xa xa))]))
      refine own_by (fun _ k => XS.ifNo X18.here hx rfl (hb hby at_76) rfl ((if0 _ _).trans (teq ((lw_eq _ _).mpr (rfl : xa = xa))).2) k) ?_
      show OEnds p e below s _ _ _ (T18.setTop (mkF m 79 #[.val (.long q0), .second, .val (.long q1), .second, .val (.int q2), .val (.long xa), .second, .val (.long xa), .second, .val (.int (1 : Int32)), .val (.ref nb17), .unset] []))
      refine own_by (fun _ k => XS.iconst X18.here hx rfl (hb hby at_79) k) ?_
      show OEnds p e below s _ _ _ (T18.setTop (mkF m 80 #[.val (.long q0), .second, .val (.long q1), .second, .val (.int q2), .val (.long xa), .second, .val (.long xa), .second, .val (.int (1 : Int32)), .val (.ref nb17), .unset] [(.int (1 : Int32))]))
      refine own_by (fun _ k => XS.goto X18.here hx rfl (pc0 := 80) (pc' := 84) rfl (hb hby at_80) (by decide) (by decide) k) ?_
      show OEnds p e below s _ _ _ (T18.setTop (mkF m 84 #[.val (.long q0), .second, .val (.long q1), .second, .val (.int q2), .val (.long xa), .second, .val (.long xa), .second, .val (.int (1 : Int32)), .val (.ref nb17), .unset] [(.int (1 : Int32))]))
      refine own_by (fun _ k => XS.istore X18.here hx rfl (hb hby at_84) rfl (l' := #[.val (.long q0), .second, .val (.long q1), .second, .val (.int q2), .val (.long xa), .second, .val (.long xa), .second, .val (.int (1 : Int32)), .val (.ref nb17), .val (.int (1 : Int32))]) rfl k) ?_
      show OEnds p e below s _ _ _ (T18.setTop (mkF m 86 #[.val (.long q0), .second, .val (.long q1), .second, .val (.int q2), .val (.long xa), .second, .val (.long xa), .second, .val (.int (1 : Int32)), .val (.ref nb17), .val (.int (1 : Int32))] []))
      refine own_by (fun _ k => XS.aload X18.here hx rfl (hb hby at_86) rfl rfl k) ?_
      show OEnds p e below s _ _ _ (T18.setTop (mkF m 88 #[.val (.long q0), .second, .val (.long q1), .second, .val (.int q2), .val (.long xa), .second, .val (.long xa), .second, .val (.int (1 : Int32)), .val (.ref nb17), .val (.int (1 : Int32))] [(.ref nb17)]))
      obtain ⟨T19, X19, e19, st19⟩ := own_callR X18 hx hZ (y := (⟨"com/example/tristream/tristream/Edge", "isSelfLoop", "()Z"⟩ : MethodName)) hown (hw _ (List.mem_of_getElem? (i := 21) rfl)) (hw _ (List.mem_of_getElem? (i := 22) rfl)) (hw _ (List.mem_of_getElem? (i := 24) rfl)) (hw _ (List.mem_of_getElem? (i := 23) rfl)) (hw _ (List.mem_of_getElem? (i := 25) rfl)) (hw _ (List.mem_of_getElem? (i := 3) rfl)) (by decide) O18.exa (rm_self l Z a0 hw [] nb17 (jmin xa xa) (jmax xa xa) h18 n0 Z18 O18) e18 (g := (mkF m 88 #[.val (.long q0), .second, .val (.long q1), .second, .val (.int q2), .val (.long xa), .second, .val (.long xa), .second, .val (.int (1 : Int32)), .val (.ref nb17), .val (.int (1 : Int32))] [(.ref nb17)])) rfl (by rw [hml]; rfl) (argsL := []) (rest := []) (lenOf pd_prZ rfl) rfl (W := 0) (by show 2 * 0 + _ ≤ _; exact Nat.le_of_eq rfl) (hb hby at_88) (by decide) (by decide) (by decide) (by decide)
      refine own_by (st19) ?_
      show OEnds p e below s _ _ _ (T19.setTop (mkF m 91 #[.val (.long q0), .second, .val (.long q1), .second, .val (.int q2), .val (.long xa), .second, .val (.long xa), .second, .val (.int (1 : Int32)), .val (.ref nb17), .val (.int (1 : Int32))] [(.int (selfLoop (jmin xa xa) (jmax xa xa)))]))
      refine own_by (fun _ k => XS.iload X19.here hx rfl (hb hby at_91) rfl k) ?_
      show OEnds p e below s _ _ _ (T19.setTop (mkF m 93 #[.val (.long q0), .second, .val (.long q1), .second, .val (.int q2), .val (.long xa), .second, .val (.long xa), .second, .val (.int (1 : Int32)), .val (.ref nb17), .val (.int (1 : Int32))] [(.int (1 : Int32)), (.int (selfLoop (jmin xa xa) (jmax xa xa)))]))
      refine own_by (fun _ k => XS.icmpNo X19.here hx rfl (hb hby at_93) rfl (teq (own_self rfl)).2 k) ?_
      show OEnds p e below s _ _ _ (T19.setTop (mkF m 96 #[.val (.long q0), .second, .val (.long q1), .second, .val (.int q2), .val (.long xa), .second, .val (.long xa), .second, .val (.int (1 : Int32)), .val (.ref nb17), .val (.int (1 : Int32))] []))
      refine own_by (fun _ k => XS.iconst X19.here hx rfl (hb hby at_96) k) ?_
      show OEnds p e below s _ _ _ (T19.setTop (mkF m 97 #[.val (.long q0), .second, .val (.long q1), .second, .val (.int q2), .val (.long xa), .second, .val (.long xa), .second, .val (.int (1 : Int32)), .val (.ref nb17), .val (.int (1 : Int32))] [(.int (1 : Int32))]))
      refine own_by (fun _ k => XS.goto X19.here hx rfl (pc0 := 97) (pc' := 101) rfl (hb hby at_97) (by decide) (by decide) k) ?_
      show OEnds p e below s _ _ _ (T19.setTop (mkF m 101 #[.val (.long q0), .second, .val (.long q1), .second, .val (.int q2), .val (.long xa), .second, .val (.long xa), .second, .val (.int (1 : Int32)), .val (.ref nb17), .val (.int (1 : Int32))] [(.int (1 : Int32))]))
      exact own_retN X19 hx hlk .boolean (by simp) Bd.returns (hb hby at_101) ⟨rfl, N18⟩ (by decide) (by decide)
set_option maxRecDepth 65536 in
set_option maxHeartbeats 40000000 in
theorem comes_1 {Post : Tables → Env → Array Value → State → Outcome → State → Prop} (hpost : ∀ tb e args s v u, (limb_1_1.after args s (.returned v) u = true ∧ limb_1_2.after args s (.returned v) u = true ∧ True) → FrameEnd s (.returned v) u (Jvm.fieldLocs frame_1_writes args s ++ Jvm.arrayLocs frame_1_arrays args s ++ Jvm.staticLocs frame_1_statics s) 16 128 → Post tb e args s (.returned v) u) :
    ArmFor flags0 classFile x code maxLocals ret World_1 tables_1 room_1 Calls_1 rest_1 Pre_1 Post := by
  intro l hfl _ _ p e ha hc hk s m args below hf hA hF happ hP
  obtain ⟨hcalls, hrest, hpre⟩ := hP
  obtain ⟨-, -, -, hnamed, -, -, -, hat⟩ := (Spec.applies_iff hf).mp happ
  obtain ⟨hg, hn⟩ := and_e (Cond.before_iff.mp (show (Jvm.Cond.and given_1 narrow_1).before args s = true from hpre))
  obtain ⟨hct, hg0⟩ := and_e hg
  obtain ⟨ga0, hg1⟩ := and_e hg0
  obtain ⟨ga1, hg2⟩ := and_e hg1
  have ga2 := hg2
  obtain ⟨w0, w1, w2, rfl⟩ : ∃ w0 w1 w2 : Value, args = #[w0, w1, w2] := by
    have hs : args.size = 3 := by simpa [Cond.value, given_1] using hct
    obtain ⟨L⟩ := args
    match L, hs with
    | [w0, w1, w2], _ => exact ⟨w0, w1, w2, rfl⟩
  have hw := fun d (hd : d ∈ tables_1) => atoms_spec (ws := Jvm.Cond.code x code maxLocals ret :: tables_1) hat d (List.mem_cons_of_mem _ hd)
  obtain ⟨i0, ei0⟩ := isL_v ga0
  obtain rfl : w0 = (.long i0) := Option.some.inj ei0
  obtain ⟨i1, ei1⟩ := isL_v ga1
  obtain rfl : w1 = (.long i1) := Option.some.inj ei1
  obtain ⟨i2, ei2⟩ := is_v ga2
  obtain rfl : w2 = (.int i2) := Option.some.inj ei2
  obtain ⟨n, o, h1, h2, h3, _, L, rfl, ⟨rfl, N⟩, hq⟩ := rm_law l s _ hw tables_1 i0 i1 i2 s.heap s.heap.size (Nat.le_refl _) p e ha hc hk s m _ below hf ((Spec.applies_iff_loose hf).mp happ).1 ⟨rfl, State.Warmed39.refl s, rfl⟩ trivial
  refine ⟨n, _, h1, h2, h3, hpost _ _ _ _ _ _ ⟨Cond.after_iff.mpr rfl, Cond.after_iff.mpr (eq_i res_at (Term.int_eval (1)) rfl), trivial⟩ ⟨hq.1, hq.2.1, (hq.2.2.sift fun y hy => Or.inr (N y hy)).mono (by decide) (by decide)⟩⟩
theorem main_1_1 : Claimed_1_1 := comes_1 fun _ _ _ _ _ _ h hF => ⟨h.1, hF⟩
theorem main_1_2 : Claimed_1_2 := comes_1 fun _ _ _ _ _ _ h hF => ⟨h.2.1, hF⟩
end Jvm.Pilot.@@N@@
namespace Jvm.Pilot.@@N@@
open Jvm Jvm.ClassFile Sem Op Lib Jvm.Free Jvm.Stand Jvm.Pilot.@@N@@.Jvm.D
/-! MADE BY PROGRAM (witnessworld.py) out of the Statement's table words and the real class files: 10 classes; the members and pool entries that the words name. The judged class is class 1, her method 1. -/
namespace start1
open Jvm.ClassFile
def u (s : String) : CpInfo := .utf8 (stringToUtf16 s)
/-- a pool by its gaps: so many unusable entries, then the entry; so many at the end -/
def gap : Nat → List CpInfo → List CpInfo
  | 0, r => r
  | n + 1, r => .unusable :: gap n r
def poolList (es : List (Nat × CpInfo)) (last : Nat) : List CpInfo := es.foldr (fun e r => gap e.1 (e.2 :: r)) (gap last [])
def pool (es : List (Nat × CpInfo)) (last : Nat) : Array CpInfo := ⟨poolList es last⟩
def fileOf (pool : Array CpInfo) (this : Nat) (attrs : Array Attribute := #[]) (ms : Array MethodInfo := #[]) (fl : Nat := 33) (sup : Nat := 0) (ifs : Array Nat := #[]) (fds : Array FieldInfo := #[]) : ClassFile where
  minorVersion := 0
  majorVersion := 65
  constantPool := pool
  accessFlags := fl
  thisClass := this
  superClass := sup
  interfaces := ifs
  fields := fds
  methods := ms
  attributes := attrs
def plain (name : String) (sup : Option ClassId) : Class where
  name := name
  kind := .ordinary
  loader := none
  accessFlags := 33
  super := sup
  interfaces := #[]
  cf := none
  fields := #[]
  methods := #[]
  instanceTypes := #[]
  staticTypes := #[]
  resolved := #[]
  callSites := []
  init := .initialized
  statics := none
  mirror := none

def pool0 : Array CpInfo := pool [(5, u "<init>"), (0, u "()V"), (1, .class_ 10), (1, u "java/lang/Object")] 113

def k0c0 : Code := { maxStack := 0, maxLocals := 1, code := object_method_1_code, exceptionTable := #[], attributes := #[] }
def k0m0 : Method := { name := "<init>", desc := "()V", sig := { parameters := [], returnType := none }, accessFlags := 1, code := some k0c0 }
/-- java/lang/Object -/
def k0 : Class := { plain "java/lang/Object" none with
  accessFlags := 33
  interfaces := #[]
  cf := some (fileOf pool0 8 #[] #[{ accessFlags := 1, nameIndex := 5, descriptorIndex := 6, attributes := #[] }] 33 0 #[] #[])
  fields := #[]
  methods := #[k0m0]
  instanceTypes := #[]
  staticTypes := #[]
  resolved := Array.replicate 124 none
  statics := none }

def pool1 : Array CpInfo := pool [(2, .class_ 4), (1, u "java/lang/Object"), (0, u "<init>"), (0, u "()V"), (2, .long 9223372036854775807), (1, .class_ 12), (0, u "com/example/tristream/tristream/Edge"), (0, .methodref 11 14), (0, .nameAndType 5 15), (0, u "(JJ)V"), (0, .methodref 11 17), (0, .nameAndType 18 19), (0, u "isSelfLoop"), (0, u "()Z"), (0, .class_ 21), (0, u "com/example/tristream/tristream/EdgeIsSelfLoopPinLaw"), (2, u "law"), (0, u "(JJI)Z")] 3

def k1m0 : Method := { name := "<init>", desc := "()V", sig := { parameters := [], returnType := none }, accessFlags := 1, code := none }
def k1c1 : Code := { maxStack := 6, maxLocals := 12, code := code, exceptionTable := #[], attributes := #[] }
def k1m1 : Method := { name := "law", desc := "(JJI)Z", sig := { parameters := [.long, .long, .int], returnType := some .boolean }, accessFlags := 9, code := some k1c1 }
/-- com/example/tristream/tristream/EdgeIsSelfLoopPinLaw -/
def k1 : Class := { plain "com/example/tristream/tristream/EdgeIsSelfLoopPinLaw" (some 0) with
  accessFlags := 49
  interfaces := #[]
  cf := some (fileOf pool1 20 #[] #[{ accessFlags := 1, nameIndex := 5, descriptorIndex := 6, attributes := #[] }, { accessFlags := 9, nameIndex := 24, descriptorIndex := 25, attributes := #[] }] 49 2 #[] #[])
  fields := #[]
  methods := #[k1m0, k1m1]
  instanceTypes := #[]
  staticTypes := #[]
  resolved := Array.replicate 29 none
  statics := none }

def pool2 : Array CpInfo := pool [(1, .methodref 2 3), (0, .class_ 4), (0, .nameAndType 5 6), (0, u "java/lang/Object"), (0, u "<init>"), (0, u "()V"), (9, .methodref 17 18), (0, .class_ 19), (0, .nameAndType 20 21), (0, u "java/lang/Math"), (0, u "min"), (0, u "(JJ)J"), (0, .fieldref 23 24), (0, .class_ 25), (0, .nameAndType 26 27), (0, u "com/example/tristream/tristream/Edge"), (0, u "u"), (0, u "J"), (0, .methodref 17 29), (0, .nameAndType 30 21), (0, u "max"), (0, .fieldref 23 32), (0, .nameAndType 33 27), (0, u "v"), (0, u "(JJ)V"), (4, u "isSelfLoop"), (0, u "()Z")] 17

def k2c0 : Code := { maxStack := 6, maxLocals := 5, code := prog_8_method_1_code, exceptionTable := #[], attributes := #[] }
def k2m0 : Method := { name := "<init>", desc := "(JJ)V", sig := { parameters := [.long, .long], returnType := none }, accessFlags := 1, code := some k2c0 }
def k2c1 : Code := { maxStack := 4, maxLocals := 1, code := prog_8_method_4_code, exceptionTable := #[], attributes := #[] }
def k2m1 : Method := { name := "isSelfLoop", desc := "()Z", sig := { parameters := [], returnType := some .boolean }, accessFlags := 1, code := some k2c1 }
/-- com/example/tristream/tristream/Edge -/
def k2 : Class := { plain "com/example/tristream/tristream/Edge" (some 0) with
  accessFlags := 49
  interfaces := #[]
  cf := some (fileOf pool2 23 #[] #[{ accessFlags := 1, nameIndex := 5, descriptorIndex := 34, attributes := #[] }, { accessFlags := 1, nameIndex := 39, descriptorIndex := 40, attributes := #[] }] 49 2 #[] #[{ accessFlags := 18, nameIndex := 26, descriptorIndex := 27, attributes := #[] }, { accessFlags := 18, nameIndex := 33, descriptorIndex := 27, attributes := #[] }])
  fields := #[{ name := "u", type := .long, accessFlags := 18, slot := 0, constantValue := 0 }, { name := "v", type := .long, accessFlags := 18, slot := 1, constantValue := 0 }]
  methods := #[k2m0, k2m1]
  instanceTypes := #[.long, .long]
  staticTypes := #[]
  resolved := Array.replicate 58 none
  statics := none }

def pool3 : Array CpInfo := pool [(1, .class_ 2), (0, u "java/lang/Math"), (1, .class_ 6), (1, u "java/lang/Object"), (0, u "<init>"), (0, u "()V"), (89, .class_ 100), (1, u "java/lang/Math$RandomNumberGeneratorHolder"), (20, u "(JJ)J"), (50, u "negativeZeroFloatBits"), (0, u "J"), (2, u "negativeZeroDoubleBits"), (21, u "max"), (2, u "min"), (43, u "$assertionsDisabled"), (0, u "Z"), (91, u "twoToTheDoubleScaleDown"), (0, u "D"), (4, u "twoToTheDoubleScaleUp"), (9, u "E"), (3, u "PI"), (2, u "TAU"), (2, u "DEGREES_TO_RADIANS"), (0, u "RADIANS_TO_DEGREES")] 94

def k3m0 : Method := { name := "<init>", desc := "()V", sig := { parameters := [], returnType := none }, accessFlags := 2, code := none }
def k3c1 : Code := { maxStack := 4, maxLocals := 4, code := jdk_29_method_66_code, exceptionTable := #[], attributes := #[] }
def k3m1 : Method := { name := "max", desc := "(JJ)J", sig := { parameters := [.long, .long], returnType := some .long }, accessFlags := 9, code := some k3c1 }
def k3c2 : Code := { maxStack := 4, maxLocals := 4, code := jdk_29_method_70_code, exceptionTable := #[], attributes := #[] }
def k3m2 : Method := { name := "min", desc := "(JJ)J", sig := { parameters := [.long, .long], returnType := some .long }, accessFlags := 9, code := some k3c2 }
/-- java/lang/Math -/
def k3 : Class := { plain "java/lang/Math" (some 0) with
  accessFlags := 49
  interfaces := #[]
  cf := some (fileOf pool3 1 #[.nestMembers #[98]] #[{ accessFlags := 2, nameIndex := 7, descriptorIndex := 8, attributes := #[] }, { accessFlags := 9, nameIndex := 198, descriptorIndex := 121, attributes := #[] }, { accessFlags := 9, nameIndex := 201, descriptorIndex := 121, attributes := #[] }] 49 4 #[] #[{ accessFlags := 25, nameIndex := 354, descriptorIndex := 339, attributes := #[] }, { accessFlags := 25, nameIndex := 358, descriptorIndex := 339, attributes := #[] }, { accessFlags := 25, nameIndex := 361, descriptorIndex := 339, attributes := #[] }, { accessFlags := 26, nameIndex := 364, descriptorIndex := 339, attributes := #[] }, { accessFlags := 26, nameIndex := 365, descriptorIndex := 339, attributes := #[] }, { accessFlags := 26, nameIndex := 172, descriptorIndex := 173, attributes := #[] }, { accessFlags := 26, nameIndex := 176, descriptorIndex := 173, attributes := #[] }, { accessFlags := 8, nameIndex := 344, descriptorIndex := 339, attributes := #[] }, { accessFlags := 8, nameIndex := 338, descriptorIndex := 339, attributes := #[] }, { accessFlags := 4120, nameIndex := 245, descriptorIndex := 246, attributes := #[] }])
  fields := #[{ name := "E", type := .double, accessFlags := 25, slot := 0, constantValue := 0 }, { name := "PI", type := .double, accessFlags := 25, slot := 1, constantValue := 0 }, { name := "TAU", type := .double, accessFlags := 25, slot := 2, constantValue := 0 }, { name := "DEGREES_TO_RADIANS", type := .double, accessFlags := 26, slot := 3, constantValue := 0 }, { name := "RADIANS_TO_DEGREES", type := .double, accessFlags := 26, slot := 4, constantValue := 0 }, { name := "negativeZeroFloatBits", type := .long, accessFlags := 26, slot := 5, constantValue := 0 }, { name := "negativeZeroDoubleBits", type := .long, accessFlags := 26, slot := 6, constantValue := 0 }, { name := "twoToTheDoubleScaleUp", type := .double, accessFlags := 8, slot := 7, constantValue := 0 }, { name := "twoToTheDoubleScaleDown", type := .double, accessFlags := 8, slot := 8, constantValue := 0 }, { name := "$assertionsDisabled", type := .boolean, accessFlags := 4120, slot := 9, constantValue := 0 }]
  methods := #[k3m0, k3m1, k3m2]
  instanceTypes := #[]
  staticTypes := #[.double, .double, .double, .double, .double, .long, .long, .double, .double, .boolean]
  resolved := Array.replicate 460 none
  statics := none }

def pool4 : Array CpInfo := pool [(1, u "java/lang/Cloneable"), (0, .class_ 1), (0, u "java/lang/Object"), (0, .class_ 3)] 3

/-- java/lang/Cloneable -/
def k4 : Class := { plain "java/lang/Cloneable" (some 0) with
  accessFlags := 1537
  interfaces := #[]
  cf := some (fileOf pool4 2 #[] #[] 1537 4 #[] #[])
  fields := #[]
  methods := #[]
  instanceTypes := #[]
  staticTypes := #[]
  resolved := Array.replicate 8 none
  statics := none }

def pool5 : Array CpInfo := pool [(1, u "java/io/Serializable"), (0, .class_ 1), (0, u "java/lang/Object"), (0, .class_ 3)] 3

/-- java/io/Serializable -/
def k5 : Class := { plain "java/io/Serializable" (some 0) with
  accessFlags := 1537
  interfaces := #[]
  cf := some (fileOf pool5 2 #[] #[] 1537 4 #[] #[])
  fields := #[]
  methods := #[]
  instanceTypes := #[]
  staticTypes := #[]
  resolved := Array.replicate 8 none
  statics := none }

/-- the primitive byte -/
def k6 : Class := { plain "byte" none with kind := .primitive 'B', accessFlags := 0x411 }
/-- [B -/
def k7 : Class := { plain "[B" (some 0) with kind := .array 6 .byte, interfaces := #[4, 5], accessFlags := 1041 }

/-- the primitive int -/
def k8 : Class := { plain "int" none with kind := .primitive 'I', accessFlags := 0x411 }
/-- [I -/
def k9 : Class := { plain "[I" (some 0) with kind := .array 8 .int, interfaces := #[4, 5], accessFlags := 1041 }

def heap : Heap := #[]
def classes : Array Class := #[k0, k1, k2, k3, k4, k5, k6, k7, k8, k9]
def interned : List (Array UInt16 × Addr) := []
def slotsUsed : Nat := 0
def theMethod : MethodId := ⟨1, 1⟩
def args0 : Array Value := #[.long 5, .long 7, .int 2]
def aboutOver (below : List Frame) : State where
  vm := { classes := classes, interned := interned.toArray }
  heap := heap
  slotsUsed := slotsUsed
  threads := #[{ frames := .invoking theMethod args0 :: below }]
def below0 : List Frame := [.native { method := ⟨0, 0⟩, args := #[] }]
def about1 : State := aboutOver below0
def p0 : Program := .bare "" "" ""
def e0 : Env := launch0.env 0 0 0
theorem w_frames : about1.frames = Frame.invoking theMethod args0 :: below0 := rfl
set_option maxRecDepth 65536 in
theorem w_args : argsFit about1.vm theMethod args0 = true := by decide +kernel
set_option maxRecDepth 65536 in
theorem w_heap : heapFits about1 = true := by decide +kernel
set_option maxRecDepth 65536 in
theorem w_runnable : about1.curStatus? = some .runnable := by decide +kernel
set_option maxRecDepth 65536 in
theorem w_alone : about1.alone = true := by decide +kernel
set_option maxRecDepth 65536 in
theorem w_named : about1.methodNamed? x = some theMethod := by decide +kernel
set_option maxRecDepth 65536 in
theorem w_hears : about1.hears theMethod below0 = true := by decide +kernel
set_option maxRecDepth 65536 in
theorem w_ripe : about1.ripe theMethod args0 below0 = true := by decide +kernel
theorem w_running : about1.status = .running := rfl
set_option maxRecDepth 65536 in
theorem w_room : about1.hasRoom e0.platform room_1 = true :=
  launch0.hasRoom_least _ room_1 (by decide +kernel) (by decide +kernel) (by decide +kernel) (by decide +kernel) (by decide +kernel) (by decide +kernel)
theorem allAtoms_all (ts : List Jvm.Cond) (a : Array Jvm.Value) (st : Jvm.State) : (allAtoms ts).before a st = ts.all (fun c => c.before a st) := by
  induction ts with
  | nil => rfl
  | cons c t ih =>
    show (Jvm.Cond.and c (allAtoms t)).before a st = _
    rw [Jvm.Cond.before_and, ih, List.all_cons]
def words1 : List Jvm.Cond := Jvm.Cond.code x code maxLocals ret :: tables_1
/-- a 'code' word, met by the world's own term for the bytes: nothing is compared byte by byte -/
theorem code_word {y : MethodName} {bytes : ByteArray} {mx : Nat} {rt : Option FieldType} {a : Array Value} {s : State} {m : MethodId} {meth : Method} {c : Code} (h1 : s.methodNamed? y = some m) (h2 : s.vm.method? m = some meth) (h3 : meth.code = some c) (h4 : c.code = bytes)
    (h5 : (c.maxLocals == mx && c.exceptionTable.isEmpty && decide (c.maxStack ≤ mostOperands) && decide (meth.sig.returnType = rt) && !meth.locks && decide (parseMethodDescriptor y.desc = some meth.sig)) = true) : (Jvm.Cond.code y bytes mx rt).before a s = true := by
  simp only [Bool.and_eq_true, beq_iff_eq, Bool.not_eq_true', decide_eq_true_eq] at h5
  obtain ⟨⟨⟨⟨⟨g1, g2⟩, g3⟩, g4⟩, g5⟩, g6⟩ := h5
  simp [Cond.before, Cond.holds, Cond.value, h1, h2, h3, h4, g1, g2, g3, g4, g5, g6]
def isCode : Jvm.Cond → Bool
  | .code _ _ _ _ => true
  | _ => false
theorem all_split {L : List Jvm.Cond} {P : Jvm.Cond → Bool} (h1 : L.all (fun c => isCode c || P c) = true) (h2 : ∀ c ∈ L.filter isCode, P c = true) : L.all P = true := by
  refine List.all_eq_true.mpr fun c hc => ?_
  have h := List.all_eq_true.mp h1 c hc
  rcases Bool.eq_false_or_eq_true (isCode c) with hi | hi
  · exact h2 c (List.mem_filter.mpr ⟨hc, hi⟩)
  · simpa [hi] using h
set_option maxRecDepth 65536 in
theorem w_c0 : (Jvm.Cond.code x code maxLocals ret).before args0 about1 = true := code_word (m := ⟨1, 1⟩) (meth := k1m1) (c := k1c1) (by decide +kernel) rfl rfl rfl (by decide +kernel)
set_option maxRecDepth 65536 in
theorem w_c1 : (Jvm.Cond.code ({ cls := "com/example/tristream/tristream/Edge", name := "<init>", desc := "(JJ)V" } : Jvm.MethodName) prog_8_method_1_code (5 : Nat) (Option.none : Option Jvm.ClassFile.FieldType)).before args0 about1 = true := code_word (m := ⟨2, 0⟩) (meth := k2m0) (c := k2c0) (by decide +kernel) rfl rfl rfl (by decide +kernel)
set_option maxRecDepth 65536 in
theorem w_c2 : (Jvm.Cond.code ({ cls := "java/lang/Object", name := "<init>", desc := "()V" } : Jvm.MethodName) object_method_1_code (1 : Nat) (Option.none : Option Jvm.ClassFile.FieldType)).before args0 about1 = true := code_word (m := ⟨0, 0⟩) (meth := k0m0) (c := k0c0) (by decide +kernel) rfl rfl rfl (by decide +kernel)
set_option maxRecDepth 65536 in
theorem w_c3 : (Jvm.Cond.code ({ cls := "java/lang/Math", name := "min", desc := "(JJ)J" } : Jvm.MethodName) jdk_29_method_70_code (4 : Nat) (Option.some Jvm.ClassFile.FieldType.long)).before args0 about1 = true := code_word (m := ⟨3, 2⟩) (meth := k3m2) (c := k3c2) (by decide +kernel) rfl rfl rfl (by decide +kernel)
set_option maxRecDepth 65536 in
theorem w_c4 : (Jvm.Cond.code ({ cls := "java/lang/Math", name := "max", desc := "(JJ)J" } : Jvm.MethodName) jdk_29_method_66_code (4 : Nat) (Option.some Jvm.ClassFile.FieldType.long)).before args0 about1 = true := code_word (m := ⟨3, 1⟩) (meth := k3m1) (c := k3c1) (by decide +kernel) rfl rfl rfl (by decide +kernel)
set_option maxRecDepth 65536 in
theorem w_c5 : (Jvm.Cond.code ({ cls := "com/example/tristream/tristream/Edge", name := "isSelfLoop", desc := "()Z" } : Jvm.MethodName) prog_8_method_4_code (1 : Nat) (Option.some Jvm.ClassFile.FieldType.boolean)).before args0 about1 = true := code_word (m := ⟨2, 1⟩) (meth := k2m1) (c := k2c1) (by decide +kernel) rfl rfl rfl (by decide +kernel)
def codes1 : List Jvm.Cond := [Jvm.Cond.code x code maxLocals ret, Jvm.Cond.code ({ cls := "com/example/tristream/tristream/Edge", name := "<init>", desc := "(JJ)V" } : Jvm.MethodName) prog_8_method_1_code (5 : Nat) (Option.none : Option Jvm.ClassFile.FieldType), Jvm.Cond.code ({ cls := "java/lang/Object", name := "<init>", desc := "()V" } : Jvm.MethodName) object_method_1_code (1 : Nat) (Option.none : Option Jvm.ClassFile.FieldType), Jvm.Cond.code ({ cls := "java/lang/Math", name := "min", desc := "(JJ)J" } : Jvm.MethodName) jdk_29_method_70_code (4 : Nat) (Option.some Jvm.ClassFile.FieldType.long), Jvm.Cond.code ({ cls := "java/lang/Math", name := "max", desc := "(JJ)J" } : Jvm.MethodName) jdk_29_method_66_code (4 : Nat) (Option.some Jvm.ClassFile.FieldType.long), Jvm.Cond.code ({ cls := "com/example/tristream/tristream/Edge", name := "isSelfLoop", desc := "()Z" } : Jvm.MethodName) prog_8_method_4_code (1 : Nat) (Option.some Jvm.ClassFile.FieldType.boolean)]
set_option maxRecDepth 65536 in
theorem codes_eq : words1.filter isCode = codes1 := rfl
theorem w_codes : ∀ c ∈ words1.filter isCode, c.before args0 about1 = true := by
  rw [codes_eq]
  intro c hc
  simp only [codes1, List.mem_cons, List.not_mem_nil, or_false] at hc
  rcases hc with rfl | rfl | rfl | rfl | rfl | rfl
  · exact w_c0
  · exact w_c1
  · exact w_c2
  · exact w_c3
  · exact w_c4
  · exact w_c5
set_option maxRecDepth 65536 in
theorem w_t1 : (words1.take 24).all (fun c => isCode c || c.before args0 about1) = true := by decide +kernel
set_option maxRecDepth 65536 in
theorem w_t2 : (words1.drop 24).all (fun c => isCode c || c.before args0 about1) = true := by decide +kernel
theorem w_tables : (allAtoms (Jvm.Cond.code x code maxLocals ret :: tables_1)).before args0 about1 = true := by
  rw [allAtoms_all]
  show words1.all (fun c => c.before args0 about1) = true
  refine all_split ?_ w_codes
  rw [← List.take_append_drop 24 words1, List.all_append, w_t1, w_t2]
  rfl
set_option maxRecDepth 65536 in
theorem w_case : (Jvm.Cond.and given_1 narrow_1).before args0 about1 = true := by decide +kernel
theorem w_applies : (headSpec (Jvm.Cond.code x code maxLocals ret :: tables_1) room_1).applies x e0.platform about1 = true :=
  (Spec.applies_iff w_frames).mpr ⟨w_running, w_runnable, w_alone, w_named, w_hears, w_ripe, w_room, w_tables⟩
theorem atStart : AtStart classFile x code maxLocals ret World_1 tables_1 room_1 Calls_1 rest_1 Pre_1 launch0 p0 e0 about1 theMethod args0 below0 :=
  ⟨lists_1, trivial, launch0.admits_env _ _ _, launch0.least_env, fairChoices_fair.cas, fairChoices_fair.clock, w_frames, w_args, w_heap, w_applies, trivial, trivial, w_case⟩
end start1
theorem witness_1 : WitnessClaimed_1 := ⟨start1.p0, start1.e0, start1.about1, start1.theMethod, start1.args0, start1.below0, start1.atStart⟩
end Jvm.Pilot.@@N@@
