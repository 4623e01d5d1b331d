import JvmDerived
import JvmDerived.Pilot.@@N@@Statement
import JvmDerived.Pilot.@@N@@Code
set_option linter.unusedVariables false
set_option linter.unusedSimpArgs false
namespace Jvm.Pilot.@@N@@
open Jvm Jvm.ClassFile Sem Op Lib Jvm.Free Jvm.Stand Jvm.LawKit Jvm.RoadKit Bundle Jvm.Pilot.@@N@@.Jvm.D
section Own
variable {p : Program} {l : Launch} {e : Env} {R : Room} {s : State} {m : MethodId} {args : Array Value} {below : List Frame} {meth : Method} {c : Code} {T : State} {locs : List Loc} {cells slots : Nat} {Z : State} {a0 : Array Value} {h h' : Heap}
/-- from S the walk comes to the method's end, where Q holds of what is returned, the heap and the written places -/
def OEnds (p : Program) (e : Env) (below : List Frame) (s : State) (Q : Option Value → Heap → List Loc → Prop) (K N : Nat) (S : State) : Prop :=
  ∃ s₂ o, Steps p.tables e below S s₂ ∧ s₂.status = .running ∧ Ended s₂ below o ∧ ∃ v L, o = .returned v ∧ Q v s₂.heap L ∧ FrameEnd s o s₂ L K N
variable {Q Q' : Option Value → Heap → List Loc → Prop} {K N : Nat} {S S' : State}
theorem own_by (st : ∀ t, Steps p.tables e below S' t → Steps p.tables e below S t) (k : OEnds p e below s Q K N S') : OEnds p e below s Q K N S := by
  obtain ⟨a, o, h1, h2⟩ := k
  exact ⟨a, o, st _ h1, h2⟩
theorem own_tr (st : Steps p.tables e below S S') (k : OEnds p e below s Q K N S') : OEnds p e below s Q K N S := by
  obtain ⟨a, o, h1, h2⟩ := k
  exact ⟨a, o, st.trans h1, h2⟩
theorem own_mono (f : ∀ v h L, Q' v h L → Q v h L) (k : OEnds p e below s Q' K N S) : OEnds p e below s Q K N S := by
  obtain ⟨a, o, h1, h2, h3, v, L, h4, h5, h6⟩ := k
  exact ⟨a, o, h1, h2, h3, v, L, h4, f _ _ _ h5, h6⟩
theorem own_fin (X : Stand p l e R s m args below meth c T locs cells slots) (hlk : meth.locks = false) {v : Option Value} (hv : meth.sig.returnType = none → v = none) (hQ : Q v T.heap locs) (hK : cells ≤ K) (hN : slots ≤ N)
    (hst : ∀ fs, (∀ (f : JFrame) (acts : List Action), f.method = m → f.locked = none → f.entered = [] → (doReturn e (T.setTop f) acts v).1 = T.setFrames fs) → Steps p.tables e below S (T.setFrames fs)) : OEnds p e below s Q K N S := by
  obtain ⟨fs, hr, hrun, hended, hW, hsame⟩ := X.leave hv hlk
  exact ⟨_, _, hst fs hr, hrun, hended, _, _, rfl, hQ, ⟨_, rfl⟩, hW, hsame.mono hK hN⟩
theorem own_retI (X : Stand p l e R s m args below meth c T locs cells slots) (hx : p.tables.exec = Jvm.exec) (hlk : meth.locks = false) {pc : Nat} {Ls : Array Slot} {z : Int32} {rest : List Value} (hret : meth.sig.returnType = some .int) (hd : decode c.code pc = .ok (.ireturn, 1))
    (hQ : Q (some (.int z)) T.heap locs) (hK : cells ≤ K) (hN : slots ≤ N) : OEnds p e below s Q K N (T.setTop (mkF m pc Ls (.int z :: rest))) :=
  own_fin X hlk (fun q => by rw [hret] at q; cases q) hQ hK hN fun _ hr => retOut X hx hret rfl (Or.inl ⟨rfl, Or.inl rfl, _, rfl⟩) hd hr
theorem own_retN (X : Stand p l e R s m args below meth c T locs cells slots) (hx : p.tables.exec = Jvm.exec) (hlk : meth.locks = false) (t : FieldType) (ht : t = .boolean ∨ t = .byte ∨ t = .char ∨ t = .short) {pc : Nat} {Ls : Array Slot} {z : Int32} {rest : List Value} (hret : meth.sig.returnType = some t) (hd : decode c.code pc = .ok (.ireturn, 1))
    (hQ : Q (some (.int (nar t z))) T.heap locs) (hK : cells ≤ K) (hN : slots ≤ N) : OEnds p e below s Q K N (T.setTop (mkF m pc Ls (.int z :: rest))) :=
  own_fin X hlk (fun q => by rw [hret] at q; cases q) hQ hK hN fun _ hr => retN X hx hret ht hd hr
theorem own_retJ (X : Stand p l e R s m args below meth c T locs cells slots) (hx : p.tables.exec = Jvm.exec) (hlk : meth.locks = false) {pc : Nat} {Ls : Array Slot} {z : Int64} {rest : List Value} (hret : meth.sig.returnType = some .long) (hd : decode c.code pc = .ok (.lreturn, 1))
    (hQ : Q (some (.long z)) T.heap locs) (hK : cells ≤ K) (hN : slots ≤ N) : OEnds p e below s Q K N (T.setTop (mkF m pc Ls (.long z :: rest))) :=
  own_fin X hlk (fun q => by rw [hret] at q; cases q) hQ hK hN fun _ hr => retOut X hx hret rfl (Or.inr (Or.inl ⟨rfl, rfl, _, rfl⟩)) hd hr
theorem own_retA (X : Stand p l e R s m args below meth c T locs cells slots) (hx : p.tables.exec = Jvm.exec) (hlk : meth.locks = false) {t : FieldType} (ht : t.isReference = true) {pc : Nat} {Ls : Array Slot} {a : Addr} {rest : List Value} (hret : meth.sig.returnType = some t) (hn : narrow t (.ref a) = .ref a) (hd : decode c.code pc = .ok (.areturn, 1))
    (hQ : Q (some (.ref a)) T.heap locs) (hK : cells ≤ K) (hN : slots ≤ N) : OEnds p e below s Q K N (T.setTop (mkF m pc Ls (.ref a :: rest))) :=
  own_fin X hlk (fun q => by rw [hret] at q; cases q) hQ hK hN fun _ hr => retOut X hx hret hn (Or.inr (Or.inr (Or.inr (Or.inr ⟨rfl, ht, rfl⟩)))) hd hr
theorem own_retV (X : Stand p l e R s m args below meth c T locs cells slots) (hx : p.tables.exec = Jvm.exec) (hlk : meth.locks = false) {pc : Nat} {Ls : Array Slot} (hret : meth.sig.returnType = none) (hd : decode c.code pc = .ok (.return_, 1))
    (hQ : Q none T.heap locs) (hK : cells ≤ K) (hN : slots ≤ N) : OEnds p e below s Q K N (T.setTop (mkF m pc Ls [])) :=
  own_fin X hlk (fun _ => rfl) hQ hK hN fun _ hr => X.returnOut hx hret hd hr
/-- what a plain method leaves: its value, nothing written, the heap as it was -/
def QP (r : Value) (h0 : Heap) (v : Option Value) (h : Heap) (L : List Loc) : Prop := v = some r ∧ L = [] ∧ h = h0
theorem own_eq {r r' : Value} {h0 : Heap} (q : r = r') (k : OEnds p e below s (QP r' h0) K N S) : OEnds p e below s (QP r h0) K N S := by subst q; exact k
theorem own_lrem {g : JFrame} {target : State} (X : Stand p l e R s m args below meth c T locs cells slots) (hx : p.tables.exec = Jvm.exec) (hg : g.method = m) {x y : Int64} {rest : List Value} (hd : decode c.code g.pc = .ok (.lrem, 1)) (hs : g.stack = .long y :: .long x :: rest) (hy : y ≠ 0)
    (hr : Steps p.tables e below (T.setTop { g with pc := g.pc + 1, stack := .long (x % y) :: rest }) target) : Steps p.tables e below (T.setTop g) target := by
  have q : x - x / y * y = x % y := lrem_mod x y
  exact XS.lrem X.here hx hg hd hs hy (by rw [q]; exact hr)
/-- a call of a plain static method by its contract -/
theorem own_callP (X : Stand p l e R s m args below meth c T locs cells slots) (hx : p.tables.exec = Jvm.exec) (hZ : Z.Warmed39 s.vm) {own : String} {index : Nat} {y : MethodName} {bytes : ByteArray} {maxL : Nat} {ret : Option FieldType} {fr lo : Nat} {r : Value} {argsL rest : List Value} {g : JFrame}
    (hown : s.vm.findClass own = some m.cls) (w1 : (Cond.methodLink own index y).before a0 Z = true) (w2 : (Cond.static y).before a0 Z = true) (w3 : (Cond.initialized y.cls).before a0 Z = true) (w4 : (Cond.code y bytes maxL ret).before a0 Z = true)
    (hy : y.cls ≠ "java/lang/invoke/MethodHandle" ∧ y.cls ≠ "java/lang/invoke/VarHandle")
    (hM : MetFree l y (head1 [Cond.code y bytes maxL ret] ({ frames := fr, cells := 0, slots := 0, locals := lo } : Room)) (fun a U => a = argsL.toArray ∧ Z.Warmed39 U.vm ∧ U.heap = h) (fun _ _ _ _ _ => True) (fun _ U o U' => ∃ v L, o = .returned v ∧ QP r h v U'.heap L ∧ FrameEnd U o U' L 0 0))
    (eT : T.heap = h) (hg : g.method = m) (hsize : g.locals.size = c.maxLocals) (hlen : ∀ sig, parseMethodDescriptor y.desc = some sig → argsL.length = sig.parameters.length) (hstack : g.stack = argsL.reverse ++ rest) {W : Nat} (hW : 2 * g.monitorRoom + (rest.map fun v => v.category).sum ≤ W)
    (hd : decode c.code g.pc = .ok (.invokestatic index, 3)) (hf : fr + 1 ≤ R.frames) (hl : W + (maxL + 11) + lo ≤ R.locals) (hc : cells ≤ R.cells) (hs : slots ≤ R.slots) :
    ∃ T', Stand p l e R s m args below meth c T' locs cells slots ∧ T'.heap = h ∧ ∀ target, Steps p.tables e below (T'.setTop { g with pc := g.pc + 3, stack := r :: rest }) target → Steps p.tables e below (T.setTop g) target := by
  obtain ⟨_, _, ⟨T1, L1, k1, n1⟩, -, X1, ⟨Lc, hQ, l1, y1, z1⟩, st⟩ := Jvm.LawKit.callS X hx (y := y) hown (mvT hZ w1) (mvT hZ w2) (mvT hZ w3) (mvT hZ w4) hy (backOf (rm := ({ frames := fr, cells := 0, slots := 0, locals := lo } : Room)) (W := W) hM hZ w4 w3 hf hl) (g := g) hg hsize (argsL := argsL) (rest := rest) hlen hstack hW hd (fun _ _ => ⟨rfl, eT, hc, hs⟩)
  dsimp only [Pt.U, Pt.locs, Pt.cells, Pt.slots] at X1 l1 y1 z1 st hQ
  subst l1 y1 z1
  obtain ⟨rfl, rfl, e1⟩ := hQ
  rw [List.append_nil] at X1
  exact ⟨T1, X1, e1, st⟩
end Own
section Own2
variable {p : Program} {l : Launch} {e : Env} {R : Room} {s : State} {m : MethodId} {args : Array Value} {below : List Frame} {meth : Method} {c : Code} {T : State} {locs : List Loc} {cells slots : Nat} {Z : State} {a0 : Array Value} {h h' : Heap}
  {a b : Addr} {C : String} {sch : List (String × String)} {vs : List Value} {ws : List Addr} {sl : Nat} {v : Value}
/-- the object at a is exactly a C, and its fields (in the order of sch) hold vs -/
def Obj (Z : State) (h : Heap) (a : Addr) (C : String) (sch : List (String × String)) (vs : List Value) : Prop :=
  Exa Z h a C ∧ ∀ (i : Nat) (n d : String) (v : Value), sch[i]? = some (n, d) → vs[i]? = some v → Fld Z h a C n d v
def SchOk (Z : State) (a0 : Array Value) (C : String) (sch : List (String × String)) : Prop :=
  (∀ q ∈ sch, Laid Z a0 C C q.1 q.2) ∧ (∀ q ∈ sch, (parseFieldDescriptor q.2).isSome = true) ∧ (sch.map (·.1)).Nodup
theorem Obj.exa (O : Obj Z h a C sch vs) : Exa Z h a C := O.1
theorem Obj.lt (O : Obj Z h a C sch vs) : a < h.size := O.1.lt
theorem Obj.fld (O : Obj Z h a C sch vs) (i : Nat) {n d : String} {v : Value} (h1 : sch[i]? = some (n, d)) (h2 : vs[i]? = some v) : Fld Z h a C n d v := O.2 i n d v h1 h2
theorem Obj.ext (O : Obj Z h a C sch vs) (E : Ext h h') : Obj Z h' a C sch vs := ⟨O.1.ext E, fun i n d v h1 h2 => (O.2 i n d v h1 h2).ext E⟩
theorem Obj.other (O : Obj Z h b C sch vs) (W : Wr h h' a sl v) (q : b ≠ a) : Obj Z h' b C sch vs := ⟨O.1.wr W, fun i n d v h1 h2 => (O.2 i n d v h1 h2).other W (Or.inl q)⟩
theorem Obj.keep (O : Obj Z h a C sch vs) (K : Keep h h' ws) (q : a ∉ ws) : Obj Z h' a C sch vs := ⟨O.1.keep K, fun i n d v h1 h2 => (O.2 i n d v h1 h2).keep K q⟩
theorem sch_ne (S : SchOk Z a0 C sch) {i j : Nat} {n d n' d' : String} (hi : sch[i]? = some (n, d)) (hj : sch[j]? = some (n', d')) (ne : i ≠ j) : n ≠ n' := by
  intro q
  have h3 := S.2.2
  rw [List.nodup_iff_pairwise_ne, List.pairwise_iff_getElem] at h3
  have e1 : (sch.map (·.1))[i]? = some n := by rw [List.getElem?_map, hi]; rfl
  have e2 : (sch.map (·.1))[j]? = some n' := by rw [List.getElem?_map, hj]; rfl
  obtain ⟨l1, f1⟩ := List.getElem?_eq_some_iff.mp e1
  obtain ⟨l2, f2⟩ := List.getElem?_eq_some_iff.mp e2
  rcases Nat.lt_or_gt_of_ne ne with k | k
  · exact h3 i j l1 l2 k (by rw [f1, f2, q])
  · exact h3 j i l2 l1 k (by rw [f1, f2, q])
theorem sch_ty (S : SchOk Z a0 C sch) {i : Nat} {n d : String} (hi : sch[i]? = some (n, d)) : ∃ t, parseFieldDescriptor d = some t :=
  Option.isSome_iff_exists.mp (S.2.1 _ (List.mem_of_getElem? hi))
theorem Obj.set (O : Obj Z h a C sch vs) (S : SchOk Z a0 C sch) {n d : String} (W : Wr h h' a (Jvm.RoadKit.slotOf Z C n d) v) (i : Nat) (hi : sch[i]? = some (n, d)) (hl : i < vs.length) : Obj Z h' a C sch (vs.set i v) := by
  refine ⟨O.1.wr W, fun j n' d' w h1 h2 => ?_⟩
  by_cases q : j = i
  · subst q
    cases hi.symm.trans h1
    rw [List.getElem?_set_self hl] at h2
    cases h2
    exact Fld.same W (O.2 j n d _ hi (List.getElem?_eq_getElem hl))
  · rw [List.getElem?_set_ne (Ne.symm q)] at h2
    obtain ⟨t, ht⟩ := sch_ty S hi
    obtain ⟨t', ht'⟩ := sch_ty S h1
    have L1 : Laid Z a0 C C n' d' := S.1 (n', d') (List.mem_of_getElem? h1)
    have L2 : Laid Z a0 C C n d := S.1 (n, d) (List.mem_of_getElem? hi)
    exact Fld.other W (O.2 j n' d' w h1 h2) (Or.inr (slot_ne L1 L2 (sch_ne S h1 hi q) ht' ht))
theorem Obj.new (S : SchOk Z a0 C sch) (A : Exa Z h a C) (D : ∀ {O nm d : String} {ty : FieldType}, Laid Z a0 C O nm d → parseFieldDescriptor d = some ty → Fld Z h a O nm d (defaultValue ty)) (tys : List FieldType) (ht : sch.map (fun q => parseFieldDescriptor q.2) = tys.map some) : Obj Z h a C sch (tys.map defaultValue) := by
  refine ⟨A, fun i n d v h1 h2 => ?_⟩
  rw [List.getElem?_map] at h2
  have e1 : (sch.map (fun q => parseFieldDescriptor q.2))[i]? = some (parseFieldDescriptor d) := by rw [List.getElem?_map, h1]; rfl
  rw [ht, List.getElem?_map] at e1
  cases hq : tys[i]? with
  | none => rw [hq] at e1; cases e1
  | some t =>
    rw [hq] at e1 h2
    cases h2
    exact D (S.1 _ (List.mem_of_getElem? h1)) (Option.some.inj e1).symm
/-- an array of n places whose i-th holds f i -/
def FA (Z : State) (h : Heap) (a : Addr) (ty : FieldType) (n : Nat) (f : Nat → Value) : Prop :=
  ∃ c : Cell, Arr Z h a c ty ∧ c.slots.size = n ∧ n < 2 ^ 31 ∧ ∀ i, i < n → c.slots[i]? = some (f i)
variable {ty ty' : FieldType} {n n' : Nat} {f f' : Nat → Value}
theorem FA.lt (F : FA Z h a ty n f) : a < h.size := by obtain ⟨c, A, -⟩ := F; exact A.lt
theorem FA.ext (F : FA Z h a ty n f) (E : Ext h h') : FA Z h' a ty n f := by obtain ⟨c, A, r⟩ := F; exact ⟨c, A.ext E, r⟩
theorem FA.other (F : FA Z h b ty n f) (W : Wr h h' a sl v) (q : b ≠ a) : FA Z h' b ty n f := by obtain ⟨c, A, r⟩ := F; exact ⟨c, A.other W q, r⟩
theorem FA.keep (F : FA Z h a ty n f) (K : Keep h h' ws) (q : a ∉ ws) : FA Z h' a ty n f := by obtain ⟨c, A, r⟩ := F; exact ⟨c, ⟨K.2.1 _ _ A.1 q, A.2⟩, r⟩
theorem FA.congr (F : FA Z h a ty n f) (q : ∀ i, i < n → f i = f' i) : FA Z h a ty n f' := by
  obtain ⟨c, A, r1, r2, r3⟩ := F
  exact ⟨c, A, r1, r2, fun i hi => by rw [r3 i hi, q i hi]⟩
theorem FA.new {k : ClassId} {z : Int32} (A : Arr Z h a (newA k ty z) ty) (q : ¬ z < 0) (hn : z.toNatClampNeg = n) {d : Value} (hd : defaultValue ty = d) : FA Z h a ty n (fun _ => d) := by
  subst hn hd
  refine ⟨_, A, sz_new _ _ _, (back32 q).2, fun i hi => ?_⟩
  show (Array.replicate z.toNatClampNeg (defaultValue ty))[i]? = _
  simp [hi]
theorem FA.set (F : FA Z h a ty n f) {k : Nat} (W : Wr h h' a k v) : FA Z h' a ty n (fun i => if i = k then v else f i) := by
  obtain ⟨c, A, r1, r2, r3⟩ := F
  refine ⟨c.setSlot k v, A.same W, by rw [sz_set]; exact r1, r2, fun i hi => ?_⟩
  show (c.slots.setIfInBounds k v)[i]? = _
  by_cases q : i = k
  · subst q; simp [r1, hi]
  · rw [Array.getElem?_setIfInBounds_ne (Ne.symm q), r3 i hi]; simp [q]
theorem FA.ne_ty (F : FA Z h a ty n f) (G : FA Z h b ty' n' f') (q : ty ≠ ty') : a ≠ b := fun e => by
  subst e
  obtain ⟨c, A, -⟩ := F
  obtain ⟨c', A', -⟩ := G
  cases A.1.symm.trans A'.1
  obtain ⟨-, k1, j1, comp, j2⟩ := A.2.1
  obtain ⟨-, k2, i1, comp', i2⟩ := A'.2.1
  cases j1.symm.trans i1
  rw [j2] at i2
  cases i2
  exact q rfl
theorem Obj.ne_fa {kk : Nat} (O : Obj Z h a C sch vs) (wi : (Cond.instantiable C kk).before a0 Z = true) (F : FA Z h b ty n f) : a ≠ b := by
  obtain ⟨c, A, -⟩ := F
  exact ne_arr O.1 wi A
theorem nat_at {j : Int32} {k : Nat} (hk : j.toInt = (k : Int)) : j.toNatClampNeg = k ∧ ¬ j < 0 := by
  refine ⟨by show j.toInt.toNat = k; rw [hk]; rfl, fun q => ?_⟩
  rw [Int32.lt_iff_toInt_lt, hk] at q
  have : (0 : Int32).toInt = 0 := by decide
  omega
theorem inb {j : Int32} {k : Nat} {c : Cell} (hk : j.toInt = (k : Int)) (hn : c.slots.size = n) (hl : k < n) : ¬ (j < 0 ∨ c.slots.size ≤ j.toNatClampNeg) := by
  obtain ⟨h1, h2⟩ := nat_at hk
  rw [h1, hn]
  rintro (q | q)
  · exact h2 q
  · omega
theorem own_laload (X : Stand p l e R s m args below meth c T locs cells slots) (hx : p.tables.exec = Jvm.exec) (hZ : Z.Warmed39 s.vm) (eT : T.heap = h) (F : FA Z h a .long n f) {j : Int32} (k : Nat) (hk : j.toInt = (k : Int)) (hl : k < n) (hv : f k = v)
    {g : JFrame} (hg : g.method = m) {rest : List Value} (hs : g.stack = .int j :: .ref a :: rest) (hd : decode c.code g.pc = .ok (.laload, 1)) : ∀ target, Steps p.tables e below (T.setTop { g with pc := g.pc + 1, stack := v :: rest }) target → Steps p.tables e below (T.setTop g) target := by
  obtain ⟨cl, A, r1, r2, r3⟩ := F
  exact fun t k' => X.laload hx (by rw [eT]; exact A.1) (State.isArrayOf_alike hZ.alike A.2.1) A.2.2 (inb hk r1 hl) (by rw [(nat_at hk).1, r3 k hl, hv]) hg hs hd t k'
theorem own_iaload (X : Stand p l e R s m args below meth c T locs cells slots) (hx : p.tables.exec = Jvm.exec) (hZ : Z.Warmed39 s.vm) (eT : T.heap = h) (F : FA Z h a .int n f) {j : Int32} (k : Nat) (hk : j.toInt = (k : Int)) (hl : k < n) (hv : f k = v)
    {g : JFrame} (hg : g.method = m) {rest : List Value} (hs : g.stack = .int j :: .ref a :: rest) (hd : decode c.code g.pc = .ok (.iaload, 1)) : ∀ target, Steps p.tables e below (T.setTop { g with pc := g.pc + 1, stack := v :: rest }) target → Steps p.tables e below (T.setTop g) target := by
  obtain ⟨cl, A, r1, r2, r3⟩ := F
  exact fun t k' => X.iaload hx (by rw [eT]; exact A.1) (State.isArrayOf_alike hZ.alike A.2.1) A.2.2 (inb hk r1 hl) (by rw [(nat_at hk).1, r3 k hl, hv]) hg hs hd t k'
theorem own_baload (X : Stand p l e R s m args below meth c T locs cells slots) (hx : p.tables.exec = Jvm.exec) (hZ : Z.Warmed39 s.vm) (eT : T.heap = h) (F : FA Z h a .byte n f) {j : Int32} (k : Nat) (hk : j.toInt = (k : Int)) (hl : k < n) (hv : f k = v)
    {g : JFrame} (hg : g.method = m) {rest : List Value} (hs : g.stack = .int j :: .ref a :: rest) (hd : decode c.code g.pc = .ok (.baload, 1)) : ∀ target, Steps p.tables e below (T.setTop { g with pc := g.pc + 1, stack := v :: rest }) target → Steps p.tables e below (T.setTop g) target := by
  obtain ⟨cl, A, r1, r2, r3⟩ := F
  exact fun t k' => X.baloadBytes hx (by rw [eT]; exact A.1) (State.isArrayOf_alike hZ.alike A.2.1) A.2.2 (inb hk r1 hl) (by rw [(nat_at hk).1, r3 k hl, hv]) hg hs hd t k'
theorem own_aaload (X : Stand p l e R s m args below meth c T locs cells slots) (hx : p.tables.exec = Jvm.exec) (hZ : Z.Warmed39 s.vm) (eT : T.heap = h) (F : FA Z h a ty n f) (hty : ty.isReference = true) {j : Int32} (k : Nat) (hk : j.toInt = (k : Int)) (hl : k < n) (hv : f k = v)
    {g : JFrame} (hg : g.method = m) {rest : List Value} (hs : g.stack = .int j :: .ref a :: rest) (hd : decode c.code g.pc = .ok (.aaload, 1)) : ∀ target, Steps p.tables e below (T.setTop { g with pc := g.pc + 1, stack := v :: rest }) target → Steps p.tables e below (T.setTop g) target := by
  obtain ⟨cl, A, r1, r2, r3⟩ := F
  exact fun t k' => X.aaload hx (by rw [eT]; exact A.1) (State.isArrayOf_alike hZ.alike A.2.1) hty A.2.2 (inb hk r1 hl) (by rw [(nat_at hk).1, r3 k hl, hv]) hg hs hd t k'
theorem own_len (X : Stand p l e R s m args below meth c T locs cells slots) (hx : p.tables.exec = Jvm.exec) (hZ : Z.Warmed39 s.vm) (eT : T.heap = h) (F : FA Z h a ty n f) {z : Int32} (hz : n.toInt32 = z)
    {g : JFrame} (hg : g.method = m) {rest : List Value} (hs : g.stack = .ref a :: rest) (hd : decode c.code g.pc = .ok (.arraylength, 1)) : ∀ target, Steps p.tables e below (T.setTop { g with pc := g.pc + 1, stack := .int z :: rest }) target → Steps p.tables e below (T.setTop g) target := by
  obtain ⟨cl, A, r1, r2, r3⟩ := F
  refine fun t k' => X.arraylength hx (by rw [eT]; exact A.1) (State.isArrayOf_alike hZ.alike A.2.1) hg hs hd t ?_
  rw [r1, hz]; exact k'
theorem own_iastore (X : Stand p l e R s m args below meth c T locs cells slots) (hx : p.tables.exec = Jvm.exec) (hZ : Z.Warmed39 s.vm) (eT : T.heap = h) (F : FA Z h a .int n f) {j x : Int32} (k : Nat) (hk : j.toInt = (k : Int)) (hl : k < n)
    {g : JFrame} (hg : g.method = m) {rest : List Value} (hs : g.stack = .int x :: .int j :: .ref a :: rest) (hd : decode c.code g.pc = .ok (.iastore, 1)) :
    ∃ T' h', Stand p l e R s m args below meth c T' (locs ++ [⟨a, k⟩]) cells slots ∧ T'.heap = h' ∧ Wr h h' a k (.int x) ∧ ∀ target, Steps p.tables e below (T'.setTop { g with pc := g.pc + 1, stack := rest }) target → Steps p.tables e below (T.setTop g) target := by
  obtain ⟨cl, A, r1, r2, r3⟩ := F
  have q := stI X hx hZ eT A (x := x) (inb hk r1 hl) hg hs hd
  rw [(nat_at hk).1] at q
  exact q
theorem own_lastore (X : Stand p l e R s m args below meth c T locs cells slots) (hx : p.tables.exec = Jvm.exec) (hZ : Z.Warmed39 s.vm) (eT : T.heap = h) (F : FA Z h a .long n f) {j : Int32} {x : Int64} (k : Nat) (hk : j.toInt = (k : Int)) (hl : k < n)
    {g : JFrame} (hg : g.method = m) {rest : List Value} (hs : g.stack = .long x :: .int j :: .ref a :: rest) (hd : decode c.code g.pc = .ok (.lastore, 1)) :
    ∃ T' h', Stand p l e R s m args below meth c T' (locs ++ [⟨a, k⟩]) cells slots ∧ T'.heap = h' ∧ Wr h h' a k (.long x) ∧ ∀ target, Steps p.tables e below (T'.setTop { g with pc := g.pc + 1, stack := rest }) target → Steps p.tables e below (T.setTop g) target := by
  obtain ⟨cl, A, r1, r2, r3⟩ := F
  have q := stJ X hx hZ eT A (x := x) (inb hk r1 hl) hg hs hd
  rw [(nat_at hk).1] at q
  exact q
theorem own_bastore (X : Stand p l e R s m args below meth c T locs cells slots) (hx : p.tables.exec = Jvm.exec) (hZ : Z.Warmed39 s.vm) (eT : T.heap = h) (F : FA Z h a .byte n f) {j x : Int32} (k : Nat) (hk : j.toInt = (k : Int)) (hl : k < n)
    {g : JFrame} (hg : g.method = m) {rest : List Value} (hs : g.stack = .int x :: .int j :: .ref a :: rest) (hd : decode c.code g.pc = .ok (.bastore, 1)) :
    ∃ T' h', Stand p l e R s m args below meth c T' (locs ++ [⟨a, k⟩]) cells slots ∧ T'.heap = h' ∧ Wr h h' a k (.int (nar .byte x)) ∧ ∀ target, Steps p.tables e below (T'.setTop { g with pc := g.pc + 1, stack := rest }) target → Steps p.tables e below (T.setTop g) target := by
  obtain ⟨cl, A, r1, r2, r3⟩ := F
  have q := stB X hx hZ eT A (x := x) (inb hk r1 hl) hg hs hd
  rw [(nat_at hk).1] at q
  exact q
/-- the typed updates -/
def updL (f : Nat → Int64) (k : Nat) (x : Int64) : Nat → Int64 := fun i => if i = k then x else f i
def updI (f : Nat → Int32) (k : Nat) (x : Int32) : Nat → Int32 := fun i => if i = k then x else f i
theorem FA.setL {f : Nat → Int64} {x : Int64} (F : FA Z h a ty n (fun i => .long (f i))) {k : Nat} (W : Wr h h' a k (.long x)) : FA Z h' a ty n (fun i => .long (updL f k x i)) :=
  (F.set W).congr fun i _ => by by_cases q : i = k <;> simp [updL, q]
theorem FA.setI {f : Nat → Int32} {x : Int32} (F : FA Z h a ty n (fun i => .int (f i))) {k : Nat} (W : Wr h h' a k (.int x)) : FA Z h' a ty n (fun i => .int (updI f k x i)) :=
  (F.set W).congr fun i _ => by by_cases q : i = k <;> simp [updI, q]
/-- a call by a contract, whatever it writes or makes: static, virtual, a constructor's -/
theorem own_callS (X : Stand p l e R s m args below meth c T locs cells slots) (hx : p.tables.exec = Jvm.exec) (hZ : Z.Warmed39 s.vm) {own : String} {index : Nat} {y : MethodName} {bytes : ByteArray} {maxL : Nat} {ret : Option FieldType} {rm : Room} {Q : Option Value → Heap → List Loc → Prop} {argsL rest : List Value} {g : JFrame}
    (hown : s.vm.findClass own = some m.cls) (w1 : (Cond.methodLink own index y).before a0 Z = true) (w2 : (Cond.static y).before a0 Z = true) (w3 : (Cond.initialized y.cls).before a0 Z = true) (w4 : (Cond.code y bytes maxL ret).before a0 Z = true)
    (hy : y.cls ≠ "java/lang/invoke/MethodHandle" ∧ y.cls ≠ "java/lang/invoke/VarHandle")
    (hM : MetFree l y (head1 [Cond.code y bytes maxL ret] rm) (fun a U => a = argsL.toArray ∧ Z.Warmed39 U.vm ∧ U.heap = h) (fun _ _ _ _ _ => True) (fun _ U o U' => ∃ v L, o = .returned v ∧ Q v U'.heap L ∧ FrameEnd U o U' L rm.cells rm.slots))
    (eT : T.heap = h) (hg : g.method = m) (hsize : g.locals.size = c.maxLocals) (hlen : ∀ sig, parseMethodDescriptor y.desc = some sig → argsL.length = sig.parameters.length) (hstack : g.stack = argsL.reverse ++ rest) {W : Nat} (hW : 2 * g.monitorRoom + (rest.map fun v => v.category).sum ≤ W)
    (hd : decode c.code g.pc = .ok (.invokestatic index, 3)) (hf : rm.frames + 1 ≤ R.frames) (hl : W + (maxL + 11) + rm.locals ≤ R.locals) (hc : cells + rm.cells ≤ R.cells) (hs : slots + rm.slots ≤ R.slots) :
    ∃ v T' L h', Stand p l e R s m args below meth c T' (locs ++ L) (cells + rm.cells) (slots + rm.slots) ∧ T'.heap = h' ∧ Q v h' L ∧ Steps p.tables e below (T.setTop g) (T'.setTop { g with pc := g.pc + 3, stack := v.toList ++ rest }) := by
  obtain ⟨v, _, ⟨T1, L1, k1, n1⟩, -, X1, ⟨Lc, hQ, l1, y1, z1⟩, st⟩ := Jvm.LawKit.callS X hx (y := y) hown (mvT hZ w1) (mvT hZ w2) (mvT hZ w3) (mvT hZ w4) hy (backOf (rm := rm) (W := W) hM hZ w4 w3 hf hl) (g := g) hg hsize (argsL := argsL) (rest := rest) hlen hstack hW hd (fun _ _ => ⟨rfl, eT, hc, hs⟩)
  dsimp only [Pt.U, Pt.locs, Pt.cells, Pt.slots] at X1 l1 y1 z1 st hQ
  subst l1 y1 z1
  exact ⟨v, T1, Lc, _, X1, rfl, hQ, st _ (Steps.refl _)⟩
theorem own_callV (X : Stand p l e R s m args below meth c T locs cells slots) (hx : p.tables.exec = Jvm.exec) (hZ : Z.Warmed39 s.vm) {own : String} {index : Nat} {y : MethodName} {bytes : ByteArray} {maxL : Nat} {ret : Option FieldType} {rm : Room} {Q : Option Value → Heap → List Loc → Prop} {argsL rest : List Value} {g : JFrame}
    (hown : s.vm.findClass own = some m.cls) (w1 : (Cond.methodLink own index y).before a0 Z = true) (w2 : (Cond.declares y).before a0 Z = true) (w3 : (Cond.selects C y y).before a0 Z = true) (w4 : (Cond.instanceMethod y).before a0 Z = true) (w5 : (Cond.code y bytes maxL ret).before a0 Z = true) (w6 : (Cond.initialized y.cls).before a0 Z = true)
    (hy : y.cls ≠ "java/lang/invoke/MethodHandle" ∧ y.cls ≠ "java/lang/invoke/VarHandle") (E : Exa Z h b C)
    (hM : MetFree l y (head1 [Cond.code y bytes maxL ret] rm) (fun a U => a = (.ref b :: argsL).toArray ∧ Z.Warmed39 U.vm ∧ U.heap = h) (fun _ _ _ _ _ => True) (fun _ U o U' => ∃ v L, o = .returned v ∧ Q v U'.heap L ∧ FrameEnd U o U' L rm.cells rm.slots))
    (eT : T.heap = h) (hg : g.method = m) (hsize : g.locals.size = c.maxLocals) (hlen : ∀ sig, parseMethodDescriptor y.desc = some sig → argsL.length = sig.parameters.length) (hstack : g.stack = argsL.reverse ++ .ref b :: rest) {W : Nat} (hW : 2 * g.monitorRoom + (rest.map fun v => v.category).sum ≤ W)
    (hd : decode c.code g.pc = .ok (.invokevirtual index, 3)) (hf : rm.frames + 1 ≤ R.frames) (hl : W + (maxL + 11) + rm.locals ≤ R.locals) (hc : cells + rm.cells ≤ R.cells) (hs : slots + rm.slots ≤ R.slots) :
    ∃ v T' L h', Stand p l e R s m args below meth c T' (locs ++ L) (cells + rm.cells) (slots + rm.slots) ∧ T'.heap = h' ∧ Q v h' L ∧ Steps p.tables e below (T.setTop g) (T'.setTop { g with pc := g.pc + 3, stack := v.toList ++ rest }) := by
  obtain ⟨cq, kq, qa, qb, qc⟩ := isOf hZ eT E
  obtain ⟨v, _, ⟨T1, L1, k1, n1⟩, -, X1, ⟨Lc, hQ, l1, y1, z1⟩, st⟩ := X.virtualBack hx (y := y) (z := y) hown (mvT hZ w1) (mvT hZ w2) (notFace_of_selects (args := #[]) (mvT hZ w3)) (mvT hZ w3) (mvT hZ w4) hy (backOf (rm := rm) (W := W) hM hZ w5 w6 hf hl) qa qc (g := g) hg hsize (Steps.refl _) (argsL := argsL) (rest := rest) hlen hstack hW hd (fun _ _ => ⟨rfl, eT, hc, hs⟩)
  dsimp only [Pt.U, Pt.locs, Pt.cells, Pt.slots] at X1 l1 y1 z1 st hQ
  subst l1 y1 z1
  exact ⟨v, T1, Lc, _, X1, rfl, hQ, st⟩
theorem own_callI (X : Stand p l e R s m args below meth c T locs cells slots) (hx : p.tables.exec = Jvm.exec) (hZ : Z.Warmed39 s.vm) {own : String} {index : Nat} {y : MethodName} {bytes : ByteArray} {maxL : Nat} {rm : Room} {Q : Option Value → Heap → List Loc → Prop} {argsL rest : List Value} {g : JFrame} (hy1 : y.name = "<init>")
    (hown : s.vm.findClass own = some m.cls) (w1 : (Cond.methodLink own index y).before a0 Z = true) (w2 : (Cond.instanceMethod y).before a0 Z = true) (w3 : (Cond.code y bytes maxL none).before a0 Z = true) (w4 : (Cond.initialized y.cls).before a0 Z = true)
    (hy : y.cls ≠ "java/lang/invoke/MethodHandle" ∧ y.cls ≠ "java/lang/invoke/VarHandle")
    (hM : MetFree l y (head1 [Cond.code y bytes maxL none] rm) (fun a U => a = (.ref b :: argsL).toArray ∧ Z.Warmed39 U.vm ∧ U.heap = h) (fun _ _ _ _ _ => True) (fun _ U o U' => ∃ v L, o = .returned v ∧ Q v U'.heap L ∧ FrameEnd U o U' L rm.cells rm.slots))
    (eT : T.heap = h) (hg : g.method = m) (hsize : g.locals.size = c.maxLocals) (hlen : ∀ sig, parseMethodDescriptor y.desc = some sig → argsL.length = sig.parameters.length) (hstack : g.stack = argsL.reverse ++ .ref b :: rest) {W : Nat} (hW : 2 * g.monitorRoom + (rest.map fun v => v.category).sum ≤ W)
    (hd : decode c.code g.pc = .ok (.invokespecial index, 3)) (hf : rm.frames + 1 ≤ R.frames) (hl : W + (maxL + 11) + rm.locals ≤ R.locals) (hc : cells + rm.cells ≤ R.cells) (hs : slots + rm.slots ≤ R.slots) :
    ∃ v T' L h', Stand p l e R s m args below meth c T' (locs ++ L) (cells + rm.cells) (slots + rm.slots) ∧ T'.heap = h' ∧ Q v h' L ∧ Steps p.tables e below (T.setTop g) (T'.setTop { g with pc := g.pc + 3, stack := v.toList ++ rest }) := by
  obtain ⟨v, _, ⟨T1, L1, k1, n1⟩, -, X1, ⟨Lc, hQ, l1, y1, z1⟩, st⟩ := X.specialBack hx (y := y) hy1 hown (mvT hZ w1) (mvT hZ w2) (mvT hZ w3) hy (backOf (rm := rm) (W := W) hM hZ w3 w4 hf hl) (g := g) hg hsize (Steps.refl _) (a := b) (argsL := argsL) (rest := rest) hlen hstack hW hd (fun _ _ => ⟨rfl, eT, hc, hs⟩)
  dsimp only [Pt.U, Pt.locs, Pt.cells, Pt.slots] at X1 l1 y1 z1 st hQ
  subst l1 y1 z1
  exact ⟨v, T1, Lc, _, X1, rfl, hQ, st⟩
end Own2
section Own3
variable {p : Program} {l : Launch} {e : Env} {R : Room} {s : State} {m : MethodId} {args : Array Value} {below : List Frame} {meth : Method} {c : Code} {T : State} {locs : List Loc} {cells slots : Nat} {Z : State} {a0 : Array Value} {h h' : Heap} {a b : Addr} {C : String}
/-- a call of an instance method that writes nothing -/
theorem own_callR (X : Stand p l e R s m args below meth c T locs cells slots) (hx : p.tables.exec = Jvm.exec) (hZ : Z.Warmed39 s.vm) {own : String} {index : Nat} {y : MethodName} {bytes : ByteArray} {maxL : Nat} {ret : Option FieldType} {fr lo : Nat} {r : Value} {argsL rest : List Value} {g : JFrame}
    (hown : s.vm.findClass own = some m.cls) (w1 : (Cond.methodLink own index y).before a0 Z = true) (w2 : (Cond.declares y).before a0 Z = true) (w3 : (Cond.selects C y y).before a0 Z = true) (w4 : (Cond.instanceMethod y).before a0 Z = true) (w5 : (Cond.code y bytes maxL ret).before a0 Z = true) (w6 : (Cond.initialized y.cls).before a0 Z = true)
    (hy : y.cls ≠ "java/lang/invoke/MethodHandle" ∧ y.cls ≠ "java/lang/invoke/VarHandle") (E : Exa Z h b C)
    (hM : MetFree l y (head1 [Cond.code y bytes maxL ret] ({ frames := fr, cells := 0, slots := 0, locals := lo } : Room)) (fun a U => a = (.ref b :: argsL).toArray ∧ Z.Warmed39 U.vm ∧ U.heap = h) (fun _ _ _ _ _ => True) (fun _ U o U' => ∃ v L, o = .returned v ∧ QP r h v U'.heap L ∧ FrameEnd U o U' L 0 0))
    (eT : T.heap = h) (hg : g.method = m) (hsize : g.locals.size = c.maxLocals) (hlen : ∀ sig, parseMethodDescriptor y.desc = some sig → argsL.length = sig.parameters.length) (hstack : g.stack = argsL.reverse ++ .ref b :: rest) {W : Nat} (hW : 2 * g.monitorRoom + (rest.map fun v => v.category).sum ≤ W)
    (hd : decode c.code g.pc = .ok (.invokevirtual index, 3)) (hf : fr + 1 ≤ R.frames) (hl : W + (maxL + 11) + lo ≤ R.locals) (hc : cells ≤ R.cells) (hs : slots ≤ R.slots) :
    ∃ T', Stand p l e R s m args below meth c T' locs cells slots ∧ T'.heap = h ∧ ∀ target, Steps p.tables e below (T'.setTop { g with pc := g.pc + 3, stack := r :: rest }) target → Steps p.tables e below (T.setTop g) target := by
  obtain ⟨v, T1, L1, h1, X1, e1, ⟨rfl, rfl, q⟩, st⟩ := own_callV X hx hZ hown w1 w2 w3 w4 w5 w6 hy E (rm := ({ frames := fr, cells := 0, slots := 0, locals := lo } : Room)) hM eT hg hsize hlen hstack hW hd hf hl hc hs
  rw [List.append_nil] at X1
  exact ⟨T1, X1, e1.trans q, fun t k => st.trans k⟩
/-- a call of a private instance method by its contract -/
theorem own_callX (X : Stand p l e R s m args below meth c T locs cells slots) (hx : p.tables.exec = Jvm.exec) (hZ : Z.Warmed39 s.vm) {own : String} {index : Nat} {y : MethodName} {bytes : ByteArray} {maxL kk : Nat} {ret : Option FieldType} {rm : Room} {Q : Option Value → Heap → List Loc → Prop} {argsL rest : List Value} {g : JFrame}
    (hown : s.vm.findClass own = some m.cls) (w1 : (Cond.methodLink own index y).before a0 Z = true) (w2 : (Cond.instanceMethod y).before a0 Z = true) (w3 : (Cond.privateMethod y).before a0 Z = true) (w4 : (Cond.code y bytes maxL ret).before a0 Z = true) (w5 : (Cond.initialized y.cls).before a0 Z = true) (w6 : (Cond.instantiable y.cls kk).before a0 Z = true)
    (hy : y.cls ≠ "java/lang/invoke/MethodHandle" ∧ y.cls ≠ "java/lang/invoke/VarHandle") (E : Exa Z h b C)
    (hM : MetFree l y (head1 [Cond.code y bytes maxL ret] rm) (fun a U => a = (.ref b :: argsL).toArray ∧ Z.Warmed39 U.vm ∧ U.heap = h) (fun _ _ _ _ _ => True) (fun _ U o U' => ∃ v L, o = .returned v ∧ Q v U'.heap L ∧ FrameEnd U o U' L rm.cells rm.slots))
    (eT : T.heap = h) (hg : g.method = m) (hsize : g.locals.size = c.maxLocals) (hlen : ∀ sig, parseMethodDescriptor y.desc = some sig → argsL.length = sig.parameters.length) (hstack : g.stack = argsL.reverse ++ .ref b :: rest) {W : Nat} (hW : 2 * g.monitorRoom + (rest.map fun v => v.category).sum ≤ W)
    (hd : decode c.code g.pc = .ok (.invokevirtual index, 3)) (hf : rm.frames + 1 ≤ R.frames) (hl : W + (maxL + 11) + rm.locals ≤ R.locals) (hc : cells + rm.cells ≤ R.cells) (hs : slots + rm.slots ≤ R.slots) :
    ∃ v T' L h', Stand p l e R s m args below meth c T' (locs ++ L) (cells + rm.cells) (slots + rm.slots) ∧ T'.heap = h' ∧ Q v h' L ∧ Steps p.tables e below (T.setTop g) (T'.setTop { g with pc := g.pc + 3, stack := v.toList ++ rest }) := by
  have v2 : (Cond.instanceMethod y).before args s = true := mvT hZ w2
  have v4 : (Cond.code y bytes maxL ret).before args s = true := mvT hZ w4
  have v6 : (Cond.instantiable y.cls kk).before args s = true := mv hZ w6
  obtain ⟨mk, me, n1, n2, n3, n4⟩ := Cond.instanceMethod_spec v2
  obtain ⟨me', cM, n5, -, -, -, -, -, -, n6⟩ := Cond.code_spec n1 v4
  cases n2.symm.trans n5
  obtain ⟨cI, kI, i1, i2, -, i4, -⟩ := Cond.instantiable_spec v6
  cases (findClass_of_methodNamed n1).symm.trans i1
  have ni : kI.isInterface = false := by simp only [Bool.or_eq_false_iff] at i4; exact i4.1
  obtain ⟨cell, c1, c2⟩ := E.cell
  have pr := Cond.privateMethod_at (mvP hZ w3 (args := args)) mk me n1 n2
  obtain ⟨vm₁, X₁, s₁⟩ := X.invokevirtual hx hown (mvT hZ w1) n1 n2 n3 i2 ni hy (a := b) (cell := cell) (by rw [eT]; exact c1) c2 (selectMethod_private n2 pr) n2 n4 i2 ni (g := g) hg (argsL := argsL) (rest := rest) (hlen _ n6) hstack hd
  obtain ⟨v, ⟨T1, L1, k1, n1'⟩, X1, ⟨Lc, hQ, l1, y1, z1⟩, st⟩ := backOf (rm := rm) (W := W) hM hZ w4 w5 hf hl m meth c ⟨T.setVm vm₁, locs, cells, slots⟩ { g with stack := rest } (.invokevirtual index) mk (.ref b :: argsL).toArray X₁ hg hsize hd hW (X₁.named n1) ⟨rfl, eT, hc, hs⟩
  dsimp only [Pt.U, Pt.locs, Pt.cells, Pt.slots] at X1 l1 y1 z1 st hQ
  subst l1 y1 z1
  exact ⟨v, T1, Lc, _, X1, rfl, hQ, (s₁ _ fun acts => by rw [doInvoke_state]; exact Steps.refl _).trans st⟩
theorem own_callXR (X : Stand p l e R s m args below meth c T locs cells slots) (hx : p.tables.exec = Jvm.exec) (hZ : Z.Warmed39 s.vm) {own : String} {index : Nat} {y : MethodName} {bytes : ByteArray} {maxL kk : Nat} {ret : Option FieldType} {fr lo : Nat} {r : Value} {argsL rest : List Value} {g : JFrame}
    (hown : s.vm.findClass own = some m.cls) (w1 : (Cond.methodLink own index y).before a0 Z = true) (w2 : (Cond.instanceMethod y).before a0 Z = true) (w3 : (Cond.privateMethod y).before a0 Z = true) (w4 : (Cond.code y bytes maxL ret).before a0 Z = true) (w5 : (Cond.initialized y.cls).before a0 Z = true) (w6 : (Cond.instantiable y.cls kk).before a0 Z = true)
    (hy : y.cls ≠ "java/lang/invoke/MethodHandle" ∧ y.cls ≠ "java/lang/invoke/VarHandle") (E : Exa Z h b C)
    (hM : MetFree l y (head1 [Cond.code y bytes maxL ret] ({ frames := fr, cells := 0, slots := 0, locals := lo } : Room)) (fun a U => a = (.ref b :: argsL).toArray ∧ Z.Warmed39 U.vm ∧ U.heap = h) (fun _ _ _ _ _ => True) (fun _ U o U' => ∃ v L, o = .returned v ∧ QP r h v U'.heap L ∧ FrameEnd U o U' L 0 0))
    (eT : T.heap = h) (hg : g.method = m) (hsize : g.locals.size = c.maxLocals) (hlen : ∀ sig, parseMethodDescriptor y.desc = some sig → argsL.length = sig.parameters.length) (hstack : g.stack = argsL.reverse ++ .ref b :: rest) {W : Nat} (hW : 2 * g.monitorRoom + (rest.map fun v => v.category).sum ≤ W)
    (hd : decode c.code g.pc = .ok (.invokevirtual index, 3)) (hf : fr + 1 ≤ R.frames) (hl : W + (maxL + 11) + lo ≤ R.locals) (hc : cells ≤ R.cells) (hs : slots ≤ R.slots) :
    ∃ T', Stand p l e R s m args below meth c T' locs cells slots ∧ T'.heap = h ∧ ∀ target, Steps p.tables e below (T'.setTop { g with pc := g.pc + 3, stack := r :: rest }) target → Steps p.tables e below (T.setTop g) target := by
  obtain ⟨v, T1, L1, h1, X1, e1, ⟨rfl, rfl, q⟩, st⟩ := own_callX X hx hZ hown w1 w2 w3 w4 w5 w6 hy E (rm := ({ frames := fr, cells := 0, slots := 0, locals := lo } : Room)) hM eT hg hsize hlen hstack hW hd hf hl hc hs
  rw [List.append_nil] at X1
  exact ⟨T1, X1, e1.trans q, fun t k => st.trans k⟩
end Own3
theorem pd_prI : parseMethodDescriptor "()I" = some ⟨[], some .int⟩ := by decide +kernel
theorem pd_prV : parseMethodDescriptor "()V" = some ⟨[], none⟩ := by decide +kernel
theorem pd_pIIIrV : parseMethodDescriptor "(III)V" = some ⟨[.int, .int, .int], none⟩ := by decide +kernel
theorem pd_pIIJrV : parseMethodDescriptor "(IIJ)V" = some ⟨[.int, .int, .long], none⟩ := by decide +kernel
theorem pd_pJrV : parseMethodDescriptor "(J)V" = some ⟨[.long], none⟩ := by decide +kernel
theorem pd_pJJrJ : parseMethodDescriptor "(JJ)J" = some ⟨[.long, .long], some .long⟩ := by decide +kernel
theorem pd_paJIIJrV : parseMethodDescriptor "([JIIJ)V" = some ⟨[(.array .long), .int, .int, .long], none⟩ := by decide +kernel
def sch_rt : List (String × String) := [("values", "[J"), ("maxima", "[J"), ("spanStarts", "[I"), ("spanEnds", "[I"), ("spanBases", "[I"), ("pending", "[I"), ("lowNodes", "[I"), ("size", "I"), ("nodeCount", "I"), ("spanCount", "I"), ("tailEnd", "I"), ("tailAt", "I"), ("scanEnd", "I"), ("scanAt", "I"), ("pendingCount", "I"), ("bound", "J"), ("spanStart", "I"), ("base", "I"), ("blockCount", "I")]
theorem so_sch_rt {Z : State} {a0 : Array Value} (hw : ∀ d ∈ tables_1, d.before a0 Z = true) : SchOk Z a0 "com/example/graphweft/graphweft/RangeMaxTree" sch_rt := by
  refine ⟨fun q hq => ?_, by decide, by decide⟩
  simp only [sch_rt, List.mem_cons, List.not_mem_nil, or_false] at hq
  rcases hq with rfl | rfl | rfl | rfl | rfl | rfl | rfl | rfl | rfl | rfl | rfl | rfl | rfl | rfl | rfl | rfl | rfl | rfl | rfl
  · exact Or.inl (hw _ (List.mem_of_getElem? (i := 12) rfl))
  · exact Or.inl (hw _ (List.mem_of_getElem? (i := 14) rfl))
  · exact Or.inl (hw _ (List.mem_of_getElem? (i := 17) rfl))
  · exact Or.inl (hw _ (List.mem_of_getElem? (i := 19) rfl))
  · exact Or.inl (hw _ (List.mem_of_getElem? (i := 21) rfl))
  · exact Or.inr (hw _ (List.mem_of_getElem? (i := 23) rfl))
  · exact Or.inr (hw _ (List.mem_of_getElem? (i := 25) rfl))
  · exact Or.inl (hw _ (List.mem_of_getElem? (i := 32) rfl))
  · exact Or.inl (hw _ (List.mem_of_getElem? (i := 34) rfl))
  · exact Or.inl (hw _ (List.mem_of_getElem? (i := 36) rfl))
  · exact Or.inl (hw _ (List.mem_of_getElem? (i := 38) rfl))
  · exact Or.inl (hw _ (List.mem_of_getElem? (i := 40) rfl))
  · exact Or.inl (hw _ (List.mem_of_getElem? (i := 42) rfl))
  · exact Or.inl (hw _ (List.mem_of_getElem? (i := 44) rfl))
  · exact Or.inl (hw _ (List.mem_of_getElem? (i := 46) rfl))
  · exact Or.inl (hw _ (List.mem_of_getElem? (i := 86) rfl))
  · exact Or.inl (hw _ (List.mem_of_getElem? (i := 88) rfl))
  · exact Or.inl (hw _ (List.mem_of_getElem? (i := 90) rfl))
  · exact Or.inl (hw _ (List.mem_of_getElem? (i := 92) rfl))
theorem d10_0 : decode jdk_29_method_66_code 0 = .ok (.lload_n 0, 1) := by decide +kernel
theorem d10_1 : decode jdk_29_method_66_code 1 = .ok (.lload_n 2, 1) := by decide +kernel
theorem d10_2 : decode jdk_29_method_66_code 2 = .ok (.lcmp, 1) := by decide +kernel
theorem d10_3 : decode jdk_29_method_66_code 3 = .ok (.ifCond .lt 7, 3) := by decide +kernel
theorem d10_6 : decode jdk_29_method_66_code 6 = .ok (.lload_n 0, 1) := by decide +kernel
theorem d10_7 : decode jdk_29_method_66_code 7 = .ok (.goto 4, 3) := by decide +kernel
theorem d10_10 : decode jdk_29_method_66_code 10 = .ok (.lload_n 2, 1) := by decide +kernel
theorem d10_11 : decode jdk_29_method_66_code 11 = .ok (.lreturn, 1) := by decide +kernel
theorem ef_10 (m : MethodId) (q0 : Int64) (q1 : Int64) : entryFrame m #[(.long q0), (.long q1)] 4 = mkF m 0 #[.val (.long q0), .second, .val (.long q1), .second] [] := by first | (simp [entryFrame, mkF, argsToLocals, Value.category]; done) | rfl
def jmax_11 (v11_s0 : Int64) : Int64 := v11_s0
def jmax (q0 : Int64) (q1 : Int64) : Int64 := if q0 < q1 then (jmax_11 q1) else (jmax_11 q0)
set_option maxRecDepth 65536 in
set_option maxHeartbeats 40000000 in
theorem rm_jmax (l : Launch) (Z : State) (a0 : Array Value) (hw : ∀ d ∈ tables_1, d.before a0 Z = true) (ws : List Jvm.Cond) (q0 : Int64) (q1 : Int64) (h0 : Heap) :
    MetFree l (⟨"java/lang/Math", "max", "(JJ)J"⟩ : MethodName) (head1 (Jvm.Cond.code (⟨"java/lang/Math", "max", "(JJ)J"⟩ : MethodName) jdk_29_method_66_code 4 (some .long) :: ws) ({ frames := 0, cells := 0, slots := 0, locals := 0 } : Room)) (fun a U => a = #[(.long q0), (.long q1)] ∧ Z.Warmed39 U.vm ∧ U.heap = h0) (fun _ _ _ _ _ => True) (fun _ U o U' => ∃ v L, o = .returned v ∧ QP (Value.long (jmax q0 q1)) h0 v U'.heap L ∧ FrameEnd U o U' L 0 0) := by
  refine MetFree.of_bodySF (Jvm.Free.JP.mathPlain rfl (by decide +kernel)) hisR ?_
  intro p e s m args below meth c s₁ Bd hml0 hP hK
  obtain ⟨rfl, hZ, hh⟩ := hP
  have hx := Bd.exec
  have hby := Bd.bytes
  have hlk : meth.locks = false := Bd.notSynchronized
  have hml : c.maxLocals = 4 := hml0
  have hown : s.vm.findClass "java/lang/Math" = some m.cls := findClass_of_methodNamed Bd.named
  have X0 : Stand p l e ({ frames := 0, cells := 0, slots := 0, locals := 0 } : Room) s m #[(.long q0), (.long q1)] below meth c s₁ [] 0 0 := Stand.of_body Bd
  have e0 : s₁.heap = h0 := by rw [← hh, Bd.state]; rfl
  have bjmax_11 : ∀ (T : State) (X : Stand p l e ({ frames := 0, cells := 0, slots := 0, locals := 0 } : Room) s m #[(.long q0), (.long q1)] below meth c T [] 0 0) (eT : T.heap = h0) (v11_s0 : Int64), OEnds p e below s (QP (Value.long (jmax_11 v11_s0)) h0) 0 0 (T.setTop (mkF m 11 #[.val (.long q0), .second, .val (.long q1), .second] [(.long v11_s0)])) := by
    intro T X eT v11_s0
    exact own_retJ X hx hlk Bd.returns (hb hby d10_11) ⟨congrArg (fun z => some (Value.long z)) (Eq.symm (by rw [jmax_11] <;> rfl)), rfl, eT⟩ (Nat.le_refl _) (Nat.le_refl _)
  show OEnds p e below s _ _ _ _
  refine own_by (fun t k => castTop (ef_10 m q0 q1) k) ?_
  show OEnds p e below s _ _ _ (s₁.setTop (mkF m 0 #[.val (.long q0), .second, .val (.long q1), .second] []))
  refine own_by (fun _ k => XS.lloadN X0.here hx rfl (hb hby d10_0) rfl k) ?_
  show OEnds p e below s _ _ _ (s₁.setTop (mkF m 1 #[.val (.long q0), .second, .val (.long q1), .second] [(.long q0)]))
  refine own_by (fun _ k => XS.lloadN X0.here hx rfl (hb hby d10_1) rfl k) ?_
  show OEnds p e below s _ _ _ (s₁.setTop (mkF m 2 #[.val (.long q0), .second, .val (.long q1), .second] [(.long q1), (.long q0)]))
  refine own_by (fun _ k => XS.lcmp X0.here hx rfl (hb hby d10_2) rfl k) ?_
  show OEnds p e below s _ _ _ (s₁.setTop (mkF m 3 #[.val (.long q0), .second, .val (.long q1), .second] [(.int (lcmpW q0 q1))]))
  by_cases hc3 : q0 < q1
  · refine own_by (fun _ k => XS.ifYes X0.here hx rfl (pc0 := 3) (pc' := 10) rfl (hb hby d10_3) rfl ((if0 _ _).trans (tlt ((lw_lt _ _).mpr hc3)).1) (by decide) (by decide) k) ?_
    show OEnds p e below s _ _ _ (s₁.setTop (mkF m 10 #[.val (.long q0), .second, .val (.long q1), .second] []))
    refine own_by (fun _ k => XS.lloadN X0.here hx rfl (hb hby d10_10) rfl k) ?_
    show OEnds p e below s _ _ _ (s₁.setTop (mkF m 11 #[.val (.long q0), .second, .val (.long q1), .second] [(.long q1)]))
    exact own_eq (congrArg Value.long (by rw [jmax, if_pos hc3] <;> rfl)) (bjmax_11 s₁ X0 e0 q1)
  · refine own_by (fun _ k => XS.ifNo X0.here hx rfl (hb hby d10_3) rfl ((if0 _ _).trans (flt (fun q => hc3 ((lw_lt _ _).mp q))).1) k) ?_
    show OEnds p e below s _ _ _ (s₁.setTop (mkF m 6 #[.val (.long q0), .second, .val (.long q1), .second] []))
    refine own_by (fun _ k => XS.lloadN X0.here hx rfl (hb hby d10_6) rfl k) ?_
    show OEnds p e below s _ _ _ (s₁.setTop (mkF m 7 #[.val (.long q0), .second, .val (.long q1), .second] [(.long q0)]))
    refine own_by (fun _ k => XS.goto X0.here hx rfl (pc0 := 7) (pc' := 11) rfl (hb hby d10_7) (by decide) (by decide) k) ?_
    show OEnds p e below s _ _ _ (s₁.setTop (mkF m 11 #[.val (.long q0), .second, .val (.long q1), .second] [(.long q0)]))
    exact own_eq (congrArg Value.long (by rw [jmax, if_neg hc3] <;> rfl)) (bjmax_11 s₁ X0 e0 q0)
theorem d1_0 : decode prog_32_method_1_code 0 = .ok (.aload_n 0, 1) := by decide +kernel
theorem d1_1 : decode prog_32_method_1_code 1 = .ok (.invokespecial 1, 3) := by decide +kernel
theorem d1_4 : decode prog_32_method_1_code 4 = .ok (.aload_n 0, 1) := by decide +kernel
theorem d1_5 : decode prog_32_method_1_code 5 = .ok (.bipush 64, 2) := by decide +kernel
theorem d1_7 : decode prog_32_method_1_code 7 = .ok (.newarray .long, 2) := by decide +kernel
theorem d1_9 : decode prog_32_method_1_code 9 = .ok (.putfield 7, 3) := by decide +kernel
theorem d1_12 : decode prog_32_method_1_code 12 = .ok (.aload_n 0, 1) := by decide +kernel
theorem d1_13 : decode prog_32_method_1_code 13 = .ok (.bipush 64, 2) := by decide +kernel
theorem d1_15 : decode prog_32_method_1_code 15 = .ok (.newarray .long, 2) := by decide +kernel
theorem d1_17 : decode prog_32_method_1_code 17 = .ok (.putfield 13, 3) := by decide +kernel
theorem d1_20 : decode prog_32_method_1_code 20 = .ok (.aload_n 0, 1) := by decide +kernel
theorem d1_21 : decode prog_32_method_1_code 21 = .ok (.bipush 16, 2) := by decide +kernel
theorem d1_23 : decode prog_32_method_1_code 23 = .ok (.newarray .int, 2) := by decide +kernel
theorem d1_25 : decode prog_32_method_1_code 25 = .ok (.putfield 16, 3) := by decide +kernel
theorem d1_28 : decode prog_32_method_1_code 28 = .ok (.aload_n 0, 1) := by decide +kernel
theorem d1_29 : decode prog_32_method_1_code 29 = .ok (.bipush 16, 2) := by decide +kernel
theorem d1_31 : decode prog_32_method_1_code 31 = .ok (.newarray .int, 2) := by decide +kernel
theorem d1_33 : decode prog_32_method_1_code 33 = .ok (.putfield 20, 3) := by decide +kernel
theorem d1_36 : decode prog_32_method_1_code 36 = .ok (.aload_n 0, 1) := by decide +kernel
theorem d1_37 : decode prog_32_method_1_code 37 = .ok (.bipush 16, 2) := by decide +kernel
theorem d1_39 : decode prog_32_method_1_code 39 = .ok (.newarray .int, 2) := by decide +kernel
theorem d1_41 : decode prog_32_method_1_code 41 = .ok (.putfield 23, 3) := by decide +kernel
theorem d1_44 : decode prog_32_method_1_code 44 = .ok (.aload_n 0, 1) := by decide +kernel
theorem d1_45 : decode prog_32_method_1_code 45 = .ok (.bipush 96, 2) := by decide +kernel
theorem d1_47 : decode prog_32_method_1_code 47 = .ok (.newarray .int, 2) := by decide +kernel
theorem d1_49 : decode prog_32_method_1_code 49 = .ok (.putfield 26, 3) := by decide +kernel
theorem d1_52 : decode prog_32_method_1_code 52 = .ok (.aload_n 0, 1) := by decide +kernel
theorem d1_53 : decode prog_32_method_1_code 53 = .ok (.bipush 32, 2) := by decide +kernel
theorem d1_55 : decode prog_32_method_1_code 55 = .ok (.newarray .int, 2) := by decide +kernel
theorem d1_57 : decode prog_32_method_1_code 57 = .ok (.putfield 29, 3) := by decide +kernel
theorem d1_60 : decode prog_32_method_1_code 60 = .ok (.return_, 1) := by decide +kernel
theorem pn_1 : plainName "com/example/graphweft/graphweft/RangeMaxTree" = true := by first | (simp [plainName, overriddenIn]; done) | decide +kernel
theorem ef_1 (m : MethodId) (x0 : Addr) : entryFrame m #[(.ref x0)] 1 = mkF m 0 #[.val (.ref x0)] [] := by first | (simp [entryFrame, mkF, argsToLocals, Value.category]; done) | rfl
def Q_init (Z : State) (a : Addr) (h0 : Heap) (n0 : Nat) (r : Option Value) (h : Heap) (L : List Loc) : Prop := r = none ∧ Fr n0 L ∧ Keep h0 h [a] ∧ ∃ b1 b2 b3 b4 b5 b6 b7 : Addr, (@LT.lt Nat instLTNat a b1 ∧ @LT.lt Nat instLTNat b1 b2 ∧ @LT.lt Nat instLTNat b2 b3 ∧ @LT.lt Nat instLTNat b3 b4 ∧ @LT.lt Nat instLTNat b4 b5 ∧ @LT.lt Nat instLTNat b5 b6 ∧ @LT.lt Nat instLTNat b6 b7) ∧ (n0 ≤ b1 ∧ n0 ≤ b2 ∧ n0 ≤ b3 ∧ n0 ≤ b4 ∧ n0 ≤ b5 ∧ n0 ≤ b6 ∧ n0 ≤ b7) ∧ Obj Z h a "com/example/graphweft/graphweft/RangeMaxTree" sch_rt [(.ref b1), (.ref b2), (.ref b3), (.ref b4), (.ref b5), (.ref b6), (.ref b7), (.int (0 : Int32)), (.int (0 : Int32)), (.int (0 : Int32)), (.int (0 : Int32)), (.int (0 : Int32)), (.int (0 : Int32)), (.int (0 : Int32)), (.int (0 : Int32)), (.long (0 : Int64)), (.int (0 : Int32)), (.int (0 : Int32)), (.int (0 : Int32))] ∧ FA Z h b1 .long 64 (fun i => .long ((fun _ => (0 : Int64)) i)) ∧ FA Z h b2 .long 64 (fun i => .long ((fun _ => (0 : Int64)) i)) ∧ FA Z h b3 .int 16 (fun i => .int ((fun _ => (0 : Int32)) i)) ∧ FA Z h b4 .int 16 (fun i => .int ((fun _ => (0 : Int32)) i)) ∧ FA Z h b5 .int 16 (fun i => .int ((fun _ => (0 : Int32)) i)) ∧ FA Z h b6 .int 96 (fun i => .int ((fun _ => (0 : Int32)) i)) ∧ FA Z h b7 .int 32 (fun i => .int ((fun _ => (0 : Int32)) i))
set_option maxRecDepth 65536 in
set_option maxHeartbeats 40000000 in
theorem rm_init (l : Launch) (Z : State) (a0 : Array Value) (hw : ∀ d ∈ tables_1, d.before a0 Z = true) (ws : List Jvm.Cond) (a : Addr) (h0 : Heap) (n0 : Nat) (Z0 : n0 ≤ h0.size) (O0 : Obj Z h0 a "com/example/graphweft/graphweft/RangeMaxTree" sch_rt [.null, .null, .null, .null, .null, .null, .null, (.int (0 : Int32)), (.int (0 : Int32)), (.int (0 : Int32)), (.int (0 : Int32)), (.int (0 : Int32)), (.int (0 : Int32)), (.int (0 : Int32)), (.int (0 : Int32)), (.long (0 : Int64)), (.int (0 : Int32)), (.int (0 : Int32)), (.int (0 : Int32))]) (ga : n0 ≤ a) :
    MetFree l (⟨"com/example/graphweft/graphweft/RangeMaxTree", "<init>", "()V"⟩ : MethodName) (head1 (Jvm.Cond.code (⟨"com/example/graphweft/graphweft/RangeMaxTree", "<init>", "()V"⟩ : MethodName) prog_32_method_1_code 1 none :: ws) ({ frames := 1, cells := 7, slots := 304, locals := 12 } : Room)) (fun a_ U => a_ = #[(.ref a)] ∧ Z.Warmed39 U.vm ∧ U.heap = h0) (fun _ _ _ _ _ => True) (fun _ U o U' => ∃ v_ L_, o = .returned v_ ∧ Q_init Z a h0 n0 v_ U'.heap L_ ∧ FrameEnd U o U' L_ ({ frames := 1, cells := 7, slots := 304, locals := 12 } : Room).cells ({ frames := 1, cells := 7, slots := 304, locals := 12 } : Room).slots) := by
  refine MetFree.of_bodySF (plainFor_of_name pn_1) hisR ?_
  intro p e s m args below meth c s₁ Bd hml0 hP hK
  obtain ⟨rfl, hZ, hh⟩ := hP
  have hx := Bd.exec
  have hby := Bd.bytes
  have hlk : meth.locks = false := Bd.notSynchronized
  have hml : c.maxLocals = 1 := hml0
  have hown : s.vm.findClass "com/example/graphweft/graphweft/RangeMaxTree" = some m.cls := findClass_of_methodNamed Bd.named
  have hnm := (name_of_methodNamed Bd.named Bd.method).1
  have X0 : Stand p l e ({ frames := 1, cells := 7, slots := 304, locals := 12 } : Room) s m #[(.ref a)] below meth c s₁ [] 0 0 := Stand.of_body Bd
  have e0 : s₁.heap = h0 := by rw [← hh, Bd.state]; rfl
  have N0 := Fr.nil n0
  have K0 : Keep h0 h0 [a] := Keep.refl _ _
  show OEnds p e below s (Q_init Z a h0 n0) _ _ _
  refine own_by (fun t k => castTop (ef_1 m a) k) ?_
  show OEnds p e below s _ _ _ (s₁.setTop (mkF m 0 #[.val (.ref a)] []))
  refine own_by (fun _ k => XS.aloadN X0.here hx rfl (hb hby d1_0) rfl rfl k) ?_
  show OEnds p e below s _ _ _ (s₁.setTop (mkF m 1 #[.val (.ref a)] [(.ref a)]))
  obtain ⟨T1, X1, e1, st1⟩ := initO X0 hx hZ hown (hw _ (List.mem_of_getElem? (i := 7) rfl)) (hw _ (List.mem_of_getElem? (i := 8) rfl)) (hw _ (List.mem_of_getElem? (i := 9) rfl)) e0 (g := (mkF m 1 #[.val (.ref a)] [(.ref a)])) rfl (by rw [hml]; rfl) rfl (hb hby d1_1) (by decide) (W := 0) (by show 2 * 0 + _ ≤ _; exact Nat.le_of_eq rfl) (by decide)
  refine own_by (st1) ?_
  show OEnds p e below s _ _ _ (T1.setTop (mkF m 4 #[.val (.ref a)] []))
  refine own_by (fun _ k => XS.aloadN X1.here hx rfl (hb hby d1_4) rfl rfl k) ?_
  show OEnds p e below s _ _ _ (T1.setTop (mkF m 5 #[.val (.ref a)] [(.ref a)]))
  refine own_by (fun _ k => XS.bipush X1.here hx rfl (hb hby d1_5) k) ?_
  show OEnds p e below s _ _ _ (T1.setTop (mkF m 7 #[.val (.ref a)] [(.int (64 : Int32)), (.ref a)]))
  obtain ⟨T2, h2, k2, X2, e2, E2, A2, st2⟩ := newP X1 hx hZ (hw _ (List.mem_of_getElem? (i := 10) rfl)) e1 (g := (mkF m 7 #[.val (.ref a)] [(.int (64 : Int32)), (.ref a)])) rfl (hb hby d1_7) rfl (by decide) (cap := 64) (by decide) (by decide) (by decide) (by decide)
  obtain ⟨nb2, g2⟩ : ∃ z, z = h0.size := ⟨_, rfl⟩
  rw [← g2] at A2 st2
  refine own_by (st2) ?_
  have g_nb2 : n0 ≤ nb2 := Nat.le_trans Z0 (Nat.le_of_eq g2.symm)
  have sz_nb2 : h0.size ≤ nb2 := Nat.le_trans K0.1 (Nat.le_of_eq g2.symm)
  have K2 : Keep h0 h2 [a] := K0.ext E2
  have Z2 : n0 ≤ h2.size := Nat.le_trans Z0 E2.1
  have F2 : FA Z h2 nb2 .long 64 (fun i => .long ((fun _ => (0 : Int64)) i)) := FA.new A2 (by decide) (by decide) rfl
  show OEnds p e below s _ _ _ (T2.setTop (mkF m 9 #[.val (.ref a)] [(.ref nb2), (.ref a)]))
  have O4 : Obj Z h2 a "com/example/graphweft/graphweft/RangeMaxTree" sch_rt [.null, .null, .null, .null, .null, .null, .null, (.int (0 : Int32)), (.int (0 : Int32)), (.int (0 : Int32)), (.int (0 : Int32)), (.int (0 : Int32)), (.int (0 : Int32)), (.int (0 : Int32)), (.int (0 : Int32)), (.long (0 : Int64)), (.int (0 : Int32)), (.int (0 : Int32)), (.int (0 : Int32))] := (O0.ext E2)
  obtain ⟨T3, h3, X3, e3, W3, st3⟩ := putF X2 hx hZ hown (host := "") (Or.inl (hw _ (List.mem_of_getElem? (i := 11) rfl))) Via.refl e2 (O4.fld 0 rfl rfl) O4.exa (Or.inl (hw _ (List.mem_of_getElem? (i := 12) rfl))) (hw _ (List.mem_of_getElem? (i := 2) rfl)) (ty := (.array .long)) (by decide) rfl rfl (g := (mkF m 9 #[.val (.ref a)] [(.ref nb2), (.ref a)])) rfl rfl (hb hby d1_9)
  refine own_by (st3) ?_
  have O3 : Obj Z h3 a "com/example/graphweft/graphweft/RangeMaxTree" sch_rt [(.ref nb2), .null, .null, .null, .null, .null, .null, (.int (0 : Int32)), (.int (0 : Int32)), (.int (0 : Int32)), (.int (0 : Int32)), (.int (0 : Int32)), (.int (0 : Int32)), (.int (0 : Int32)), (.int (0 : Int32)), (.long (0 : Int64)), (.int (0 : Int32)), (.int (0 : Int32)), (.int (0 : Int32))] := O4.set (so_sch_rt hw) W3 0 rfl (Nat.le_of_ble_eq_true rfl)
  have N3 := Fr.snoc X3 N0 ga
  have Z3 : n0 ≤ h3.size := Nat.le_trans Z2 (Keep.of_wr W3).1
  have K3 : Keep h0 h3 [a] := K2.wr W3 (Or.inl (List.mem_of_getElem? (i := 0) rfl))
  show OEnds p e below s _ _ _ (T3.setTop (mkF m 12 #[.val (.ref a)] []))
  refine own_by (fun _ k => XS.aloadN X3.here hx rfl (hb hby d1_12) rfl rfl k) ?_
  show OEnds p e below s _ _ _ (T3.setTop (mkF m 13 #[.val (.ref a)] [(.ref a)]))
  refine own_by (fun _ k => XS.bipush X3.here hx rfl (hb hby d1_13) k) ?_
  show OEnds p e below s _ _ _ (T3.setTop (mkF m 15 #[.val (.ref a)] [(.int (64 : Int32)), (.ref a)]))
  obtain ⟨T5, h5, k5, X5, e5, E5, A5, st5⟩ := newP X3 hx hZ (hw _ (List.mem_of_getElem? (i := 10) rfl)) e3 (g := (mkF m 15 #[.val (.ref a)] [(.int (64 : Int32)), (.ref a)])) rfl (hb hby d1_15) rfl (by decide) (cap := 64) (by decide) (by decide) (by decide) (by decide)
  obtain ⟨nb5, g5⟩ : ∃ z, z = h3.size := ⟨_, rfl⟩
  rw [← g5] at A5 st5
  refine own_by (st5) ?_
  have F6 : FA Z h3 nb2 .long 64 (fun i => .long ((fun _ => (0 : Int64)) i)) := (F2.other W3 (Ne.symm (Nat.ne_of_lt (Nat.lt_of_lt_of_le O0.lt (Nat.le_of_eq g2.symm)))))
  have lt_nb5 : nb2 < nb5 := Nat.lt_of_lt_of_le F6.lt (Nat.le_of_eq g5.symm)
  have g_nb5 : n0 ≤ nb5 := Nat.le_trans Z3 (Nat.le_of_eq g5.symm)
  have sz_nb5 : h0.size ≤ nb5 := Nat.le_trans K3.1 (Nat.le_of_eq g5.symm)
  have K5 : Keep h0 h5 [a] := K3.ext E5
  have Z5 : n0 ≤ h5.size := Nat.le_trans Z3 E5.1
  have F5 : FA Z h5 nb5 .long 64 (fun i => .long ((fun _ => (0 : Int64)) i)) := FA.new A5 (by decide) (by decide) rfl
  show OEnds p e below s _ _ _ (T5.setTop (mkF m 17 #[.val (.ref a)] [(.ref nb5), (.ref a)]))
  have O8 : Obj Z h5 a "com/example/graphweft/graphweft/RangeMaxTree" sch_rt [(.ref nb2), .null, .null, .null, .null, .null, .null, (.int (0 : Int32)), (.int (0 : Int32)), (.int (0 : Int32)), (.int (0 : Int32)), (.int (0 : Int32)), (.int (0 : Int32)), (.int (0 : Int32)), (.int (0 : Int32)), (.long (0 : Int64)), (.int (0 : Int32)), (.int (0 : Int32)), (.int (0 : Int32))] := (O3.ext E5)
  obtain ⟨T7, h7, X7, e7, W7, st7⟩ := putF X5 hx hZ hown (host := "") (Or.inl (hw _ (List.mem_of_getElem? (i := 13) rfl))) Via.refl e5 (O8.fld 1 rfl rfl) O8.exa (Or.inl (hw _ (List.mem_of_getElem? (i := 14) rfl))) (hw _ (List.mem_of_getElem? (i := 2) rfl)) (ty := (.array .long)) (by decide) rfl rfl (g := (mkF m 17 #[.val (.ref a)] [(.ref nb5), (.ref a)])) rfl rfl (hb hby d1_17)
  refine own_by (st7) ?_
  have O7 : Obj Z h7 a "com/example/graphweft/graphweft/RangeMaxTree" sch_rt [(.ref nb2), (.ref nb5), .null, .null, .null, .null, .null, (.int (0 : Int32)), (.int (0 : Int32)), (.int (0 : Int32)), (.int (0 : Int32)), (.int (0 : Int32)), (.int (0 : Int32)), (.int (0 : Int32)), (.int (0 : Int32)), (.long (0 : Int64)), (.int (0 : Int32)), (.int (0 : Int32)), (.int (0 : Int32))] := O8.set (so_sch_rt hw) W7 1 rfl (Nat.le_of_ble_eq_true rfl)
  have N7 := Fr.snoc X7 N3 ga
  have Z7 : n0 ≤ h7.size := Nat.le_trans Z5 (Keep.of_wr W7).1
  have K7 : Keep h0 h7 [a] := K5.wr W7 (Or.inl (List.mem_of_getElem? (i := 0) rfl))
  show OEnds p e below s _ _ _ (T7.setTop (mkF m 20 #[.val (.ref a)] []))
  refine own_by (fun _ k => XS.aloadN X7.here hx rfl (hb hby d1_20) rfl rfl k) ?_
  show OEnds p e below s _ _ _ (T7.setTop (mkF m 21 #[.val (.ref a)] [(.ref a)]))
  refine own_by (fun _ k => XS.bipush X7.here hx rfl (hb hby d1_21) k) ?_
  show OEnds p e below s _ _ _ (T7.setTop (mkF m 23 #[.val (.ref a)] [(.int (16 : Int32)), (.ref a)]))
  obtain ⟨T9, h9, k9, X9, e9, E9, A9, st9⟩ := newP X7 hx hZ (hw _ (List.mem_of_getElem? (i := 15) rfl)) e7 (g := (mkF m 23 #[.val (.ref a)] [(.int (16 : Int32)), (.ref a)])) rfl (hb hby d1_23) rfl (by decide) (cap := 16) (by decide) (by decide) (by decide) (by decide)
  obtain ⟨nb9, g9⟩ : ∃ z, z = h7.size := ⟨_, rfl⟩
  rw [← g9] at A9 st9
  refine own_by (st9) ?_
  have F10 : FA Z h7 nb2 .long 64 (fun i => .long ((fun _ => (0 : Int64)) i)) := ((F6.ext E5).other W7 (Ne.symm (Nat.ne_of_lt (Nat.lt_of_lt_of_le O0.lt (Nat.le_of_eq g2.symm)))))
  have F11 : FA Z h7 nb5 .long 64 (fun i => .long ((fun _ => (0 : Int64)) i)) := (F5.other W7 (Ne.symm (Nat.ne_of_lt (Nat.lt_of_lt_of_le O3.lt (Nat.le_of_eq g5.symm)))))
  have lt_nb9 : nb5 < nb9 := Nat.lt_of_lt_of_le F11.lt (Nat.le_of_eq g9.symm)
  have g_nb9 : n0 ≤ nb9 := Nat.le_trans Z7 (Nat.le_of_eq g9.symm)
  have sz_nb9 : h0.size ≤ nb9 := Nat.le_trans K7.1 (Nat.le_of_eq g9.symm)
  have K9 : Keep h0 h9 [a] := K7.ext E9
  have Z9 : n0 ≤ h9.size := Nat.le_trans Z7 E9.1
  have F9 : FA Z h9 nb9 .int 16 (fun i => .int ((fun _ => (0 : Int32)) i)) := FA.new A9 (by decide) (by decide) rfl
  show OEnds p e below s _ _ _ (T9.setTop (mkF m 25 #[.val (.ref a)] [(.ref nb9), (.ref a)]))
  have O13 : Obj Z h9 a "com/example/graphweft/graphweft/RangeMaxTree" sch_rt [(.ref nb2), (.ref nb5), .null, .null, .null, .null, .null, (.int (0 : Int32)), (.int (0 : Int32)), (.int (0 : Int32)), (.int (0 : Int32)), (.int (0 : Int32)), (.int (0 : Int32)), (.int (0 : Int32)), (.int (0 : Int32)), (.long (0 : Int64)), (.int (0 : Int32)), (.int (0 : Int32)), (.int (0 : Int32))] := (O7.ext E9)
  obtain ⟨T12, h12, X12, e12, W12, st12⟩ := putF X9 hx hZ hown (host := "") (Or.inl (hw _ (List.mem_of_getElem? (i := 16) rfl))) Via.refl e9 (O13.fld 2 rfl rfl) O13.exa (Or.inl (hw _ (List.mem_of_getElem? (i := 17) rfl))) (hw _ (List.mem_of_getElem? (i := 2) rfl)) (ty := (.array .int)) (by decide) rfl rfl (g := (mkF m 25 #[.val (.ref a)] [(.ref nb9), (.ref a)])) rfl rfl (hb hby d1_25)
  refine own_by (st12) ?_
  have O12 : Obj Z h12 a "com/example/graphweft/graphweft/RangeMaxTree" sch_rt [(.ref nb2), (.ref nb5), (.ref nb9), .null, .null, .null, .null, (.int (0 : Int32)), (.int (0 : Int32)), (.int (0 : Int32)), (.int (0 : Int32)), (.int (0 : Int32)), (.int (0 : Int32)), (.int (0 : Int32)), (.int (0 : Int32)), (.long (0 : Int64)), (.int (0 : Int32)), (.int (0 : Int32)), (.int (0 : Int32))] := O13.set (so_sch_rt hw) W12 2 rfl (Nat.le_of_ble_eq_true rfl)
  have N12 := Fr.snoc X12 N7 ga
  have Z12 : n0 ≤ h12.size := Nat.le_trans Z9 (Keep.of_wr W12).1
  have K12 : Keep h0 h12 [a] := K9.wr W12 (Or.inl (List.mem_of_getElem? (i := 0) rfl))
  show OEnds p e below s _ _ _ (T12.setTop (mkF m 28 #[.val (.ref a)] []))
  refine own_by (fun _ k => XS.aloadN X12.here hx rfl (hb hby d1_28) rfl rfl k) ?_
  show OEnds p e below s _ _ _ (T12.setTop (mkF m 29 #[.val (.ref a)] [(.ref a)]))
  refine own_by (fun _ k => XS.bipush X12.here hx rfl (hb hby d1_29) k) ?_
  show OEnds p e below s _ _ _ (T12.setTop (mkF m 31 #[.val (.ref a)] [(.int (16 : Int32)), (.ref a)]))
  obtain ⟨T14, h14, k14, X14, e14, E14, A14, st14⟩ := newP X12 hx hZ (hw _ (List.mem_of_getElem? (i := 15) rfl)) e12 (g := (mkF m 31 #[.val (.ref a)] [(.int (16 : Int32)), (.ref a)])) rfl (hb hby d1_31) rfl (by decide) (cap := 16) (by decide) (by decide) (by decide) (by decide)
  obtain ⟨nb14, g14⟩ : ∃ z, z = h12.size := ⟨_, rfl⟩
  rw [← g14] at A14 st14
  refine own_by (st14) ?_
  have F15 : FA Z h12 nb2 .long 64 (fun i => .long ((fun _ => (0 : Int64)) i)) := ((F10.ext E9).other W12 (Ne.symm (Nat.ne_of_lt (Nat.lt_of_lt_of_le O0.lt (Nat.le_of_eq g2.symm)))))
  have F16 : FA Z h12 nb5 .long 64 (fun i => .long ((fun _ => (0 : Int64)) i)) := ((F11.ext E9).other W12 (Ne.symm (Nat.ne_of_lt (Nat.lt_of_lt_of_le O3.lt (Nat.le_of_eq g5.symm)))))
  have F17 : FA Z h12 nb9 .int 16 (fun i => .int ((fun _ => (0 : Int32)) i)) := (F9.other W12 (Ne.symm (Nat.ne_of_lt (Nat.lt_of_lt_of_le O7.lt (Nat.le_of_eq g9.symm)))))
  have lt_nb14 : nb9 < nb14 := Nat.lt_of_lt_of_le F17.lt (Nat.le_of_eq g14.symm)
  have g_nb14 : n0 ≤ nb14 := Nat.le_trans Z12 (Nat.le_of_eq g14.symm)
  have sz_nb14 : h0.size ≤ nb14 := Nat.le_trans K12.1 (Nat.le_of_eq g14.symm)
  have K14 : Keep h0 h14 [a] := K12.ext E14
  have Z14 : n0 ≤ h14.size := Nat.le_trans Z12 E14.1
  have F14 : FA Z h14 nb14 .int 16 (fun i => .int ((fun _ => (0 : Int32)) i)) := FA.new A14 (by decide) (by decide) rfl
  show OEnds p e below s _ _ _ (T14.setTop (mkF m 33 #[.val (.ref a)] [(.ref nb14), (.ref a)]))
  have O19 : Obj Z h14 a "com/example/graphweft/graphweft/RangeMaxTree" sch_rt [(.ref nb2), (.ref nb5), (.ref nb9), .null, .null, .null, .null, (.int (0 : Int32)), (.int (0 : Int32)), (.int (0 : Int32)), (.int (0 : Int32)), (.int (0 : Int32)), (.int (0 : Int32)), (.int (0 : Int32)), (.int (0 : Int32)), (.long (0 : Int64)), (.int (0 : Int32)), (.int (0 : Int32)), (.int (0 : Int32))] := (O12.ext E14)
  obtain ⟨T18, h18, X18, e18, W18, st18⟩ := putF X14 hx hZ hown (host := "") (Or.inl (hw _ (List.mem_of_getElem? (i := 18) rfl))) Via.refl e14 (O19.fld 3 rfl rfl) O19.exa (Or.inl (hw _ (List.mem_of_getElem? (i := 19) rfl))) (hw _ (List.mem_of_getElem? (i := 2) rfl)) (ty := (.array .int)) (by decide) rfl rfl (g := (mkF m 33 #[.val (.ref a)] [(.ref nb14), (.ref a)])) rfl rfl (hb hby d1_33)
  refine own_by (st18) ?_
  have O18 : Obj Z h18 a "com/example/graphweft/graphweft/RangeMaxTree" sch_rt [(.ref nb2), (.ref nb5), (.ref nb9), (.ref nb14), .null, .null, .null, (.int (0 : Int32)), (.int (0 : Int32)), (.int (0 : Int32)), (.int (0 : Int32)), (.int (0 : Int32)), (.int (0 : Int32)), (.int (0 : Int32)), (.int (0 : Int32)), (.long (0 : Int64)), (.int (0 : Int32)), (.int (0 : Int32)), (.int (0 : Int32))] := O19.set (so_sch_rt hw) W18 3 rfl (Nat.le_of_ble_eq_true rfl)
  have N18 := Fr.snoc X18 N12 ga
  have Z18 : n0 ≤ h18.size := Nat.le_trans Z14 (Keep.of_wr W18).1
  have K18 : Keep h0 h18 [a] := K14.wr W18 (Or.inl (List.mem_of_getElem? (i := 0) rfl))
  show OEnds p e below s _ _ _ (T18.setTop (mkF m 36 #[.val (.ref a)] []))
  refine own_by (fun _ k => XS.aloadN X18.here hx rfl (hb hby d1_36) rfl rfl k) ?_
  show OEnds p e below s _ _ _ (T18.setTop (mkF m 37 #[.val (.ref a)] [(.ref a)]))
  refine own_by (fun _ k => XS.bipush X18.here hx rfl (hb hby d1_37) k) ?_
  show OEnds p e below s _ _ _ (T18.setTop (mkF m 39 #[.val (.ref a)] [(.int (16 : Int32)), (.ref a)]))
  obtain ⟨T20, h20, k20, X20, e20, E20, A20, st20⟩ := newP X18 hx hZ (hw _ (List.mem_of_getElem? (i := 15) rfl)) e18 (g := (mkF m 39 #[.val (.ref a)] [(.int (16 : Int32)), (.ref a)])) rfl (hb hby d1_39) rfl (by decide) (cap := 16) (by decide) (by decide) (by decide) (by decide)
  obtain ⟨nb20, g20⟩ : ∃ z, z = h18.size := ⟨_, rfl⟩
  rw [← g20] at A20 st20
  refine own_by (st20) ?_
  have F21 : FA Z h18 nb2 .long 64 (fun i => .long ((fun _ => (0 : Int64)) i)) := ((F15.ext E14).other W18 (Ne.symm (Nat.ne_of_lt (Nat.lt_of_lt_of_le O0.lt (Nat.le_of_eq g2.symm)))))
  have F22 : FA Z h18 nb5 .long 64 (fun i => .long ((fun _ => (0 : Int64)) i)) := ((F16.ext E14).other W18 (Ne.symm (Nat.ne_of_lt (Nat.lt_of_lt_of_le O3.lt (Nat.le_of_eq g5.symm)))))
  have F23 : FA Z h18 nb9 .int 16 (fun i => .int ((fun _ => (0 : Int32)) i)) := ((F17.ext E14).other W18 (Ne.symm (Nat.ne_of_lt (Nat.lt_of_lt_of_le O7.lt (Nat.le_of_eq g9.symm)))))
  have F24 : FA Z h18 nb14 .int 16 (fun i => .int ((fun _ => (0 : Int32)) i)) := (F14.other W18 (Ne.symm (Nat.ne_of_lt (Nat.lt_of_lt_of_le O12.lt (Nat.le_of_eq g14.symm)))))
  have lt_nb20 : nb14 < nb20 := Nat.lt_of_lt_of_le F24.lt (Nat.le_of_eq g20.symm)
  have g_nb20 : n0 ≤ nb20 := Nat.le_trans Z18 (Nat.le_of_eq g20.symm)
  have sz_nb20 : h0.size ≤ nb20 := Nat.le_trans K18.1 (Nat.le_of_eq g20.symm)
  have K20 : Keep h0 h20 [a] := K18.ext E20
  have Z20 : n0 ≤ h20.size := Nat.le_trans Z18 E20.1
  have F20 : FA Z h20 nb20 .int 16 (fun i => .int ((fun _ => (0 : Int32)) i)) := FA.new A20 (by decide) (by decide) rfl
  show OEnds p e below s _ _ _ (T20.setTop (mkF m 41 #[.val (.ref a)] [(.ref nb20), (.ref a)]))
  have O26 : Obj Z h20 a "com/example/graphweft/graphweft/RangeMaxTree" sch_rt [(.ref nb2), (.ref nb5), (.ref nb9), (.ref nb14), .null, .null, .null, (.int (0 : Int32)), (.int (0 : Int32)), (.int (0 : Int32)), (.int (0 : Int32)), (.int (0 : Int32)), (.int (0 : Int32)), (.int (0 : Int32)), (.int (0 : Int32)), (.long (0 : Int64)), (.int (0 : Int32)), (.int (0 : Int32)), (.int (0 : Int32))] := (O18.ext E20)
  obtain ⟨T25, h25, X25, e25, W25, st25⟩ := putF X20 hx hZ hown (host := "") (Or.inl (hw _ (List.mem_of_getElem? (i := 20) rfl))) Via.refl e20 (O26.fld 4 rfl rfl) O26.exa (Or.inl (hw _ (List.mem_of_getElem? (i := 21) rfl))) (hw _ (List.mem_of_getElem? (i := 2) rfl)) (ty := (.array .int)) (by decide) rfl rfl (g := (mkF m 41 #[.val (.ref a)] [(.ref nb20), (.ref a)])) rfl rfl (hb hby d1_41)
  refine own_by (st25) ?_
  have O25 : Obj Z h25 a "com/example/graphweft/graphweft/RangeMaxTree" sch_rt [(.ref nb2), (.ref nb5), (.ref nb9), (.ref nb14), (.ref nb20), .null, .null, (.int (0 : Int32)), (.int (0 : Int32)), (.int (0 : Int32)), (.int (0 : Int32)), (.int (0 : Int32)), (.int (0 : Int32)), (.int (0 : Int32)), (.int (0 : Int32)), (.long (0 : Int64)), (.int (0 : Int32)), (.int (0 : Int32)), (.int (0 : Int32))] := O26.set (so_sch_rt hw) W25 4 rfl (Nat.le_of_ble_eq_true rfl)
  have N25 := Fr.snoc X25 N18 ga
  have Z25 : n0 ≤ h25.size := Nat.le_trans Z20 (Keep.of_wr W25).1
  have K25 : Keep h0 h25 [a] := K20.wr W25 (Or.inl (List.mem_of_getElem? (i := 0) rfl))
  show OEnds p e below s _ _ _ (T25.setTop (mkF m 44 #[.val (.ref a)] []))
  refine own_by (fun _ k => XS.aloadN X25.here hx rfl (hb hby d1_44) rfl rfl k) ?_
  show OEnds p e below s _ _ _ (T25.setTop (mkF m 45 #[.val (.ref a)] [(.ref a)]))
  refine own_by (fun _ k => XS.bipush X25.here hx rfl (hb hby d1_45) k) ?_
  show OEnds p e below s _ _ _ (T25.setTop (mkF m 47 #[.val (.ref a)] [(.int (96 : Int32)), (.ref a)]))
  obtain ⟨T27, h27, k27, X27, e27, E27, A27, st27⟩ := newP X25 hx hZ (hw _ (List.mem_of_getElem? (i := 15) rfl)) e25 (g := (mkF m 47 #[.val (.ref a)] [(.int (96 : Int32)), (.ref a)])) rfl (hb hby d1_47) rfl (by decide) (cap := 96) (by decide) (by decide) (by decide) (by decide)
  obtain ⟨nb27, g27⟩ : ∃ z, z = h25.size := ⟨_, rfl⟩
  rw [← g27] at A27 st27
  refine own_by (st27) ?_
  have F28 : FA Z h25 nb2 .long 64 (fun i => .long ((fun _ => (0 : Int64)) i)) := ((F21.ext E20).other W25 (Ne.symm (Nat.ne_of_lt (Nat.lt_of_lt_of_le O0.lt (Nat.le_of_eq g2.symm)))))
  have F29 : FA Z h25 nb5 .long 64 (fun i => .long ((fun _ => (0 : Int64)) i)) := ((F22.ext E20).other W25 (Ne.symm (Nat.ne_of_lt (Nat.lt_of_lt_of_le O3.lt (Nat.le_of_eq g5.symm)))))
  have F30 : FA Z h25 nb9 .int 16 (fun i => .int ((fun _ => (0 : Int32)) i)) := ((F23.ext E20).other W25 (Ne.symm (Nat.ne_of_lt (Nat.lt_of_lt_of_le O7.lt (Nat.le_of_eq g9.symm)))))
  have F31 : FA Z h25 nb14 .int 16 (fun i => .int ((fun _ => (0 : Int32)) i)) := ((F24.ext E20).other W25 (Ne.symm (Nat.ne_of_lt (Nat.lt_of_lt_of_le O12.lt (Nat.le_of_eq g14.symm)))))
  have F32 : FA Z h25 nb20 .int 16 (fun i => .int ((fun _ => (0 : Int32)) i)) := (F20.other W25 (Ne.symm (Nat.ne_of_lt (Nat.lt_of_lt_of_le O18.lt (Nat.le_of_eq g20.symm)))))
  have lt_nb27 : nb20 < nb27 := Nat.lt_of_lt_of_le F32.lt (Nat.le_of_eq g27.symm)
  have g_nb27 : n0 ≤ nb27 := Nat.le_trans Z25 (Nat.le_of_eq g27.symm)
  have sz_nb27 : h0.size ≤ nb27 := Nat.le_trans K25.1 (Nat.le_of_eq g27.symm)
  have K27 : Keep h0 h27 [a] := K25.ext E27
  have Z27 : n0 ≤ h27.size := Nat.le_trans Z25 E27.1
  have F27 : FA Z h27 nb27 .int 96 (fun i => .int ((fun _ => (0 : Int32)) i)) := FA.new A27 (by decide) (by decide) rfl
  show OEnds p e below s _ _ _ (T27.setTop (mkF m 49 #[.val (.ref a)] [(.ref nb27), (.ref a)]))
  have O34 : Obj Z h27 a "com/example/graphweft/graphweft/RangeMaxTree" sch_rt [(.ref nb2), (.ref nb5), (.ref nb9), (.ref nb14), (.ref nb20), .null, .null, (.int (0 : Int32)), (.int (0 : Int32)), (.int (0 : Int32)), (.int (0 : Int32)), (.int (0 : Int32)), (.int (0 : Int32)), (.int (0 : Int32)), (.int (0 : Int32)), (.long (0 : Int64)), (.int (0 : Int32)), (.int (0 : Int32)), (.int (0 : Int32))] := (O25.ext E27)
  obtain ⟨T33, h33, X33, e33, W33, st33⟩ := putF X27 hx hZ hown (host := "") (Or.inl (hw _ (List.mem_of_getElem? (i := 22) rfl))) Via.refl e27 (O34.fld 5 rfl rfl) O34.exa (Or.inr ⟨(hw _ (List.mem_of_getElem? (i := 23) rfl)), rfl, hnm⟩) (hw _ (List.mem_of_getElem? (i := 2) rfl)) (ty := (.array .int)) (by decide) rfl rfl (g := (mkF m 49 #[.val (.ref a)] [(.ref nb27), (.ref a)])) rfl rfl (hb hby d1_49)
  refine own_by (st33) ?_
  have O33 : Obj Z h33 a "com/example/graphweft/graphweft/RangeMaxTree" sch_rt [(.ref nb2), (.ref nb5), (.ref nb9), (.ref nb14), (.ref nb20), (.ref nb27), .null, (.int (0 : Int32)), (.int (0 : Int32)), (.int (0 : Int32)), (.int (0 : Int32)), (.int (0 : Int32)), (.int (0 : Int32)), (.int (0 : Int32)), (.int (0 : Int32)), (.long (0 : Int64)), (.int (0 : Int32)), (.int (0 : Int32)), (.int (0 : Int32))] := O34.set (so_sch_rt hw) W33 5 rfl (Nat.le_of_ble_eq_true rfl)
  have N33 := Fr.snoc X33 N25 ga
  have Z33 : n0 ≤ h33.size := Nat.le_trans Z27 (Keep.of_wr W33).1
  have K33 : Keep h0 h33 [a] := K27.wr W33 (Or.inl (List.mem_of_getElem? (i := 0) rfl))
  show OEnds p e below s _ _ _ (T33.setTop (mkF m 52 #[.val (.ref a)] []))
  refine own_by (fun _ k => XS.aloadN X33.here hx rfl (hb hby d1_52) rfl rfl k) ?_
  show OEnds p e below s _ _ _ (T33.setTop (mkF m 53 #[.val (.ref a)] [(.ref a)]))
  refine own_by (fun _ k => XS.bipush X33.here hx rfl (hb hby d1_53) k) ?_
  show OEnds p e below s _ _ _ (T33.setTop (mkF m 55 #[.val (.ref a)] [(.int (32 : Int32)), (.ref a)]))
  obtain ⟨T35, h35, k35, X35, e35, E35, A35, st35⟩ := newP X33 hx hZ (hw _ (List.mem_of_getElem? (i := 15) rfl)) e33 (g := (mkF m 55 #[.val (.ref a)] [(.int (32 : Int32)), (.ref a)])) rfl (hb hby d1_55) rfl (by decide) (cap := 32) (by decide) (by decide) (by decide) (by decide)
  obtain ⟨nb35, g35⟩ : ∃ z, z = h33.size := ⟨_, rfl⟩
  rw [← g35] at A35 st35
  refine own_by (st35) ?_
  have F36 : FA Z h33 nb2 .long 64 (fun i => .long ((fun _ => (0 : Int64)) i)) := ((F28.ext E27).other W33 (Ne.symm (Nat.ne_of_lt (Nat.lt_of_lt_of_le O0.lt (Nat.le_of_eq g2.symm)))))
  have F37 : FA Z h33 nb5 .long 64 (fun i => .long ((fun _ => (0 : Int64)) i)) := ((F29.ext E27).other W33 (Ne.symm (Nat.ne_of_lt (Nat.lt_of_lt_of_le O3.lt (Nat.le_of_eq g5.symm)))))
  have F38 : FA Z h33 nb9 .int 16 (fun i => .int ((fun _ => (0 : Int32)) i)) := ((F30.ext E27).other W33 (Ne.symm (Nat.ne_of_lt (Nat.lt_of_lt_of_le O7.lt (Nat.le_of_eq g9.symm)))))
  have F39 : FA Z h33 nb14 .int 16 (fun i => .int ((fun _ => (0 : Int32)) i)) := ((F31.ext E27).other W33 (Ne.symm (Nat.ne_of_lt (Nat.lt_of_lt_of_le O12.lt (Nat.le_of_eq g14.symm)))))
  have F40 : FA Z h33 nb20 .int 16 (fun i => .int ((fun _ => (0 : Int32)) i)) := ((F32.ext E27).other W33 (Ne.symm (Nat.ne_of_lt (Nat.lt_of_lt_of_le O18.lt (Nat.le_of_eq g20.symm)))))
  have F41 : FA Z h33 nb27 .int 96 (fun i => .int ((fun _ => (0 : Int32)) i)) := (F27.other W33 (Ne.symm (Nat.ne_of_lt (Nat.lt_of_lt_of_le O25.lt (Nat.le_of_eq g27.symm)))))
  have lt_nb35 : nb27 < nb35 := Nat.lt_of_lt_of_le F41.lt (Nat.le_of_eq g35.symm)
  have g_nb35 : n0 ≤ nb35 := Nat.le_trans Z33 (Nat.le_of_eq g35.symm)
  have sz_nb35 : h0.size ≤ nb35 := Nat.le_trans K33.1 (Nat.le_of_eq g35.symm)
  have K35 : Keep h0 h35 [a] := K33.ext E35
  have Z35 : n0 ≤ h35.size := Nat.le_trans Z33 E35.1
  have F35 : FA Z h35 nb35 .int 32 (fun i => .int ((fun _ => (0 : Int32)) i)) := FA.new A35 (by decide) (by decide) rfl
  show OEnds p e below s _ _ _ (T35.setTop (mkF m 57 #[.val (.ref a)] [(.ref nb35), (.ref a)]))
  have O43 : Obj Z h35 a "com/example/graphweft/graphweft/RangeMaxTree" sch_rt [(.ref nb2), (.ref nb5), (.ref nb9), (.ref nb14), (.ref nb20), (.ref nb27), .null, (.int (0 : Int32)), (.int (0 : Int32)), (.int (0 : Int32)), (.int (0 : Int32)), (.int (0 : Int32)), (.int (0 : Int32)), (.int (0 : Int32)), (.int (0 : Int32)), (.long (0 : Int64)), (.int (0 : Int32)), (.int (0 : Int32)), (.int (0 : Int32))] := (O33.ext E35)
  obtain ⟨T42, h42, X42, e42, W42, st42⟩ := putF X35 hx hZ hown (host := "") (Or.inl (hw _ (List.mem_of_getElem? (i := 24) rfl))) Via.refl e35 (O43.fld 6 rfl rfl) O43.exa (Or.inr ⟨(hw _ (List.mem_of_getElem? (i := 25) rfl)), rfl, hnm⟩) (hw _ (List.mem_of_getElem? (i := 2) rfl)) (ty := (.array .int)) (by decide) rfl rfl (g := (mkF m 57 #[.val (.ref a)] [(.ref nb35), (.ref a)])) rfl rfl (hb hby d1_57)
  refine own_by (st42) ?_
  have O42 : Obj Z h42 a "com/example/graphweft/graphweft/RangeMaxTree" sch_rt [(.ref nb2), (.ref nb5), (.ref nb9), (.ref nb14), (.ref nb20), (.ref nb27), (.ref nb35), (.int (0 : Int32)), (.int (0 : Int32)), (.int (0 : Int32)), (.int (0 : Int32)), (.int (0 : Int32)), (.int (0 : Int32)), (.int (0 : Int32)), (.int (0 : Int32)), (.long (0 : Int64)), (.int (0 : Int32)), (.int (0 : Int32)), (.int (0 : Int32))] := O43.set (so_sch_rt hw) W42 6 rfl (Nat.le_of_ble_eq_true rfl)
  have N42 := Fr.snoc X42 N33 ga
  have Z42 : n0 ≤ h42.size := Nat.le_trans Z35 (Keep.of_wr W42).1
  have K42 : Keep h0 h42 [a] := K35.wr W42 (Or.inl (List.mem_of_getElem? (i := 0) rfl))
  show OEnds p e below s _ _ _ (T42.setTop (mkF m 60 #[.val (.ref a)] []))
  have F44 : FA Z h42 nb2 .long 64 (fun i => .long ((fun _ => (0 : Int64)) i)) := ((F36.ext E35).other W42 (Ne.symm (Nat.ne_of_lt (Nat.lt_of_lt_of_le O0.lt (Nat.le_of_eq g2.symm)))))
  have F45 : FA Z h42 nb5 .long 64 (fun i => .long ((fun _ => (0 : Int64)) i)) := ((F37.ext E35).other W42 (Ne.symm (Nat.ne_of_lt (Nat.lt_of_lt_of_le O3.lt (Nat.le_of_eq g5.symm)))))
  have F46 : FA Z h42 nb9 .int 16 (fun i => .int ((fun _ => (0 : Int32)) i)) := ((F38.ext E35).other W42 (Ne.symm (Nat.ne_of_lt (Nat.lt_of_lt_of_le O7.lt (Nat.le_of_eq g9.symm)))))
  have F47 : FA Z h42 nb14 .int 16 (fun i => .int ((fun _ => (0 : Int32)) i)) := ((F39.ext E35).other W42 (Ne.symm (Nat.ne_of_lt (Nat.lt_of_lt_of_le O12.lt (Nat.le_of_eq g14.symm)))))
  have F48 : FA Z h42 nb20 .int 16 (fun i => .int ((fun _ => (0 : Int32)) i)) := ((F40.ext E35).other W42 (Ne.symm (Nat.ne_of_lt (Nat.lt_of_lt_of_le O18.lt (Nat.le_of_eq g20.symm)))))
  have F49 : FA Z h42 nb27 .int 96 (fun i => .int ((fun _ => (0 : Int32)) i)) := ((F41.ext E35).other W42 (Ne.symm (Nat.ne_of_lt (Nat.lt_of_lt_of_le O25.lt (Nat.le_of_eq g27.symm)))))
  have F50 : FA Z h42 nb35 .int 32 (fun i => .int ((fun _ => (0 : Int32)) i)) := (F35.other W42 (Ne.symm (Nat.ne_of_lt (Nat.lt_of_lt_of_le O33.lt (Nat.le_of_eq g35.symm)))))
  exact own_retV X42 hx hlk Bd.returns (hb hby d1_60) (by rw [e42]; exact ⟨rfl, N42, K42, nb2, nb5, nb9, nb14, nb20, nb27, nb35, ⟨(Nat.lt_of_lt_of_le O0.lt sz_nb2), lt_nb5, lt_nb9, lt_nb14, lt_nb20, lt_nb27, lt_nb35⟩, ⟨g_nb2, g_nb5, g_nb9, g_nb14, g_nb20, g_nb27, g_nb35⟩, O42, F44, F45, F46, F47, F48, F49, F50⟩) (by decide) (by decide)
theorem d9_0 : decode prog_32_method_4_code 0 = .ok (.aload_n 0, 1) := by decide +kernel
theorem d9_1 : decode prog_32_method_4_code 1 = .ok (.getfield 32, 3) := by decide +kernel
theorem d9_4 : decode prog_32_method_4_code 4 = .ok (.aload_n 0, 1) := by decide +kernel
theorem d9_5 : decode prog_32_method_4_code 5 = .ok (.getfield 7, 3) := by decide +kernel
theorem d9_8 : decode prog_32_method_4_code 8 = .ok (.arraylength, 1) := by decide +kernel
theorem d9_9 : decode prog_32_method_4_code 9 = .ok (.if_icmp .ne 20, 3) := by decide +kernel
theorem d9_29 : decode prog_32_method_4_code 29 = .ok (.aload_n 0, 1) := by decide +kernel
theorem d9_30 : decode prog_32_method_4_code 30 = .ok (.getfield 7, 3) := by decide +kernel
theorem d9_33 : decode prog_32_method_4_code 33 = .ok (.aload_n 0, 1) := by decide +kernel
theorem d9_34 : decode prog_32_method_4_code 34 = .ok (.dup, 1) := by decide +kernel
theorem d9_35 : decode prog_32_method_4_code 35 = .ok (.getfield 32, 3) := by decide +kernel
theorem d9_38 : decode prog_32_method_4_code 38 = .ok (.dup_x1, 1) := by decide +kernel
theorem d9_39 : decode prog_32_method_4_code 39 = .ok (.iconst 1, 1) := by decide +kernel
theorem d9_40 : decode prog_32_method_4_code 40 = .ok (.iadd, 1) := by decide +kernel
theorem d9_41 : decode prog_32_method_4_code 41 = .ok (.putfield 32, 3) := by decide +kernel
theorem d9_44 : decode prog_32_method_4_code 44 = .ok (.lload_n 1, 1) := by decide +kernel
theorem d9_45 : decode prog_32_method_4_code 45 = .ok (.lastore, 1) := by decide +kernel
theorem d9_46 : decode prog_32_method_4_code 46 = .ok (.return_, 1) := by decide +kernel
theorem pn_9 : plainName "com/example/graphweft/graphweft/RangeMaxTree" = true := by first | (simp [plainName, overriddenIn]; done) | decide +kernel
theorem ef_9 (m : MethodId) (x0 : Addr) (x1 : Int64) : entryFrame m #[(.ref x0), (.long x1)] 3 = mkF m 0 #[.val (.ref x0), .val (.long x1), .second] [] := by first | (simp [entryFrame, mkF, argsToLocals, Value.category]; done) | rfl
def Q_add_0 (Z : State) (a : Addr) (vv : Int64) (b1 : Addr) (b2 : Addr) (b3 : Addr) (b4 : Addr) (b5 : Addr) (b6 : Addr) (b7 : Addr) (nc : Int32) (sc : Int32) (te : Int32) (ta : Int32) (se : Int32) (sa : Int32) (pn : Int32) (bd : Int64) (ss : Int32) (bs : Int32) (bc : Int32) (g1 : Nat → Int64) (h0 : Heap) (n0 : Nat) (r : Option Value) (h : Heap) (L : List Loc) : Prop := r = none ∧ Fr n0 L ∧ Keep h0 h [a, b1] ∧ Obj Z h a "com/example/graphweft/graphweft/RangeMaxTree" sch_rt [(.ref b1), (.ref b2), (.ref b3), (.ref b4), (.ref b5), (.ref b6), (.ref b7), (.int (1 : Int32)), (.int nc), (.int sc), (.int te), (.int ta), (.int se), (.int sa), (.int pn), (.long bd), (.int ss), (.int bs), (.int bc)] ∧ FA Z h b1 .long 64 (fun i => .long ((updL g1 0 vv) i))
set_option maxRecDepth 65536 in
set_option maxHeartbeats 40000000 in
theorem rm_add_0 (l : Launch) (Z : State) (a0 : Array Value) (hw : ∀ d ∈ tables_1, d.before a0 Z = true) (ws : List Jvm.Cond) (a : Addr) (vv : Int64) (b1 : Addr) (b2 : Addr) (b3 : Addr) (b4 : Addr) (b5 : Addr) (b6 : Addr) (b7 : Addr) (nc : Int32) (sc : Int32) (te : Int32) (ta : Int32) (se : Int32) (sa : Int32) (pn : Int32) (bd : Int64) (ss : Int32) (bs : Int32) (bc : Int32) (g1 : Nat → Int64) (h0 : Heap) (n0 : Nat) (Z0 : n0 ≤ h0.size) (O0 : Obj Z h0 a "com/example/graphweft/graphweft/RangeMaxTree" sch_rt [(.ref b1), (.ref b2), (.ref b3), (.ref b4), (.ref b5), (.ref b6), (.ref b7), (.int (0 : Int32)), (.int nc), (.int sc), (.int te), (.int ta), (.int se), (.int sa), (.int pn), (.long bd), (.int ss), (.int bs), (.int bc)]) (F_b1 : FA Z h0 b1 .long 64 (fun i => .long (g1 i))) (g_a : n0 ≤ a) (g_b1 : n0 ≤ b1) (hord : @LT.lt Nat instLTNat a b1 ∧ @LT.lt Nat instLTNat b1 b2 ∧ @LT.lt Nat instLTNat b2 b3 ∧ @LT.lt Nat instLTNat b3 b4 ∧ @LT.lt Nat instLTNat b4 b5 ∧ @LT.lt Nat instLTNat b5 b6 ∧ @LT.lt Nat instLTNat b6 b7) :
    MetFree l (⟨"com/example/graphweft/graphweft/RangeMaxTree", "add", "(J)V"⟩ : MethodName) (head1 (Jvm.Cond.code (⟨"com/example/graphweft/graphweft/RangeMaxTree", "add", "(J)V"⟩ : MethodName) prog_32_method_4_code 3 none :: ws) ({ frames := 0, cells := 0, slots := 0, locals := 0 } : Room)) (fun a_ U => a_ = #[(.ref a), (.long vv)] ∧ Z.Warmed39 U.vm ∧ U.heap = h0) (fun _ _ _ _ _ => True) (fun _ U o U' => ∃ v_ L_, o = .returned v_ ∧ Q_add_0 Z a vv b1 b2 b3 b4 b5 b6 b7 nc sc te ta se sa pn bd ss bs bc g1 h0 n0 v_ U'.heap L_ ∧ FrameEnd U o U' L_ ({ frames := 0, cells := 0, slots := 0, locals := 0 } : Room).cells ({ frames := 0, cells := 0, slots := 0, locals := 0 } : Room).slots) := by
  refine MetFree.of_bodySF (plainFor_of_name pn_9) hisR ?_
  intro p e s m args below meth c s₁ Bd hml0 hP hK
  obtain ⟨rfl, hZ, hh⟩ := hP
  have hx := Bd.exec
  have hby := Bd.bytes
  have hlk : meth.locks = false := Bd.notSynchronized
  have hml : c.maxLocals = 3 := hml0
  have hown : s.vm.findClass "com/example/graphweft/graphweft/RangeMaxTree" = some m.cls := findClass_of_methodNamed Bd.named
  have hnm := (name_of_methodNamed Bd.named Bd.method).1
  have X0 : Stand p l e ({ frames := 0, cells := 0, slots := 0, locals := 0 } : Room) s m #[(.ref a), (.long vv)] below meth c s₁ [] 0 0 := Stand.of_body Bd
  have e0 : s₁.heap = h0 := by rw [← hh, Bd.state]; rfl
  have N0 := Fr.nil n0
  have K0 : Keep h0 h0 [a, b1] := Keep.refl _ _
  show OEnds p e below s (Q_add_0 Z a vv b1 b2 b3 b4 b5 b6 b7 nc sc te ta se sa pn bd ss bs bc g1 h0 n0) _ _ _
  refine own_by (fun t k => castTop (ef_9 m a vv) k) ?_
  show OEnds p e below s _ _ _ (s₁.setTop (mkF m 0 #[.val (.ref a), .val (.long vv), .second] []))
  refine own_by (fun _ k => XS.aloadN X0.here hx rfl (hb hby d9_0) rfl rfl k) ?_
  show OEnds p e below s _ _ _ (s₁.setTop (mkF m 1 #[.val (.ref a), .val (.long vv), .second] [(.ref a)]))
  obtain ⟨T1, X1, e1, st1⟩ := getF X0 hx hZ hown (host := "") (Or.inl (hw _ (List.mem_of_getElem? (i := 31) rfl))) Via.refl e0 (O0.fld 7 rfl rfl) (g := (mkF m 1 #[.val (.ref a), .val (.long vv), .second] [(.ref a)])) rfl rfl (hb hby d9_1)
  refine own_by (st1) ?_
  show OEnds p e below s _ _ _ (T1.setTop (mkF m 4 #[.val (.ref a), .val (.long vv), .second] [(.int (0 : Int32))]))
  refine own_by (fun _ k => XS.aloadN X1.here hx rfl (hb hby d9_4) rfl rfl k) ?_
  show OEnds p e below s _ _ _ (T1.setTop (mkF m 5 #[.val (.ref a), .val (.long vv), .second] [(.ref a), (.int (0 : Int32))]))
  obtain ⟨T2, X2, e2, st2⟩ := getF X1 hx hZ hown (host := "") (Or.inl (hw _ (List.mem_of_getElem? (i := 11) rfl))) Via.refl e1 (O0.fld 0 rfl rfl) (g := (mkF m 5 #[.val (.ref a), .val (.long vv), .second] [(.ref a), (.int (0 : Int32))])) rfl rfl (hb hby d9_5)
  refine own_by (st2) ?_
  show OEnds p e below s _ _ _ (T2.setTop (mkF m 8 #[.val (.ref a), .val (.long vv), .second] [(.ref b1), (.int (0 : Int32))]))
  refine own_by (own_len X2 hx hZ e2 F_b1 (z := (64 : Int32)) (by decide) (g := (mkF m 8 #[.val (.ref a), .val (.long vv), .second] [(.ref b1), (.int (0 : Int32))])) rfl rfl (hb hby d9_8)) ?_
  show OEnds p e below s _ _ _ (T2.setTop (mkF m 9 #[.val (.ref a), .val (.long vv), .second] [(.int (64 : Int32)), (.int (0 : Int32))]))
  refine own_by (fun _ k => XS.icmpYes X2.here hx rfl (pc0 := 9) (pc' := 29) rfl (hb hby d9_9) rfl (feq (by decide : ¬ ((0 : Int32) = (64 : Int32)))).2 (by decide) (by decide) k) ?_
  show OEnds p e below s _ _ _ (T2.setTop (mkF m 29 #[.val (.ref a), .val (.long vv), .second] []))
  refine own_by (fun _ k => XS.aloadN X2.here hx rfl (hb hby d9_29) rfl rfl k) ?_
  show OEnds p e below s _ _ _ (T2.setTop (mkF m 30 #[.val (.ref a), .val (.long vv), .second] [(.ref a)]))
  obtain ⟨T3, X3, e3, st3⟩ := getF X2 hx hZ hown (host := "") (Or.inl (hw _ (List.mem_of_getElem? (i := 11) rfl))) Via.refl e2 (O0.fld 0 rfl rfl) (g := (mkF m 30 #[.val (.ref a), .val (.long vv), .second] [(.ref a)])) rfl rfl (hb hby d9_30)
  refine own_by (st3) ?_
  show OEnds p e below s _ _ _ (T3.setTop (mkF m 33 #[.val (.ref a), .val (.long vv), .second] [(.ref b1)]))
  refine own_by (fun _ k => XS.aloadN X3.here hx rfl (hb hby d9_33) rfl rfl k) ?_
  show OEnds p e below s _ _ _ (T3.setTop (mkF m 34 #[.val (.ref a), .val (.long vv), .second] [(.ref a), (.ref b1)]))
  refine own_by (fun _ k => XS.dup X3.here hx rfl (hb hby d9_34) rfl rfl k) ?_
  show OEnds p e below s _ _ _ (T3.setTop (mkF m 35 #[.val (.ref a), .val (.long vv), .second] [(.ref a), (.ref a), (.ref b1)]))
  obtain ⟨T4, X4, e4, st4⟩ := getF X3 hx hZ hown (host := "") (Or.inl (hw _ (List.mem_of_getElem? (i := 31) rfl))) Via.refl e3 (O0.fld 7 rfl rfl) (g := (mkF m 35 #[.val (.ref a), .val (.long vv), .second] [(.ref a), (.ref a), (.ref b1)])) rfl rfl (hb hby d9_35)
  refine own_by (st4) ?_
  show OEnds p e below s _ _ _ (T4.setTop (mkF m 38 #[.val (.ref a), .val (.long vv), .second] [(.int (0 : Int32)), (.ref a), (.ref b1)]))
  refine own_by (fun _ k => XS.dupX1 X4.here hx rfl (hb hby d9_38) rfl rfl rfl k) ?_
  show OEnds p e below s _ _ _ (T4.setTop (mkF m 39 #[.val (.ref a), .val (.long vv), .second] [(.int (0 : Int32)), (.ref a), (.int (0 : Int32)), (.ref b1)]))
  refine own_by (fun _ k => XS.iconst X4.here hx rfl (hb hby d9_39) k) ?_
  show OEnds p e below s _ _ _ (T4.setTop (mkF m 40 #[.val (.ref a), .val (.long vv), .second] [(.int (1 : Int32)), (.int (0 : Int32)), (.ref a), (.int (0 : Int32)), (.ref b1)]))
  refine own_by (fun _ k => XS.iadd X4.here hx rfl (hb hby d9_40) rfl k) ?_
  show OEnds p e below s _ _ _ (T4.setTop (mkF m 41 #[.val (.ref a), .val (.long vv), .second] [(.int (1 : Int32)), (.ref a), (.int (0 : Int32)), (.ref b1)]))
  obtain ⟨T5, h5, X5, e5, W5, st5⟩ := putF X4 hx hZ hown (host := "") (Or.inl (hw _ (List.mem_of_getElem? (i := 31) rfl))) Via.refl e4 (O0.fld 7 rfl rfl) O0.exa (Or.inl (hw _ (List.mem_of_getElem? (i := 32) rfl))) (hw _ (List.mem_of_getElem? (i := 2) rfl)) (ty := .int) (by decide) rfl rfl (g := (mkF m 41 #[.val (.ref a), .val (.long vv), .second] [(.int (1 : Int32)), (.ref a), (.int (0 : Int32)), (.ref b1)])) rfl rfl (hb hby d9_41)
  refine own_by (st5) ?_
  have O5 : Obj Z h5 a "com/example/graphweft/graphweft/RangeMaxTree" sch_rt [(.ref b1), (.ref b2), (.ref b3), (.ref b4), (.ref b5), (.ref b6), (.ref b7), (.int (1 : Int32)), (.int nc), (.int sc), (.int te), (.int ta), (.int se), (.int sa), (.int pn), (.long bd), (.int ss), (.int bs), (.int bc)] := O0.set (so_sch_rt hw) W5 7 rfl (Nat.le_of_ble_eq_true rfl)
  have N5 := Fr.snoc X5 N0 g_a
  have Z5 : n0 ≤ h5.size := Nat.le_trans Z0 (Keep.of_wr W5).1
  have K5 : Keep h0 h5 [a, b1] := K0.wr W5 (Or.inl (List.mem_of_getElem? (i := 0) rfl))
  show OEnds p e below s _ _ _ (T5.setTop (mkF m 44 #[.val (.ref a), .val (.long vv), .second] [(.int (0 : Int32)), (.ref b1)]))
  refine own_by (fun _ k => XS.lloadN X5.here hx rfl (hb hby d9_44) rfl k) ?_
  show OEnds p e below s _ _ _ (T5.setTop (mkF m 45 #[.val (.ref a), .val (.long vv), .second] [(.long vv), (.int (0 : Int32)), (.ref b1)]))
  have F7 : FA Z h5 b1 .long 64 (fun i => .long (g1 i)) := (F_b1.other W5 (Ne.symm (Nat.ne_of_lt (by omega))))
  obtain ⟨T6, h6, X6, e6, W6, st6⟩ := own_lastore X5 hx hZ e5 F7 0 (by decide) (by decide) (g := (mkF m 45 #[.val (.ref a), .val (.long vv), .second] [(.long vv), (.int (0 : Int32)), (.ref b1)])) rfl rfl (hb hby d9_45)
  refine own_by (st6) ?_
  have F6 : FA Z h6 b1 .long 64 (fun i => .long ((updL g1 0 vv) i)) := F7.setL W6
  have N6 := Fr.snoc X6 N5 g_b1
  have Z6 : n0 ≤ h6.size := Nat.le_trans Z5 (Keep.of_wr W6).1
  have K6 : Keep h0 h6 [a, b1] := K5.wr W6 (Or.inl (List.mem_of_getElem? (i := 1) rfl))
  show OEnds p e below s _ _ _ (T6.setTop (mkF m 46 #[.val (.ref a), .val (.long vv), .second] []))
  have O8 : Obj Z h6 a "com/example/graphweft/graphweft/RangeMaxTree" sch_rt [(.ref b1), (.ref b2), (.ref b3), (.ref b4), (.ref b5), (.ref b6), (.ref b7), (.int (1 : Int32)), (.int nc), (.int sc), (.int te), (.int ta), (.int se), (.int sa), (.int pn), (.long bd), (.int ss), (.int bs), (.int bc)] := (O5.other W6 (Nat.ne_of_lt (by omega)))
  exact own_retV X6 hx hlk Bd.returns (hb hby d9_46) (by rw [e6]; exact ⟨rfl, N6, K6, O8, F6⟩) (by decide) (by decide)
def Q_add_1 (Z : State) (a : Addr) (vv : Int64) (b1 : Addr) (b2 : Addr) (b3 : Addr) (b4 : Addr) (b5 : Addr) (b6 : Addr) (b7 : Addr) (nc : Int32) (sc : Int32) (te : Int32) (ta : Int32) (se : Int32) (sa : Int32) (pn : Int32) (bd : Int64) (ss : Int32) (bs : Int32) (bc : Int32) (g1 : Nat → Int64) (h0 : Heap) (n0 : Nat) (r : Option Value) (h : Heap) (L : List Loc) : Prop := r = none ∧ Fr n0 L ∧ Keep h0 h [a, b1] ∧ Obj Z h a "com/example/graphweft/graphweft/RangeMaxTree" sch_rt [(.ref b1), (.ref b2), (.ref b3), (.ref b4), (.ref b5), (.ref b6), (.ref b7), (.int (2 : Int32)), (.int nc), (.int sc), (.int te), (.int ta), (.int se), (.int sa), (.int pn), (.long bd), (.int ss), (.int bs), (.int bc)] ∧ FA Z h b1 .long 64 (fun i => .long ((updL g1 1 vv) i))
set_option maxRecDepth 65536 in
set_option maxHeartbeats 40000000 in
theorem rm_add_1 (l : Launch) (Z : State) (a0 : Array Value) (hw : ∀ d ∈ tables_1, d.before a0 Z = true) (ws : List Jvm.Cond) (a : Addr) (vv : Int64) (b1 : Addr) (b2 : Addr) (b3 : Addr) (b4 : Addr) (b5 : Addr) (b6 : Addr) (b7 : Addr) (nc : Int32) (sc : Int32) (te : Int32) (ta : Int32) (se : Int32) (sa : Int32) (pn : Int32) (bd : Int64) (ss : Int32) (bs : Int32) (bc : Int32) (g1 : Nat → Int64) (h0 : Heap) (n0 : Nat) (Z0 : n0 ≤ h0.size) (O0 : Obj Z h0 a "com/example/graphweft/graphweft/RangeMaxTree" sch_rt [(.ref b1), (.ref b2), (.ref b3), (.ref b4), (.ref b5), (.ref b6), (.ref b7), (.int (1 : Int32)), (.int nc), (.int sc), (.int te), (.int ta), (.int se), (.int sa), (.int pn), (.long bd), (.int ss), (.int bs), (.int bc)]) (F_b1 : FA Z h0 b1 .long 64 (fun i => .long (g1 i))) (g_a : n0 ≤ a) (g_b1 : n0 ≤ b1) (hord : @LT.lt Nat instLTNat a b1 ∧ @LT.lt Nat instLTNat b1 b2 ∧ @LT.lt Nat instLTNat b2 b3 ∧ @LT.lt Nat instLTNat b3 b4 ∧ @LT.lt Nat instLTNat b4 b5 ∧ @LT.lt Nat instLTNat b5 b6 ∧ @LT.lt Nat instLTNat b6 b7) :
    MetFree l (⟨"com/example/graphweft/graphweft/RangeMaxTree", "add", "(J)V"⟩ : MethodName) (head1 (Jvm.Cond.code (⟨"com/example/graphweft/graphweft/RangeMaxTree", "add", "(J)V"⟩ : MethodName) prog_32_method_4_code 3 none :: ws) ({ frames := 0, cells := 0, slots := 0, locals := 0 } : Room)) (fun a_ U => a_ = #[(.ref a), (.long vv)] ∧ Z.Warmed39 U.vm ∧ U.heap = h0) (fun _ _ _ _ _ => True) (fun _ U o U' => ∃ v_ L_, o = .returned v_ ∧ Q_add_1 Z a vv b1 b2 b3 b4 b5 b6 b7 nc sc te ta se sa pn bd ss bs bc g1 h0 n0 v_ U'.heap L_ ∧ FrameEnd U o U' L_ ({ frames := 0, cells := 0, slots := 0, locals := 0 } : Room).cells ({ frames := 0, cells := 0, slots := 0, locals := 0 } : Room).slots) := by
  refine MetFree.of_bodySF (plainFor_of_name pn_9) hisR ?_
  intro p e s m args below meth c s₁ Bd hml0 hP hK
  obtain ⟨rfl, hZ, hh⟩ := hP
  have hx := Bd.exec
  have hby := Bd.bytes
  have hlk : meth.locks = false := Bd.notSynchronized
  have hml : c.maxLocals = 3 := hml0
  have hown : s.vm.findClass "com/example/graphweft/graphweft/RangeMaxTree" = some m.cls := findClass_of_methodNamed Bd.named
  have hnm := (name_of_methodNamed Bd.named Bd.method).1
  have X0 : Stand p l e ({ frames := 0, cells := 0, slots := 0, locals := 0 } : Room) s m #[(.ref a), (.long vv)] below meth c s₁ [] 0 0 := Stand.of_body Bd
  have e0 : s₁.heap = h0 := by rw [← hh, Bd.state]; rfl
  have N0 := Fr.nil n0
  have K0 : Keep h0 h0 [a, b1] := Keep.refl _ _
  show OEnds p e below s (Q_add_1 Z a vv b1 b2 b3 b4 b5 b6 b7 nc sc te ta se sa pn bd ss bs bc g1 h0 n0) _ _ _
  refine own_by (fun t k => castTop (ef_9 m a vv) k) ?_
  show OEnds p e below s _ _ _ (s₁.setTop (mkF m 0 #[.val (.ref a), .val (.long vv), .second] []))
  refine own_by (fun _ k => XS.aloadN X0.here hx rfl (hb hby d9_0) rfl rfl k) ?_
  show OEnds p e below s _ _ _ (s₁.setTop (mkF m 1 #[.val (.ref a), .val (.long vv), .second] [(.ref a)]))
  obtain ⟨T1, X1, e1, st1⟩ := getF X0 hx hZ hown (host := "") (Or.inl (hw _ (List.mem_of_getElem? (i := 31) rfl))) Via.refl e0 (O0.fld 7 rfl rfl) (g := (mkF m 1 #[.val (.ref a), .val (.long vv), .second] [(.ref a)])) rfl rfl (hb hby d9_1)
  refine own_by (st1) ?_
  show OEnds p e below s _ _ _ (T1.setTop (mkF m 4 #[.val (.ref a), .val (.long vv), .second] [(.int (1 : Int32))]))
  refine own_by (fun _ k => XS.aloadN X1.here hx rfl (hb hby d9_4) rfl rfl k) ?_
  show OEnds p e below s _ _ _ (T1.setTop (mkF m 5 #[.val (.ref a), .val (.long vv), .second] [(.ref a), (.int (1 : Int32))]))
  obtain ⟨T2, X2, e2, st2⟩ := getF X1 hx hZ hown (host := "") (Or.inl (hw _ (List.mem_of_getElem? (i := 11) rfl))) Via.refl e1 (O0.fld 0 rfl rfl) (g := (mkF m 5 #[.val (.ref a), .val (.long vv), .second] [(.ref a), (.int (1 : Int32))])) rfl rfl (hb hby d9_5)
  refine own_by (st2) ?_
  show OEnds p e below s _ _ _ (T2.setTop (mkF m 8 #[.val (.ref a), .val (.long vv), .second] [(.ref b1), (.int (1 : Int32))]))
  refine own_by (own_len X2 hx hZ e2 F_b1 (z := (64 : Int32)) (by decide) (g := (mkF m 8 #[.val (.ref a), .val (.long vv), .second] [(.ref b1), (.int (1 : Int32))])) rfl rfl (hb hby d9_8)) ?_
  show OEnds p e below s _ _ _ (T2.setTop (mkF m 9 #[.val (.ref a), .val (.long vv), .second] [(.int (64 : Int32)), (.int (1 : Int32))]))
  refine own_by (fun _ k => XS.icmpYes X2.here hx rfl (pc0 := 9) (pc' := 29) rfl (hb hby d9_9) rfl (feq (by decide : ¬ ((1 : Int32) = (64 : Int32)))).2 (by decide) (by decide) k) ?_
  show OEnds p e below s _ _ _ (T2.setTop (mkF m 29 #[.val (.ref a), .val (.long vv), .second] []))
  refine own_by (fun _ k => XS.aloadN X2.here hx rfl (hb hby d9_29) rfl rfl k) ?_
  show OEnds p e below s _ _ _ (T2.setTop (mkF m 30 #[.val (.ref a), .val (.long vv), .second] [(.ref a)]))
  obtain ⟨T3, X3, e3, st3⟩ := getF X2 hx hZ hown (host := "") (Or.inl (hw _ (List.mem_of_getElem? (i := 11) rfl))) Via.refl e2 (O0.fld 0 rfl rfl) (g := (mkF m 30 #[.val (.ref a), .val (.long vv), .second] [(.ref a)])) rfl rfl (hb hby d9_30)
  refine own_by (st3) ?_
  show OEnds p e below s _ _ _ (T3.setTop (mkF m 33 #[.val (.ref a), .val (.long vv), .second] [(.ref b1)]))
  refine own_by (fun _ k => XS.aloadN X3.here hx rfl (hb hby d9_33) rfl rfl k) ?_
  show OEnds p e below s _ _ _ (T3.setTop (mkF m 34 #[.val (.ref a), .val (.long vv), .second] [(.ref a), (.ref b1)]))
  refine own_by (fun _ k => XS.dup X3.here hx rfl (hb hby d9_34) rfl rfl k) ?_
  show OEnds p e below s _ _ _ (T3.setTop (mkF m 35 #[.val (.ref a), .val (.long vv), .second] [(.ref a), (.ref a), (.ref b1)]))
  obtain ⟨T4, X4, e4, st4⟩ := getF X3 hx hZ hown (host := "") (Or.inl (hw _ (List.mem_of_getElem? (i := 31) rfl))) Via.refl e3 (O0.fld 7 rfl rfl) (g := (mkF m 35 #[.val (.ref a), .val (.long vv), .second] [(.ref a), (.ref a), (.ref b1)])) rfl rfl (hb hby d9_35)
  refine own_by (st4) ?_
  show OEnds p e below s _ _ _ (T4.setTop (mkF m 38 #[.val (.ref a), .val (.long vv), .second] [(.int (1 : Int32)), (.ref a), (.ref b1)]))
  refine own_by (fun _ k => XS.dupX1 X4.here hx rfl (hb hby d9_38) rfl rfl rfl k) ?_
  show OEnds p e below s _ _ _ (T4.setTop (mkF m 39 #[.val (.ref a), .val (.long vv), .second] [(.int (1 : Int32)), (.ref a), (.int (1 : Int32)), (.ref b1)]))
  refine own_by (fun _ k => XS.iconst X4.here hx rfl (hb hby d9_39) k) ?_
  show OEnds p e below s _ _ _ (T4.setTop (mkF m 40 #[.val (.ref a), .val (.long vv), .second] [(.int (1 : Int32)), (.int (1 : Int32)), (.ref a), (.int (1 : Int32)), (.ref b1)]))
  refine own_by (fun _ k => XS.iadd X4.here hx rfl (hb hby d9_40) rfl k) ?_
  show OEnds p e below s _ _ _ (T4.setTop (mkF m 41 #[.val (.ref a), .val (.long vv), .second] [(.int (2 : Int32)), (.ref a), (.int (1 : Int32)), (.ref b1)]))
  obtain ⟨T5, h5, X5, e5, W5, st5⟩ := putF X4 hx hZ hown (host := "") (Or.inl (hw _ (List.mem_of_getElem? (i := 31) rfl))) Via.refl e4 (O0.fld 7 rfl rfl) O0.exa (Or.inl (hw _ (List.mem_of_getElem? (i := 32) rfl))) (hw _ (List.mem_of_getElem? (i := 2) rfl)) (ty := .int) (by decide) rfl rfl (g := (mkF m 41 #[.val (.ref a), .val (.long vv), .second] [(.int (2 : Int32)), (.ref a), (.int (1 : Int32)), (.ref b1)])) rfl rfl (hb hby d9_41)
  refine own_by (st5) ?_
  have O5 : Obj Z h5 a "com/example/graphweft/graphweft/RangeMaxTree" sch_rt [(.ref b1), (.ref b2), (.ref b3), (.ref b4), (.ref b5), (.ref b6), (.ref b7), (.int (2 : Int32)), (.int nc), (.int sc), (.int te), (.int ta), (.int se), (.int sa), (.int pn), (.long bd), (.int ss), (.int bs), (.int bc)] := O0.set (so_sch_rt hw) W5 7 rfl (Nat.le_of_ble_eq_true rfl)
  have N5 := Fr.snoc X5 N0 g_a
  have Z5 : n0 ≤ h5.size := Nat.le_trans Z0 (Keep.of_wr W5).1
  have K5 : Keep h0 h5 [a, b1] := K0.wr W5 (Or.inl (List.mem_of_getElem? (i := 0) rfl))
  show OEnds p e below s _ _ _ (T5.setTop (mkF m 44 #[.val (.ref a), .val (.long vv), .second] [(.int (1 : Int32)), (.ref b1)]))
  refine own_by (fun _ k => XS.lloadN X5.here hx rfl (hb hby d9_44) rfl k) ?_
  show OEnds p e below s _ _ _ (T5.setTop (mkF m 45 #[.val (.ref a), .val (.long vv), .second] [(.long vv), (.int (1 : Int32)), (.ref b1)]))
  have F7 : FA Z h5 b1 .long 64 (fun i => .long (g1 i)) := (F_b1.other W5 (Ne.symm (Nat.ne_of_lt (by omega))))
  obtain ⟨T6, h6, X6, e6, W6, st6⟩ := own_lastore X5 hx hZ e5 F7 1 (by decide) (by decide) (g := (mkF m 45 #[.val (.ref a), .val (.long vv), .second] [(.long vv), (.int (1 : Int32)), (.ref b1)])) rfl rfl (hb hby d9_45)
  refine own_by (st6) ?_
  have F6 : FA Z h6 b1 .long 64 (fun i => .long ((updL g1 1 vv) i)) := F7.setL W6
  have N6 := Fr.snoc X6 N5 g_b1
  have Z6 : n0 ≤ h6.size := Nat.le_trans Z5 (Keep.of_wr W6).1
  have K6 : Keep h0 h6 [a, b1] := K5.wr W6 (Or.inl (List.mem_of_getElem? (i := 1) rfl))
  show OEnds p e below s _ _ _ (T6.setTop (mkF m 46 #[.val (.ref a), .val (.long vv), .second] []))
  have O8 : Obj Z h6 a "com/example/graphweft/graphweft/RangeMaxTree" sch_rt [(.ref b1), (.ref b2), (.ref b3), (.ref b4), (.ref b5), (.ref b6), (.ref b7), (.int (2 : Int32)), (.int nc), (.int sc), (.int te), (.int ta), (.int se), (.int sa), (.int pn), (.long bd), (.int ss), (.int bs), (.int bc)] := (O5.other W6 (Nat.ne_of_lt (by omega)))
  exact own_retV X6 hx hlk Bd.returns (hb hby d9_46) (by rw [e6]; exact ⟨rfl, N6, K6, O8, F6⟩) (by decide) (by decide)
theorem d8_0 : decode jdk_65_method_30_code 0 = .ok (.iload_n 1, 1) := by decide +kernel
theorem d8_1 : decode jdk_65_method_30_code 1 = .ok (.iload_n 2, 1) := by decide +kernel
theorem d8_2 : decode jdk_65_method_30_code 2 = .ok (.if_icmp .le 44, 3) := by decide +kernel
theorem d8_46 : decode jdk_65_method_30_code 46 = .ok (.iload_n 1, 1) := by decide +kernel
theorem d8_47 : decode jdk_65_method_30_code 47 = .ok (.ifCond .ge 12, 3) := by decide +kernel
theorem d8_59 : decode jdk_65_method_30_code 59 = .ok (.iload_n 2, 1) := by decide +kernel
theorem d8_60 : decode jdk_65_method_30_code 60 = .ok (.iload_n 0, 1) := by decide +kernel
theorem d8_61 : decode jdk_65_method_30_code 61 = .ok (.if_icmp .le 12, 3) := by decide +kernel
theorem d8_73 : decode jdk_65_method_30_code 73 = .ok (.return_, 1) := by decide +kernel
theorem pn_8 : plainName "java/util/Arrays" = true := by first | (simp [plainName, overriddenIn]; done) | decide +kernel
theorem ef_8 (m : MethodId) (x0 : Int32) (x1 : Int32) (x2 : Int32) : entryFrame m #[(.int x0), (.int x1), (.int x2)] 3 = mkF m 0 #[.val (.int x0), .val (.int x1), .val (.int x2)] [] := by first | (simp [entryFrame, mkF, argsToLocals, Value.category]; done) | rfl
def Q_rcheck_0_0 (Z : State)  (h0 : Heap) (n0 : Nat) (r : Option Value) (h : Heap) (L : List Loc) : Prop := r = none ∧ Fr n0 L ∧ Keep h0 h []
set_option maxRecDepth 65536 in
set_option maxHeartbeats 40000000 in
theorem rm_rcheck_0_0 (l : Launch) (Z : State) (a0 : Array Value) (hw : ∀ d ∈ tables_1, d.before a0 Z = true) (ws : List Jvm.Cond)  (h0 : Heap) (n0 : Nat) (Z0 : n0 ≤ h0.size) :
    MetFree l (⟨"java/util/Arrays", "rangeCheck", "(III)V"⟩ : MethodName) (head1 (Jvm.Cond.code (⟨"java/util/Arrays", "rangeCheck", "(III)V"⟩ : MethodName) jdk_65_method_30_code 3 none :: ws) ({ frames := 0, cells := 0, slots := 0, locals := 0 } : Room)) (fun a_ U => a_ = #[(.int (64 : Int32)), (.int (0 : Int32)), (.int (0 : Int32))] ∧ Z.Warmed39 U.vm ∧ U.heap = h0) (fun _ _ _ _ _ => True) (fun _ U o U' => ∃ v_ L_, o = .returned v_ ∧ Q_rcheck_0_0 Z  h0 n0 v_ U'.heap L_ ∧ FrameEnd U o U' L_ ({ frames := 0, cells := 0, slots := 0, locals := 0 } : Room).cells ({ frames := 0, cells := 0, slots := 0, locals := 0 } : Room).slots) := by
  refine MetFree.of_bodySF (plainFor_of_name pn_8) hisR ?_
  intro p e s m args below meth c s₁ Bd hml0 hP hK
  obtain ⟨rfl, hZ, hh⟩ := hP
  have hx := Bd.exec
  have hby := Bd.bytes
  have hlk : meth.locks = false := Bd.notSynchronized
  have hml : c.maxLocals = 3 := hml0
  have hown : s.vm.findClass "java/util/Arrays" = some m.cls := findClass_of_methodNamed Bd.named
  have hnm := (name_of_methodNamed Bd.named Bd.method).1
  have X0 : Stand p l e ({ frames := 0, cells := 0, slots := 0, locals := 0 } : Room) s m #[(.int (64 : Int32)), (.int (0 : Int32)), (.int (0 : Int32))] below meth c s₁ [] 0 0 := Stand.of_body Bd
  have e0 : s₁.heap = h0 := by rw [← hh, Bd.state]; rfl
  have N0 := Fr.nil n0
  have K0 : Keep h0 h0 [] := Keep.refl _ _
  show OEnds p e below s (Q_rcheck_0_0 Z  h0 n0) _ _ _
  refine own_by (fun t k => castTop (ef_8 m (64 : Int32) (0 : Int32) (0 : Int32)) k) ?_
  show OEnds p e below s _ _ _ (s₁.setTop (mkF m 0 #[.val (.int (64 : Int32)), .val (.int (0 : Int32)), .val (.int (0 : Int32))] []))
  refine own_by (fun _ k => XS.iloadN X0.here hx rfl (hb hby d8_0) rfl k) ?_
  show OEnds p e below s _ _ _ (s₁.setTop (mkF m 1 #[.val (.int (64 : Int32)), .val (.int (0 : Int32)), .val (.int (0 : Int32))] [(.int (0 : Int32))]))
  refine own_by (fun _ k => XS.iloadN X0.here hx rfl (hb hby d8_1) rfl k) ?_
  show OEnds p e below s _ _ _ (s₁.setTop (mkF m 2 #[.val (.int (64 : Int32)), .val (.int (0 : Int32)), .val (.int (0 : Int32))] [(.int (0 : Int32)), (.int (0 : Int32))]))
  refine own_by (fun _ k => XS.icmpYes X0.here hx rfl (pc0 := 2) (pc' := 46) rfl (hb hby d8_2) rfl (flt (by decide : ¬ ((0 : Int32) < (0 : Int32)))).2.2.2 (by decide) (by decide) k) ?_
  show OEnds p e below s _ _ _ (s₁.setTop (mkF m 46 #[.val (.int (64 : Int32)), .val (.int (0 : Int32)), .val (.int (0 : Int32))] []))
  refine own_by (fun _ k => XS.iloadN X0.here hx rfl (hb hby d8_46) rfl k) ?_
  show OEnds p e below s _ _ _ (s₁.setTop (mkF m 47 #[.val (.int (64 : Int32)), .val (.int (0 : Int32)), .val (.int (0 : Int32))] [(.int (0 : Int32))]))
  refine own_by (fun _ k => XS.ifYes X0.here hx rfl (pc0 := 47) (pc' := 59) rfl (hb hby d8_47) rfl ((if0 _ _).trans (flt (by decide : ¬ ((0 : Int32) < (0 : Int32)))).2.1) (by decide) (by decide) k) ?_
  show OEnds p e below s _ _ _ (s₁.setTop (mkF m 59 #[.val (.int (64 : Int32)), .val (.int (0 : Int32)), .val (.int (0 : Int32))] []))
  refine own_by (fun _ k => XS.iloadN X0.here hx rfl (hb hby d8_59) rfl k) ?_
  show OEnds p e below s _ _ _ (s₁.setTop (mkF m 60 #[.val (.int (64 : Int32)), .val (.int (0 : Int32)), .val (.int (0 : Int32))] [(.int (0 : Int32))]))
  refine own_by (fun _ k => XS.iloadN X0.here hx rfl (hb hby d8_60) rfl k) ?_
  show OEnds p e below s _ _ _ (s₁.setTop (mkF m 61 #[.val (.int (64 : Int32)), .val (.int (0 : Int32)), .val (.int (0 : Int32))] [(.int (64 : Int32)), (.int (0 : Int32))]))
  refine own_by (fun _ k => XS.icmpYes X0.here hx rfl (pc0 := 61) (pc' := 73) rfl (hb hby d8_61) rfl (flt (by decide : ¬ ((64 : Int32) < (0 : Int32)))).2.2.2 (by decide) (by decide) k) ?_
  show OEnds p e below s _ _ _ (s₁.setTop (mkF m 73 #[.val (.int (64 : Int32)), .val (.int (0 : Int32)), .val (.int (0 : Int32))] []))
  exact own_retV X0 hx hlk Bd.returns (hb hby d8_73) (by rw [e0]; exact ⟨rfl, N0, K0⟩) (by decide) (by decide)
def Q_rcheck_1_2 (Z : State)  (h0 : Heap) (n0 : Nat) (r : Option Value) (h : Heap) (L : List Loc) : Prop := r = none ∧ Fr n0 L ∧ Keep h0 h []
set_option maxRecDepth 65536 in
set_option maxHeartbeats 40000000 in
theorem rm_rcheck_1_2 (l : Launch) (Z : State) (a0 : Array Value) (hw : ∀ d ∈ tables_1, d.before a0 Z = true) (ws : List Jvm.Cond)  (h0 : Heap) (n0 : Nat) (Z0 : n0 ≤ h0.size) :
    MetFree l (⟨"java/util/Arrays", "rangeCheck", "(III)V"⟩ : MethodName) (head1 (Jvm.Cond.code (⟨"java/util/Arrays", "rangeCheck", "(III)V"⟩ : MethodName) jdk_65_method_30_code 3 none :: ws) ({ frames := 0, cells := 0, slots := 0, locals := 0 } : Room)) (fun a_ U => a_ = #[(.int (64 : Int32)), (.int (1 : Int32)), (.int (2 : Int32))] ∧ Z.Warmed39 U.vm ∧ U.heap = h0) (fun _ _ _ _ _ => True) (fun _ U o U' => ∃ v_ L_, o = .returned v_ ∧ Q_rcheck_1_2 Z  h0 n0 v_ U'.heap L_ ∧ FrameEnd U o U' L_ ({ frames := 0, cells := 0, slots := 0, locals := 0 } : Room).cells ({ frames := 0, cells := 0, slots := 0, locals := 0 } : Room).slots) := by
  refine MetFree.of_bodySF (plainFor_of_name pn_8) hisR ?_
  intro p e s m args below meth c s₁ Bd hml0 hP hK
  obtain ⟨rfl, hZ, hh⟩ := hP
  have hx := Bd.exec
  have hby := Bd.bytes
  have hlk : meth.locks = false := Bd.notSynchronized
  have hml : c.maxLocals = 3 := hml0
  have hown : s.vm.findClass "java/util/Arrays" = some m.cls := findClass_of_methodNamed Bd.named
  have hnm := (name_of_methodNamed Bd.named Bd.method).1
  have X0 : Stand p l e ({ frames := 0, cells := 0, slots := 0, locals := 0 } : Room) s m #[(.int (64 : Int32)), (.int (1 : Int32)), (.int (2 : Int32))] below meth c s₁ [] 0 0 := Stand.of_body Bd
  have e0 : s₁.heap = h0 := by rw [← hh, Bd.state]; rfl
  have N0 := Fr.nil n0
  have K0 : Keep h0 h0 [] := Keep.refl _ _
  show OEnds p e below s (Q_rcheck_1_2 Z  h0 n0) _ _ _
  refine own_by (fun t k => castTop (ef_8 m (64 : Int32) (1 : Int32) (2 : Int32)) k) ?_
  show OEnds p e below s _ _ _ (s₁.setTop (mkF m 0 #[.val (.int (64 : Int32)), .val (.int (1 : Int32)), .val (.int (2 : Int32))] []))
  refine own_by (fun _ k => XS.iloadN X0.here hx rfl (hb hby d8_0) rfl k) ?_
  show OEnds p e below s _ _ _ (s₁.setTop (mkF m 1 #[.val (.int (64 : Int32)), .val (.int (1 : Int32)), .val (.int (2 : Int32))] [(.int (1 : Int32))]))
  refine own_by (fun _ k => XS.iloadN X0.here hx rfl (hb hby d8_1) rfl k) ?_
  show OEnds p e below s _ _ _ (s₁.setTop (mkF m 2 #[.val (.int (64 : Int32)), .val (.int (1 : Int32)), .val (.int (2 : Int32))] [(.int (2 : Int32)), (.int (1 : Int32))]))
  refine own_by (fun _ k => XS.icmpYes X0.here hx rfl (pc0 := 2) (pc' := 46) rfl (hb hby d8_2) rfl (flt (by decide : ¬ ((2 : Int32) < (1 : Int32)))).2.2.2 (by decide) (by decide) k) ?_
  show OEnds p e below s _ _ _ (s₁.setTop (mkF m 46 #[.val (.int (64 : Int32)), .val (.int (1 : Int32)), .val (.int (2 : Int32))] []))
  refine own_by (fun _ k => XS.iloadN X0.here hx rfl (hb hby d8_46) rfl k) ?_
  show OEnds p e below s _ _ _ (s₁.setTop (mkF m 47 #[.val (.int (64 : Int32)), .val (.int (1 : Int32)), .val (.int (2 : Int32))] [(.int (1 : Int32))]))
  refine own_by (fun _ k => XS.ifYes X0.here hx rfl (pc0 := 47) (pc' := 59) rfl (hb hby d8_47) rfl ((if0 _ _).trans (flt (by decide : ¬ ((1 : Int32) < (0 : Int32)))).2.1) (by decide) (by decide) k) ?_
  show OEnds p e below s _ _ _ (s₁.setTop (mkF m 59 #[.val (.int (64 : Int32)), .val (.int (1 : Int32)), .val (.int (2 : Int32))] []))
  refine own_by (fun _ k => XS.iloadN X0.here hx rfl (hb hby d8_59) rfl k) ?_
  show OEnds p e below s _ _ _ (s₁.setTop (mkF m 60 #[.val (.int (64 : Int32)), .val (.int (1 : Int32)), .val (.int (2 : Int32))] [(.int (2 : Int32))]))
  refine own_by (fun _ k => XS.iloadN X0.here hx rfl (hb hby d8_60) rfl k) ?_
  show OEnds p e below s _ _ _ (s₁.setTop (mkF m 61 #[.val (.int (64 : Int32)), .val (.int (1 : Int32)), .val (.int (2 : Int32))] [(.int (64 : Int32)), (.int (2 : Int32))]))
  refine own_by (fun _ k => XS.icmpYes X0.here hx rfl (pc0 := 61) (pc' := 73) rfl (hb hby d8_61) rfl (flt (by decide : ¬ ((64 : Int32) < (2 : Int32)))).2.2.2 (by decide) (by decide) k) ?_
  show OEnds p e below s _ _ _ (s₁.setTop (mkF m 73 #[.val (.int (64 : Int32)), .val (.int (1 : Int32)), .val (.int (2 : Int32))] []))
  exact own_retV X0 hx hlk Bd.returns (hb hby d8_73) (by rw [e0]; exact ⟨rfl, N0, K0⟩) (by decide) (by decide)
theorem d7_0 : decode jdk_65_method_102_code 0 = .ok (.aload_n 0, 1) := by decide +kernel
theorem d7_1 : decode jdk_65_method_102_code 1 = .ok (.arraylength, 1) := by decide +kernel
theorem d7_2 : decode jdk_65_method_102_code 2 = .ok (.iload_n 1, 1) := by decide +kernel
theorem d7_3 : decode jdk_65_method_102_code 3 = .ok (.iload_n 2, 1) := by decide +kernel
theorem d7_4 : decode jdk_65_method_102_code 4 = .ok (.invokestatic 13, 3) := by decide +kernel
theorem d7_7 : decode jdk_65_method_102_code 7 = .ok (.iload_n 1, 1) := by decide +kernel
theorem d7_8 : decode jdk_65_method_102_code 8 = .ok (.istore 5, 2) := by decide +kernel
theorem d7_10 : decode jdk_65_method_102_code 10 = .ok (.iload 5, 2) := by decide +kernel
theorem d7_12 : decode jdk_65_method_102_code 12 = .ok (.iload_n 2, 1) := by decide +kernel
theorem d7_13 : decode jdk_65_method_102_code 13 = .ok (.if_icmp .ge 14, 3) := by decide +kernel
theorem d7_27 : decode jdk_65_method_102_code 27 = .ok (.return_, 1) := by decide +kernel
theorem pn_7 : plainName "java/util/Arrays" = true := by first | (simp [plainName, overriddenIn]; done) | decide +kernel
theorem ef_7 (m : MethodId) (x0 : Addr) (x1 : Int32) (x2 : Int32) (x3 : Int64) : entryFrame m #[(.ref x0), (.int x1), (.int x2), (.long x3)] 6 = mkF m 0 #[.val (.ref x0), .val (.int x1), .val (.int x2), .val (.long x3), .second, .unset] [] := by first | (simp [entryFrame, mkF, argsToLocals, Value.category]; done) | rfl
def Q_fill_0_0 (Z : State) (b2 : Addr) (vv : Int64) (g2 : Nat → Int64) (h0 : Heap) (n0 : Nat) (r : Option Value) (h : Heap) (L : List Loc) : Prop := r = none ∧ Fr n0 L ∧ Keep h0 h []
set_option maxRecDepth 65536 in
set_option maxHeartbeats 40000000 in
theorem rm_fill_0_0 (l : Launch) (Z : State) (a0 : Array Value) (hw : ∀ d ∈ tables_1, d.before a0 Z = true) (ws : List Jvm.Cond) (b2 : Addr) (vv : Int64) (g2 : Nat → Int64) (h0 : Heap) (n0 : Nat) (Z0 : n0 ≤ h0.size) (F_b2 : FA Z h0 b2 .long 64 (fun i => .long (g2 i))) :
    MetFree l (⟨"java/util/Arrays", "fill", "([JIIJ)V"⟩ : MethodName) (head1 (Jvm.Cond.code (⟨"java/util/Arrays", "fill", "([JIIJ)V"⟩ : MethodName) jdk_65_method_102_code 6 none :: ws) ({ frames := 1, cells := 0, slots := 0, locals := 14 } : Room)) (fun a_ U => a_ = #[(.ref b2), (.int (0 : Int32)), (.int (0 : Int32)), (.long vv)] ∧ Z.Warmed39 U.vm ∧ U.heap = h0) (fun _ _ _ _ _ => True) (fun _ U o U' => ∃ v_ L_, o = .returned v_ ∧ Q_fill_0_0 Z b2 vv g2 h0 n0 v_ U'.heap L_ ∧ FrameEnd U o U' L_ ({ frames := 1, cells := 0, slots := 0, locals := 14 } : Room).cells ({ frames := 1, cells := 0, slots := 0, locals := 14 } : Room).slots) := by
  refine MetFree.of_bodySF (plainFor_of_name pn_7) hisR ?_
  intro p e s m args below meth c s₁ Bd hml0 hP hK
  obtain ⟨rfl, hZ, hh⟩ := hP
  have hx := Bd.exec
  have hby := Bd.bytes
  have hlk : meth.locks = false := Bd.notSynchronized
  have hml : c.maxLocals = 6 := hml0
  have hown : s.vm.findClass "java/util/Arrays" = some m.cls := findClass_of_methodNamed Bd.named
  have hnm := (name_of_methodNamed Bd.named Bd.method).1
  have X0 : Stand p l e ({ frames := 1, cells := 0, slots := 0, locals := 14 } : Room) s m #[(.ref b2), (.int (0 : Int32)), (.int (0 : Int32)), (.long vv)] below meth c s₁ [] 0 0 := Stand.of_body Bd
  have e0 : s₁.heap = h0 := by rw [← hh, Bd.state]; rfl
  have N0 := Fr.nil n0
  have K0 : Keep h0 h0 [] := Keep.refl _ _
  show OEnds p e below s (Q_fill_0_0 Z b2 vv g2 h0 n0) _ _ _
  refine own_by (fun t k => castTop (ef_7 m b2 (0 : Int32) (0 : Int32) vv) k) ?_
  show OEnds p e below s _ _ _ (s₁.setTop (mkF m 0 #[.val (.ref b2), .val (.int (0 : Int32)), .val (.int (0 : Int32)), .val (.long vv), .second, .unset] []))
  refine own_by (fun _ k => XS.aloadN X0.here hx rfl (hb hby d7_0) rfl rfl k) ?_
  show OEnds p e below s _ _ _ (s₁.setTop (mkF m 1 #[.val (.ref b2), .val (.int (0 : Int32)), .val (.int (0 : Int32)), .val (.long vv), .second, .unset] [(.ref b2)]))
  refine own_by (own_len X0 hx hZ e0 F_b2 (z := (64 : Int32)) (by decide) (g := (mkF m 1 #[.val (.ref b2), .val (.int (0 : Int32)), .val (.int (0 : Int32)), .val (.long vv), .second, .unset] [(.ref b2)])) rfl rfl (hb hby d7_1)) ?_
  show OEnds p e below s _ _ _ (s₁.setTop (mkF m 2 #[.val (.ref b2), .val (.int (0 : Int32)), .val (.int (0 : Int32)), .val (.long vv), .second, .unset] [(.int (64 : Int32))]))
  refine own_by (fun _ k => XS.iloadN X0.here hx rfl (hb hby d7_2) rfl k) ?_
  show OEnds p e below s _ _ _ (s₁.setTop (mkF m 3 #[.val (.ref b2), .val (.int (0 : Int32)), .val (.int (0 : Int32)), .val (.long vv), .second, .unset] [(.int (0 : Int32)), (.int (64 : Int32))]))
  refine own_by (fun _ k => XS.iloadN X0.here hx rfl (hb hby d7_3) rfl k) ?_
  show OEnds p e below s _ _ _ (s₁.setTop (mkF m 4 #[.val (.ref b2), .val (.int (0 : Int32)), .val (.int (0 : Int32)), .val (.long vv), .second, .unset] [(.int (0 : Int32)), (.int (0 : Int32)), (.int (64 : Int32))]))
  obtain ⟨v1, T1, L1, h1, X1, e1, hQ1, st1⟩ := own_callS X0 hx hZ (y := (⟨"java/util/Arrays", "rangeCheck", "(III)V"⟩ : MethodName)) hown (hw _ (List.mem_of_getElem? (i := 67) rfl)) (hw _ (List.mem_of_getElem? (i := 68) rfl)) (hw _ (List.mem_of_getElem? (i := 65) rfl)) (hw _ (List.mem_of_getElem? (i := 69) rfl)) (by decide) (rm_rcheck_0_0 l Z a0 hw [] h0 n0 Z0) e0 (g := (mkF m 4 #[.val (.ref b2), .val (.int (0 : Int32)), .val (.int (0 : Int32)), .val (.long vv), .second, .unset] [(.int (0 : Int32)), (.int (0 : Int32)), (.int (64 : Int32))])) rfl (by rw [hml]; rfl) (argsL := [(.int (64 : Int32)), (.int (0 : Int32)), (.int (0 : Int32))]) (rest := []) (lenOf pd_pIIIrV rfl) rfl (W := 0) (by show 2 * 0 + _ ≤ _; exact Nat.le_of_eq rfl) (hb hby d7_4) (by decide) (by decide) (by decide) (by decide)
  obtain ⟨rfl, Nq1, Kq1⟩ := hQ1
  have N1 := Fr.app N0 Nq1
  have K1 : Keep h0 h1 [] := K0.trans Kq1 all0
  have Z1 : n0 ≤ h1.size := Nat.le_trans Z0 Kq1.1
  refine own_tr st1 ?_
  show OEnds p e below s _ _ _ (T1.setTop (mkF m 7 #[.val (.ref b2), .val (.int (0 : Int32)), .val (.int (0 : Int32)), .val (.long vv), .second, .unset] []))
  refine own_by (fun _ k => XS.iloadN X1.here hx rfl (hb hby d7_7) rfl k) ?_
  show OEnds p e below s _ _ _ (T1.setTop (mkF m 8 #[.val (.ref b2), .val (.int (0 : Int32)), .val (.int (0 : Int32)), .val (.long vv), .second, .unset] [(.int (0 : Int32))]))
  refine own_by (fun _ k => XS.istore X1.here hx rfl (hb hby d7_8) rfl (l' := #[.val (.ref b2), .val (.int (0 : Int32)), .val (.int (0 : Int32)), .val (.long vv), .second, .val (.int (0 : Int32))]) rfl k) ?_
  show OEnds p e below s _ _ _ (T1.setTop (mkF m 10 #[.val (.ref b2), .val (.int (0 : Int32)), .val (.int (0 : Int32)), .val (.long vv), .second, .val (.int (0 : Int32))] []))
  refine own_by (fun _ k => XS.iload X1.here hx rfl (hb hby d7_10) rfl k) ?_
  show OEnds p e below s _ _ _ (T1.setTop (mkF m 12 #[.val (.ref b2), .val (.int (0 : Int32)), .val (.int (0 : Int32)), .val (.long vv), .second, .val (.int (0 : Int32))] [(.int (0 : Int32))]))
  refine own_by (fun _ k => XS.iloadN X1.here hx rfl (hb hby d7_12) rfl k) ?_
  show OEnds p e below s _ _ _ (T1.setTop (mkF m 13 #[.val (.ref b2), .val (.int (0 : Int32)), .val (.int (0 : Int32)), .val (.long vv), .second, .val (.int (0 : Int32))] [(.int (0 : Int32)), (.int (0 : Int32))]))
  refine own_by (fun _ k => XS.icmpYes X1.here hx rfl (pc0 := 13) (pc' := 27) rfl (hb hby d7_13) rfl (flt (by decide : ¬ ((0 : Int32) < (0 : Int32)))).2.1 (by decide) (by decide) k) ?_
  show OEnds p e below s _ _ _ (T1.setTop (mkF m 27 #[.val (.ref b2), .val (.int (0 : Int32)), .val (.int (0 : Int32)), .val (.long vv), .second, .val (.int (0 : Int32))] []))
  exact own_retV X1 hx hlk Bd.returns (hb hby d7_27) (by rw [e1]; exact ⟨rfl, N1, K1⟩) (by decide) (by decide)
theorem d7_16 : decode jdk_65_method_102_code 16 = .ok (.aload_n 0, 1) := by decide +kernel
theorem d7_17 : decode jdk_65_method_102_code 17 = .ok (.iload 5, 2) := by decide +kernel
theorem d7_19 : decode jdk_65_method_102_code 19 = .ok (.lload_n 3, 1) := by decide +kernel
theorem d7_20 : decode jdk_65_method_102_code 20 = .ok (.lastore, 1) := by decide +kernel
theorem d7_21 : decode jdk_65_method_102_code 21 = .ok (.iinc 5 1, 3) := by decide +kernel
theorem d7_24 : decode jdk_65_method_102_code 24 = .ok (.goto (-14), 3) := by decide +kernel
def Q_fill_1_2 (Z : State) (b2 : Addr) (vv : Int64) (g2 : Nat → Int64) (h0 : Heap) (n0 : Nat) (r : Option Value) (h : Heap) (L : List Loc) : Prop := r = none ∧ Fr n0 L ∧ Keep h0 h [b2] ∧ FA Z h b2 .long 64 (fun i => .long ((updL g2 1 vv) i))
set_option maxRecDepth 65536 in
set_option maxHeartbeats 40000000 in
theorem rm_fill_1_2 (l : Launch) (Z : State) (a0 : Array Value) (hw : ∀ d ∈ tables_1, d.before a0 Z = true) (ws : List Jvm.Cond) (b2 : Addr) (vv : Int64) (g2 : Nat → Int64) (h0 : Heap) (n0 : Nat) (Z0 : n0 ≤ h0.size) (F_b2 : FA Z h0 b2 .long 64 (fun i => .long (g2 i))) (g_b2 : n0 ≤ b2) :
    MetFree l (⟨"java/util/Arrays", "fill", "([JIIJ)V"⟩ : MethodName) (head1 (Jvm.Cond.code (⟨"java/util/Arrays", "fill", "([JIIJ)V"⟩ : MethodName) jdk_65_method_102_code 6 none :: ws) ({ frames := 1, cells := 0, slots := 0, locals := 14 } : Room)) (fun a_ U => a_ = #[(.ref b2), (.int (1 : Int32)), (.int (2 : Int32)), (.long vv)] ∧ Z.Warmed39 U.vm ∧ U.heap = h0) (fun _ _ _ _ _ => True) (fun _ U o U' => ∃ v_ L_, o = .returned v_ ∧ Q_fill_1_2 Z b2 vv g2 h0 n0 v_ U'.heap L_ ∧ FrameEnd U o U' L_ ({ frames := 1, cells := 0, slots := 0, locals := 14 } : Room).cells ({ frames := 1, cells := 0, slots := 0, locals := 14 } : Room).slots) := by
  refine MetFree.of_bodySF (plainFor_of_name pn_7) hisR ?_
  intro p e s m args below meth c s₁ Bd hml0 hP hK
  obtain ⟨rfl, hZ, hh⟩ := hP
  have hx := Bd.exec
  have hby := Bd.bytes
  have hlk : meth.locks = false := Bd.notSynchronized
  have hml : c.maxLocals = 6 := hml0
  have hown : s.vm.findClass "java/util/Arrays" = some m.cls := findClass_of_methodNamed Bd.named
  have hnm := (name_of_methodNamed Bd.named Bd.method).1
  have X0 : Stand p l e ({ frames := 1, cells := 0, slots := 0, locals := 14 } : Room) s m #[(.ref b2), (.int (1 : Int32)), (.int (2 : Int32)), (.long vv)] below meth c s₁ [] 0 0 := Stand.of_body Bd
  have e0 : s₁.heap = h0 := by rw [← hh, Bd.state]; rfl
  have N0 := Fr.nil n0
  have K0 : Keep h0 h0 [b2] := Keep.refl _ _
  show OEnds p e below s (Q_fill_1_2 Z b2 vv g2 h0 n0) _ _ _
  refine own_by (fun t k => castTop (ef_7 m b2 (1 : Int32) (2 : Int32) vv) k) ?_
  show OEnds p e below s _ _ _ (s₁.setTop (mkF m 0 #[.val (.ref b2), .val (.int (1 : Int32)), .val (.int (2 : Int32)), .val (.long vv), .second, .unset] []))
  refine own_by (fun _ k => XS.aloadN X0.here hx rfl (hb hby d7_0) rfl rfl k) ?_
  show OEnds p e below s _ _ _ (s₁.setTop (mkF m 1 #[.val (.ref b2), .val (.int (1 : Int32)), .val (.int (2 : Int32)), .val (.long vv), .second, .unset] [(.ref b2)]))
  refine own_by (own_len X0 hx hZ e0 F_b2 (z := (64 : Int32)) (by decide) (g := (mkF m 1 #[.val (.ref b2), .val (.int (1 : Int32)), .val (.int (2 : Int32)), .val (.long vv), .second, .unset] [(.ref b2)])) rfl rfl (hb hby d7_1)) ?_
  show OEnds p e below s _ _ _ (s₁.setTop (mkF m 2 #[.val (.ref b2), .val (.int (1 : Int32)), .val (.int (2 : Int32)), .val (.long vv), .second, .unset] [(.int (64 : Int32))]))
  refine own_by (fun _ k => XS.iloadN X0.here hx rfl (hb hby d7_2) rfl k) ?_
  show OEnds p e below s _ _ _ (s₁.setTop (mkF m 3 #[.val (.ref b2), .val (.int (1 : Int32)), .val (.int (2 : Int32)), .val (.long vv), .second, .unset] [(.int (1 : Int32)), (.int (64 : Int32))]))
  refine own_by (fun _ k => XS.iloadN X0.here hx rfl (hb hby d7_3) rfl k) ?_
  show OEnds p e below s _ _ _ (s₁.setTop (mkF m 4 #[.val (.ref b2), .val (.int (1 : Int32)), .val (.int (2 : Int32)), .val (.long vv), .second, .unset] [(.int (2 : Int32)), (.int (1 : Int32)), (.int (64 : Int32))]))
  obtain ⟨v1, T1, L1, h1, X1, e1, hQ1, st1⟩ := own_callS X0 hx hZ (y := (⟨"java/util/Arrays", "rangeCheck", "(III)V"⟩ : MethodName)) hown (hw _ (List.mem_of_getElem? (i := 67) rfl)) (hw _ (List.mem_of_getElem? (i := 68) rfl)) (hw _ (List.mem_of_getElem? (i := 65) rfl)) (hw _ (List.mem_of_getElem? (i := 69) rfl)) (by decide) (rm_rcheck_1_2 l Z a0 hw [] h0 n0 Z0) e0 (g := (mkF m 4 #[.val (.ref b2), .val (.int (1 : Int32)), .val (.int (2 : Int32)), .val (.long vv), .second, .unset] [(.int (2 : Int32)), (.int (1 : Int32)), (.int (64 : Int32))])) rfl (by rw [hml]; rfl) (argsL := [(.int (64 : Int32)), (.int (1 : Int32)), (.int (2 : Int32))]) (rest := []) (lenOf pd_pIIIrV rfl) rfl (W := 0) (by show 2 * 0 + _ ≤ _; exact Nat.le_of_eq rfl) (hb hby d7_4) (by decide) (by decide) (by decide) (by decide)
  obtain ⟨rfl, Nq1, Kq1⟩ := hQ1
  have N1 := Fr.app N0 Nq1
  have K1 : Keep h0 h1 [b2] := K0.trans Kq1 all0
  have Z1 : n0 ≤ h1.size := Nat.le_trans Z0 Kq1.1
  refine own_tr st1 ?_
  show OEnds p e below s _ _ _ (T1.setTop (mkF m 7 #[.val (.ref b2), .val (.int (1 : Int32)), .val (.int (2 : Int32)), .val (.long vv), .second, .unset] []))
  refine own_by (fun _ k => XS.iloadN X1.here hx rfl (hb hby d7_7) rfl k) ?_
  show OEnds p e below s _ _ _ (T1.setTop (mkF m 8 #[.val (.ref b2), .val (.int (1 : Int32)), .val (.int (2 : Int32)), .val (.long vv), .second, .unset] [(.int (1 : Int32))]))
  refine own_by (fun _ k => XS.istore X1.here hx rfl (hb hby d7_8) rfl (l' := #[.val (.ref b2), .val (.int (1 : Int32)), .val (.int (2 : Int32)), .val (.long vv), .second, .val (.int (1 : Int32))]) rfl k) ?_
  show OEnds p e below s _ _ _ (T1.setTop (mkF m 10 #[.val (.ref b2), .val (.int (1 : Int32)), .val (.int (2 : Int32)), .val (.long vv), .second, .val (.int (1 : Int32))] []))
  refine own_by (fun _ k => XS.iload X1.here hx rfl (hb hby d7_10) rfl k) ?_
  show OEnds p e below s _ _ _ (T1.setTop (mkF m 12 #[.val (.ref b2), .val (.int (1 : Int32)), .val (.int (2 : Int32)), .val (.long vv), .second, .val (.int (1 : Int32))] [(.int (1 : Int32))]))
  refine own_by (fun _ k => XS.iloadN X1.here hx rfl (hb hby d7_12) rfl k) ?_
  show OEnds p e below s _ _ _ (T1.setTop (mkF m 13 #[.val (.ref b2), .val (.int (1 : Int32)), .val (.int (2 : Int32)), .val (.long vv), .second, .val (.int (1 : Int32))] [(.int (2 : Int32)), (.int (1 : Int32))]))
  refine own_by (fun _ k => XS.icmpNo X1.here hx rfl (hb hby d7_13) rfl (tlt (by decide : (1 : Int32) < (2 : Int32))).2.1 k) ?_
  show OEnds p e below s _ _ _ (T1.setTop (mkF m 16 #[.val (.ref b2), .val (.int (1 : Int32)), .val (.int (2 : Int32)), .val (.long vv), .second, .val (.int (1 : Int32))] []))
  refine own_by (fun _ k => XS.aloadN X1.here hx rfl (hb hby d7_16) rfl rfl k) ?_
  show OEnds p e below s _ _ _ (T1.setTop (mkF m 17 #[.val (.ref b2), .val (.int (1 : Int32)), .val (.int (2 : Int32)), .val (.long vv), .second, .val (.int (1 : Int32))] [(.ref b2)]))
  refine own_by (fun _ k => XS.iload X1.here hx rfl (hb hby d7_17) rfl k) ?_
  show OEnds p e below s _ _ _ (T1.setTop (mkF m 19 #[.val (.ref b2), .val (.int (1 : Int32)), .val (.int (2 : Int32)), .val (.long vv), .second, .val (.int (1 : Int32))] [(.int (1 : Int32)), (.ref b2)]))
  refine own_by (fun _ k => XS.lloadN X1.here hx rfl (hb hby d7_19) rfl k) ?_
  show OEnds p e below s _ _ _ (T1.setTop (mkF m 20 #[.val (.ref b2), .val (.int (1 : Int32)), .val (.int (2 : Int32)), .val (.long vv), .second, .val (.int (1 : Int32))] [(.long vv), (.int (1 : Int32)), (.ref b2)]))
  have F3 : FA Z h1 b2 .long 64 (fun i => .long (g2 i)) := (F_b2.keep Kq1 nin0)
  obtain ⟨T2, h2, X2, e2, W2, st2⟩ := own_lastore X1 hx hZ e1 F3 1 (by decide) (by decide) (g := (mkF m 20 #[.val (.ref b2), .val (.int (1 : Int32)), .val (.int (2 : Int32)), .val (.long vv), .second, .val (.int (1 : Int32))] [(.long vv), (.int (1 : Int32)), (.ref b2)])) rfl rfl (hb hby d7_20)
  refine own_by (st2) ?_
  have F2 : FA Z h2 b2 .long 64 (fun i => .long ((updL g2 1 vv) i)) := F3.setL W2
  have N2 := Fr.snoc X2 N1 g_b2
  have Z2 : n0 ≤ h2.size := Nat.le_trans Z1 (Keep.of_wr W2).1
  have K2 : Keep h0 h2 [b2] := K1.wr W2 (Or.inl (List.mem_of_getElem? (i := 0) rfl))
  show OEnds p e below s _ _ _ (T2.setTop (mkF m 21 #[.val (.ref b2), .val (.int (1 : Int32)), .val (.int (2 : Int32)), .val (.long vv), .second, .val (.int (1 : Int32))] []))
  refine own_by (fun _ k => XS.iinc X2.here hx rfl (hb hby d7_21) rfl (l' := #[.val (.ref b2), .val (.int (1 : Int32)), .val (.int (2 : Int32)), .val (.long vv), .second, .val (.int (2 : Int32))]) rfl k) ?_
  show OEnds p e below s _ _ _ (T2.setTop (mkF m 24 #[.val (.ref b2), .val (.int (1 : Int32)), .val (.int (2 : Int32)), .val (.long vv), .second, .val (.int (2 : Int32))] []))
  refine own_by (fun _ k => XS.goto X2.here hx rfl (pc0 := 24) (pc' := 10) rfl (hb hby d7_24) (by decide) (by decide) k) ?_
  show OEnds p e below s _ _ _ (T2.setTop (mkF m 10 #[.val (.ref b2), .val (.int (1 : Int32)), .val (.int (2 : Int32)), .val (.long vv), .second, .val (.int (2 : Int32))] []))
  refine own_by (fun _ k => XS.iload X2.here hx rfl (hb hby d7_10) rfl k) ?_
  show OEnds p e below s _ _ _ (T2.setTop (mkF m 12 #[.val (.ref b2), .val (.int (1 : Int32)), .val (.int (2 : Int32)), .val (.long vv), .second, .val (.int (2 : Int32))] [(.int (2 : Int32))]))
  refine own_by (fun _ k => XS.iloadN X2.here hx rfl (hb hby d7_12) rfl k) ?_
  show OEnds p e below s _ _ _ (T2.setTop (mkF m 13 #[.val (.ref b2), .val (.int (1 : Int32)), .val (.int (2 : Int32)), .val (.long vv), .second, .val (.int (2 : Int32))] [(.int (2 : Int32)), (.int (2 : Int32))]))
  refine own_by (fun _ k => XS.icmpYes X2.here hx rfl (pc0 := 13) (pc' := 27) rfl (hb hby d7_13) rfl (flt (by decide : ¬ ((2 : Int32) < (2 : Int32)))).2.1 (by decide) (by decide) k) ?_
  show OEnds p e below s _ _ _ (T2.setTop (mkF m 27 #[.val (.ref b2), .val (.int (1 : Int32)), .val (.int (2 : Int32)), .val (.long vv), .second, .val (.int (2 : Int32))] []))
  exact own_retV X2 hx hlk Bd.returns (hb hby d7_27) (by rw [e2]; exact ⟨rfl, N2, K2, F2⟩) (by decide) (by decide)
theorem d6_0 : decode prog_32_method_5_code 0 = .ok (.aload_n 0, 1) := by decide +kernel
theorem d6_1 : decode prog_32_method_5_code 1 = .ok (.getfield 39, 3) := by decide +kernel
theorem d6_4 : decode prog_32_method_5_code 4 = .ok (.ifCond .ne 7, 3) := by decide +kernel
theorem d6_7 : decode prog_32_method_5_code 7 = .ok (.iconst 0, 1) := by decide +kernel
theorem d6_8 : decode prog_32_method_5_code 8 = .ok (.goto 14, 3) := by decide +kernel
theorem d6_22 : decode prog_32_method_5_code 22 = .ok (.istore_n 1, 1) := by decide +kernel
theorem d6_23 : decode prog_32_method_5_code 23 = .ok (.aload_n 0, 1) := by decide +kernel
theorem d6_24 : decode prog_32_method_5_code 24 = .ok (.getfield 32, 3) := by decide +kernel
theorem d6_27 : decode prog_32_method_5_code 27 = .ok (.iload_n 1, 1) := by decide +kernel
theorem d6_28 : decode prog_32_method_5_code 28 = .ok (.isub, 1) := by decide +kernel
theorem d6_29 : decode prog_32_method_5_code 29 = .ok (.bipush 8, 2) := by decide +kernel
theorem d6_31 : decode prog_32_method_5_code 31 = .ok (.idiv, 1) := by decide +kernel
theorem d6_32 : decode prog_32_method_5_code 32 = .ok (.aload_n 0, 1) := by decide +kernel
theorem d6_33 : decode prog_32_method_5_code 33 = .ok (.getfield 32, 3) := by decide +kernel
theorem d6_36 : decode prog_32_method_5_code 36 = .ok (.iload_n 1, 1) := by decide +kernel
theorem d6_37 : decode prog_32_method_5_code 37 = .ok (.isub, 1) := by decide +kernel
theorem d6_38 : decode prog_32_method_5_code 38 = .ok (.bipush 8, 2) := by decide +kernel
theorem d6_40 : decode prog_32_method_5_code 40 = .ok (.irem, 1) := by decide +kernel
theorem d6_41 : decode prog_32_method_5_code 41 = .ok (.ifCond .ne 7, 3) := by decide +kernel
theorem d6_44 : decode prog_32_method_5_code 44 = .ok (.iconst 0, 1) := by decide +kernel
theorem d6_45 : decode prog_32_method_5_code 45 = .ok (.goto 4, 3) := by decide +kernel
theorem d6_49 : decode prog_32_method_5_code 49 = .ok (.iadd, 1) := by decide +kernel
theorem d6_50 : decode prog_32_method_5_code 50 = .ok (.istore_n 2, 1) := by decide +kernel
theorem d6_51 : decode prog_32_method_5_code 51 = .ok (.aload_n 0, 1) := by decide +kernel
theorem d6_52 : decode prog_32_method_5_code 52 = .ok (.getfield 13, 3) := by decide +kernel
theorem d6_55 : decode prog_32_method_5_code 55 = .ok (.arraylength, 1) := by decide +kernel
theorem d6_56 : decode prog_32_method_5_code 56 = .ok (.aload_n 0, 1) := by decide +kernel
theorem d6_57 : decode prog_32_method_5_code 57 = .ok (.getfield 36, 3) := by decide +kernel
theorem d6_60 : decode prog_32_method_5_code 60 = .ok (.isub, 1) := by decide +kernel
theorem d6_61 : decode prog_32_method_5_code 61 = .ok (.iconst 2, 1) := by decide +kernel
theorem d6_62 : decode prog_32_method_5_code 62 = .ok (.iload_n 2, 1) := by decide +kernel
theorem d6_63 : decode prog_32_method_5_code 63 = .ok (.imul, 1) := by decide +kernel
theorem d6_64 : decode prog_32_method_5_code 64 = .ok (.if_icmp .ge 32, 3) := by decide +kernel
theorem d6_96 : decode prog_32_method_5_code 96 = .ok (.aload_n 0, 1) := by decide +kernel
theorem d6_97 : decode prog_32_method_5_code 97 = .ok (.getfield 39, 3) := by decide +kernel
theorem d6_100 : decode prog_32_method_5_code 100 = .ok (.aload_n 0, 1) := by decide +kernel
theorem d6_101 : decode prog_32_method_5_code 101 = .ok (.getfield 16, 3) := by decide +kernel
theorem d6_104 : decode prog_32_method_5_code 104 = .ok (.arraylength, 1) := by decide +kernel
theorem d6_105 : decode prog_32_method_5_code 105 = .ok (.if_icmp .ne 54, 3) := by decide +kernel
theorem d6_159 : decode prog_32_method_5_code 159 = .ok (.aload_n 0, 1) := by decide +kernel
theorem d6_160 : decode prog_32_method_5_code 160 = .ok (.getfield 16, 3) := by decide +kernel
theorem d6_163 : decode prog_32_method_5_code 163 = .ok (.aload_n 0, 1) := by decide +kernel
theorem d6_164 : decode prog_32_method_5_code 164 = .ok (.getfield 39, 3) := by decide +kernel
theorem d6_167 : decode prog_32_method_5_code 167 = .ok (.iload_n 1, 1) := by decide +kernel
theorem d6_168 : decode prog_32_method_5_code 168 = .ok (.iastore, 1) := by decide +kernel
theorem d6_169 : decode prog_32_method_5_code 169 = .ok (.aload_n 0, 1) := by decide +kernel
theorem d6_170 : decode prog_32_method_5_code 170 = .ok (.getfield 20, 3) := by decide +kernel
theorem d6_173 : decode prog_32_method_5_code 173 = .ok (.aload_n 0, 1) := by decide +kernel
theorem d6_174 : decode prog_32_method_5_code 174 = .ok (.getfield 39, 3) := by decide +kernel
theorem d6_177 : decode prog_32_method_5_code 177 = .ok (.aload_n 0, 1) := by decide +kernel
theorem d6_178 : decode prog_32_method_5_code 178 = .ok (.getfield 32, 3) := by decide +kernel
theorem d6_181 : decode prog_32_method_5_code 181 = .ok (.iastore, 1) := by decide +kernel
theorem d6_182 : decode prog_32_method_5_code 182 = .ok (.aload_n 0, 1) := by decide +kernel
theorem d6_183 : decode prog_32_method_5_code 183 = .ok (.getfield 23, 3) := by decide +kernel
theorem d6_186 : decode prog_32_method_5_code 186 = .ok (.aload_n 0, 1) := by decide +kernel
theorem d6_187 : decode prog_32_method_5_code 187 = .ok (.getfield 39, 3) := by decide +kernel
theorem d6_190 : decode prog_32_method_5_code 190 = .ok (.aload_n 0, 1) := by decide +kernel
theorem d6_191 : decode prog_32_method_5_code 191 = .ok (.getfield 36, 3) := by decide +kernel
theorem d6_194 : decode prog_32_method_5_code 194 = .ok (.iastore, 1) := by decide +kernel
theorem d6_195 : decode prog_32_method_5_code 195 = .ok (.aload_n 0, 1) := by decide +kernel
theorem d6_196 : decode prog_32_method_5_code 196 = .ok (.getfield 13, 3) := by decide +kernel
theorem d6_199 : decode prog_32_method_5_code 199 = .ok (.aload_n 0, 1) := by decide +kernel
theorem d6_200 : decode prog_32_method_5_code 200 = .ok (.getfield 36, 3) := by decide +kernel
theorem d6_203 : decode prog_32_method_5_code 203 = .ok (.iload_n 2, 1) := by decide +kernel
theorem d6_204 : decode prog_32_method_5_code 204 = .ok (.iadd, 1) := by decide +kernel
theorem d6_205 : decode prog_32_method_5_code 205 = .ok (.aload_n 0, 1) := by decide +kernel
theorem d6_206 : decode prog_32_method_5_code 206 = .ok (.getfield 36, 3) := by decide +kernel
theorem d6_209 : decode prog_32_method_5_code 209 = .ok (.iconst 2, 1) := by decide +kernel
theorem d6_210 : decode prog_32_method_5_code 210 = .ok (.iload_n 2, 1) := by decide +kernel
theorem d6_211 : decode prog_32_method_5_code 211 = .ok (.imul, 1) := by decide +kernel
theorem d6_212 : decode prog_32_method_5_code 212 = .ok (.iadd, 1) := by decide +kernel
theorem d6_213 : decode prog_32_method_5_code 213 = .ok (.ldc2_w 74, 3) := by decide +kernel
theorem d6_216 : decode prog_32_method_5_code 216 = .ok (.invokestatic 76, 3) := by decide +kernel
theorem d6_219 : decode prog_32_method_5_code 219 = .ok (.iload_n 1, 1) := by decide +kernel
theorem d6_220 : decode prog_32_method_5_code 220 = .ok (.istore_n 3, 1) := by decide +kernel
theorem d6_221 : decode prog_32_method_5_code 221 = .ok (.iload_n 3, 1) := by decide +kernel
theorem d6_222 : decode prog_32_method_5_code 222 = .ok (.aload_n 0, 1) := by decide +kernel
theorem d6_223 : decode prog_32_method_5_code 223 = .ok (.getfield 32, 3) := by decide +kernel
theorem d6_226 : decode prog_32_method_5_code 226 = .ok (.if_icmp .ge 47, 3) := by decide +kernel
theorem d6_273 : decode prog_32_method_5_code 273 = .ok (.iload_n 2, 1) := by decide +kernel
theorem d6_274 : decode prog_32_method_5_code 274 = .ok (.iconst 1, 1) := by decide +kernel
theorem d6_275 : decode prog_32_method_5_code 275 = .ok (.isub, 1) := by decide +kernel
theorem d6_276 : decode prog_32_method_5_code 276 = .ok (.istore_n 3, 1) := by decide +kernel
theorem d6_277 : decode prog_32_method_5_code 277 = .ok (.iload_n 3, 1) := by decide +kernel
theorem d6_278 : decode prog_32_method_5_code 278 = .ok (.ifCond .le 51, 3) := by decide +kernel
theorem d6_329 : decode prog_32_method_5_code 329 = .ok (.aload_n 0, 1) := by decide +kernel
theorem d6_330 : decode prog_32_method_5_code 330 = .ok (.dup, 1) := by decide +kernel
theorem d6_331 : decode prog_32_method_5_code 331 = .ok (.getfield 36, 3) := by decide +kernel
theorem d6_334 : decode prog_32_method_5_code 334 = .ok (.iconst 2, 1) := by decide +kernel
theorem d6_335 : decode prog_32_method_5_code 335 = .ok (.iload_n 2, 1) := by decide +kernel
theorem d6_336 : decode prog_32_method_5_code 336 = .ok (.imul, 1) := by decide +kernel
theorem d6_337 : decode prog_32_method_5_code 337 = .ok (.iadd, 1) := by decide +kernel
theorem d6_338 : decode prog_32_method_5_code 338 = .ok (.putfield 36, 3) := by decide +kernel
theorem d6_341 : decode prog_32_method_5_code 341 = .ok (.aload_n 0, 1) := by decide +kernel
theorem d6_342 : decode prog_32_method_5_code 342 = .ok (.dup, 1) := by decide +kernel
theorem d6_343 : decode prog_32_method_5_code 343 = .ok (.getfield 39, 3) := by decide +kernel
theorem d6_346 : decode prog_32_method_5_code 346 = .ok (.dup_x1, 1) := by decide +kernel
theorem d6_347 : decode prog_32_method_5_code 347 = .ok (.iconst 1, 1) := by decide +kernel
theorem d6_348 : decode prog_32_method_5_code 348 = .ok (.iadd, 1) := by decide +kernel
theorem d6_349 : decode prog_32_method_5_code 349 = .ok (.putfield 39, 3) := by decide +kernel
theorem d6_352 : decode prog_32_method_5_code 352 = .ok (.ireturn, 1) := by decide +kernel
theorem pn_6 : plainName "com/example/graphweft/graphweft/RangeMaxTree" = true := by first | (simp [plainName, overriddenIn]; done) | decide +kernel
theorem ef_6 (m : MethodId) (x0 : Addr) : entryFrame m #[(.ref x0)] 5 = mkF m 0 #[.val (.ref x0), .unset, .unset, .unset, .unset] [] := by first | (simp [entryFrame, mkF, argsToLocals, Value.category]; done) | rfl
def Q_index_0 (Z : State) (a : Addr) (b1 : Addr) (b2 : Addr) (b3 : Addr) (b4 : Addr) (b5 : Addr) (b6 : Addr) (b7 : Addr) (te : Int32) (ta : Int32) (se : Int32) (sa : Int32) (pn : Int32) (bd : Int64) (ss : Int32) (bs : Int32) (bc : Int32) (g1 : Nat → Int64) (g2 : Nat → Int64) (g3 : Nat → Int32) (g4 : Nat → Int32) (g5 : Nat → Int32) (h0 : Heap) (n0 : Nat) (r : Option Value) (h : Heap) (L : List Loc) : Prop := r = some (.int (0 : Int32)) ∧ Fr n0 L ∧ Keep h0 h [a, b3, b4, b5] ∧ Obj Z h a "com/example/graphweft/graphweft/RangeMaxTree" sch_rt [(.ref b1), (.ref b2), (.ref b3), (.ref b4), (.ref b5), (.ref b6), (.ref b7), (.int (0 : Int32)), (.int (0 : Int32)), (.int (1 : Int32)), (.int te), (.int ta), (.int se), (.int sa), (.int pn), (.long bd), (.int ss), (.int bs), (.int bc)] ∧ FA Z h b3 .int 16 (fun i => .int ((updI g3 0 (0 : Int32)) i)) ∧ FA Z h b4 .int 16 (fun i => .int ((updI g4 0 (0 : Int32)) i)) ∧ FA Z h b5 .int 16 (fun i => .int ((updI g5 0 (0 : Int32)) i))
set_option maxRecDepth 65536 in
set_option maxHeartbeats 40000000 in
theorem rm_index_0 (l : Launch) (Z : State) (a0 : Array Value) (hw : ∀ d ∈ tables_1, d.before a0 Z = true) (ws : List Jvm.Cond) (a : Addr) (b1 : Addr) (b2 : Addr) (b3 : Addr) (b4 : Addr) (b5 : Addr) (b6 : Addr) (b7 : Addr) (te : Int32) (ta : Int32) (se : Int32) (sa : Int32) (pn : Int32) (bd : Int64) (ss : Int32) (bs : Int32) (bc : Int32) (g1 : Nat → Int64) (g2 : Nat → Int64) (g3 : Nat → Int32) (g4 : Nat → Int32) (g5 : Nat → Int32) (h0 : Heap) (n0 : Nat) (Z0 : n0 ≤ h0.size) (O0 : Obj Z h0 a "com/example/graphweft/graphweft/RangeMaxTree" sch_rt [(.ref b1), (.ref b2), (.ref b3), (.ref b4), (.ref b5), (.ref b6), (.ref b7), (.int (0 : Int32)), (.int (0 : Int32)), (.int (0 : Int32)), (.int te), (.int ta), (.int se), (.int sa), (.int pn), (.long bd), (.int ss), (.int bs), (.int bc)]) (F_b1 : FA Z h0 b1 .long 64 (fun i => .long (g1 i))) (F_b2 : FA Z h0 b2 .long 64 (fun i => .long (g2 i))) (F_b3 : FA Z h0 b3 .int 16 (fun i => .int (g3 i))) (F_b4 : FA Z h0 b4 .int 16 (fun i => .int (g4 i))) (F_b5 : FA Z h0 b5 .int 16 (fun i => .int (g5 i))) (g_a : n0 ≤ a) (g_b3 : n0 ≤ b3) (g_b4 : n0 ≤ b4) (g_b5 : n0 ≤ b5) (hord : @LT.lt Nat instLTNat a b1 ∧ @LT.lt Nat instLTNat b1 b2 ∧ @LT.lt Nat instLTNat b2 b3 ∧ @LT.lt Nat instLTNat b3 b4 ∧ @LT.lt Nat instLTNat b4 b5 ∧ @LT.lt Nat instLTNat b5 b6 ∧ @LT.lt Nat instLTNat b6 b7) :
    MetFree l (⟨"com/example/graphweft/graphweft/RangeMaxTree", "index", "()I"⟩ : MethodName) (head1 (Jvm.Cond.code (⟨"com/example/graphweft/graphweft/RangeMaxTree", "index", "()I"⟩ : MethodName) prog_32_method_5_code 5 (some .int) :: ws) ({ frames := 2, cells := 0, slots := 0, locals := 31 } : Room)) (fun a_ U => a_ = #[(.ref a)] ∧ Z.Warmed39 U.vm ∧ U.heap = h0) (fun _ _ _ _ _ => True) (fun _ U o U' => ∃ v_ L_, o = .returned v_ ∧ Q_index_0 Z a b1 b2 b3 b4 b5 b6 b7 te ta se sa pn bd ss bs bc g1 g2 g3 g4 g5 h0 n0 v_ U'.heap L_ ∧ FrameEnd U o U' L_ ({ frames := 2, cells := 0, slots := 0, locals := 31 } : Room).cells ({ frames := 2, cells := 0, slots := 0, locals := 31 } : Room).slots) := by
  refine MetFree.of_bodySF (plainFor_of_name pn_6) hisR ?_
  intro p e s m args below meth c s₁ Bd hml0 hP hK
  obtain ⟨rfl, hZ, hh⟩ := hP
  have hx := Bd.exec
  have hby := Bd.bytes
  have hlk : meth.locks = false := Bd.notSynchronized
  have hml : c.maxLocals = 5 := hml0
  have hown : s.vm.findClass "com/example/graphweft/graphweft/RangeMaxTree" = some m.cls := findClass_of_methodNamed Bd.named
  have hnm := (name_of_methodNamed Bd.named Bd.method).1
  have X0 : Stand p l e ({ frames := 2, cells := 0, slots := 0, locals := 31 } : Room) s m #[(.ref a)] below meth c s₁ [] 0 0 := Stand.of_body Bd
  have e0 : s₁.heap = h0 := by rw [← hh, Bd.state]; rfl
  have N0 := Fr.nil n0
  have K0 : Keep h0 h0 [a, b3, b4, b5] := Keep.refl _ _
  show OEnds p e below s (Q_index_0 Z a b1 b2 b3 b4 b5 b6 b7 te ta se sa pn bd ss bs bc g1 g2 g3 g4 g5 h0 n0) _ _ _
  refine own_by (fun t k => castTop (ef_6 m a) k) ?_
  show OEnds p e below s _ _ _ (s₁.setTop (mkF m 0 #[.val (.ref a), .unset, .unset, .unset, .unset] []))
  refine own_by (fun _ k => XS.aloadN X0.here hx rfl (hb hby d6_0) rfl rfl k) ?_
  show OEnds p e below s _ _ _ (s₁.setTop (mkF m 1 #[.val (.ref a), .unset, .unset, .unset, .unset] [(.ref a)]))
  obtain ⟨T1, X1, e1, st1⟩ := getF X0 hx hZ hown (host := "") (Or.inl (hw _ (List.mem_of_getElem? (i := 35) rfl))) Via.refl e0 (O0.fld 9 rfl rfl) (g := (mkF m 1 #[.val (.ref a), .unset, .unset, .unset, .unset] [(.ref a)])) rfl rfl (hb hby d6_1)
  refine own_by (st1) ?_
  show OEnds p e below s _ _ _ (T1.setTop (mkF m 4 #[.val (.ref a), .unset, .unset, .unset, .unset] [(.int (0 : Int32))]))
  refine own_by (fun _ k => XS.ifNo X1.here hx rfl (hb hby d6_4) rfl ((if0 _ _).trans (teq (by decide : (0 : Int32) = (0 : Int32))).2) k) ?_
  show OEnds p e below s _ _ _ (T1.setTop (mkF m 7 #[.val (.ref a), .unset, .unset, .unset, .unset] []))
  refine own_by (fun _ k => XS.iconst X1.here hx rfl (hb hby d6_7) k) ?_
  show OEnds p e below s _ _ _ (T1.setTop (mkF m 8 #[.val (.ref a), .unset, .unset, .unset, .unset] [(.int (0 : Int32))]))
  refine own_by (fun _ k => XS.goto X1.here hx rfl (pc0 := 8) (pc' := 22) rfl (hb hby d6_8) (by decide) (by decide) k) ?_
  show OEnds p e below s _ _ _ (T1.setTop (mkF m 22 #[.val (.ref a), .unset, .unset, .unset, .unset] [(.int (0 : Int32))]))
  refine own_by (fun _ k => XS.istoreN X1.here hx rfl (hb hby d6_22) rfl (l' := #[.val (.ref a), .val (.int (0 : Int32)), .unset, .unset, .unset]) rfl k) ?_
  show OEnds p e below s _ _ _ (T1.setTop (mkF m 23 #[.val (.ref a), .val (.int (0 : Int32)), .unset, .unset, .unset] []))
  refine own_by (fun _ k => XS.aloadN X1.here hx rfl (hb hby d6_23) rfl rfl k) ?_
  show OEnds p e below s _ _ _ (T1.setTop (mkF m 24 #[.val (.ref a), .val (.int (0 : Int32)), .unset, .unset, .unset] [(.ref a)]))
  obtain ⟨T2, X2, e2, st2⟩ := getF X1 hx hZ hown (host := "") (Or.inl (hw _ (List.mem_of_getElem? (i := 31) rfl))) Via.refl e1 (O0.fld 7 rfl rfl) (g := (mkF m 24 #[.val (.ref a), .val (.int (0 : Int32)), .unset, .unset, .unset] [(.ref a)])) rfl rfl (hb hby d6_24)
  refine own_by (st2) ?_
  show OEnds p e below s _ _ _ (T2.setTop (mkF m 27 #[.val (.ref a), .val (.int (0 : Int32)), .unset, .unset, .unset] [(.int (0 : Int32))]))
  refine own_by (fun _ k => XS.iloadN X2.here hx rfl (hb hby d6_27) rfl k) ?_
  show OEnds p e below s _ _ _ (T2.setTop (mkF m 28 #[.val (.ref a), .val (.int (0 : Int32)), .unset, .unset, .unset] [(.int (0 : Int32)), (.int (0 : Int32))]))
  refine own_by (fun _ k => XS.isub X2.here hx rfl (hb hby d6_28) rfl k) ?_
  show OEnds p e below s _ _ _ (T2.setTop (mkF m 29 #[.val (.ref a), .val (.int (0 : Int32)), .unset, .unset, .unset] [(.int (0 : Int32))]))
  refine own_by (fun _ k => XS.bipush X2.here hx rfl (hb hby d6_29) k) ?_
  show OEnds p e below s _ _ _ (T2.setTop (mkF m 31 #[.val (.ref a), .val (.int (0 : Int32)), .unset, .unset, .unset] [(.int (8 : Int32)), (.int (0 : Int32))]))
  refine own_by (fun _ k => XS.idiv X2.here hx rfl (hb hby d6_31) rfl (by decide) k) ?_
  show OEnds p e below s _ _ _ (T2.setTop (mkF m 32 #[.val (.ref a), .val (.int (0 : Int32)), .unset, .unset, .unset] [(.int (0 : Int32))]))
  refine own_by (fun _ k => XS.aloadN X2.here hx rfl (hb hby d6_32) rfl rfl k) ?_
  show OEnds p e below s _ _ _ (T2.setTop (mkF m 33 #[.val (.ref a), .val (.int (0 : Int32)), .unset, .unset, .unset] [(.ref a), (.int (0 : Int32))]))
  obtain ⟨T3, X3, e3, st3⟩ := getF X2 hx hZ hown (host := "") (Or.inl (hw _ (List.mem_of_getElem? (i := 31) rfl))) Via.refl e2 (O0.fld 7 rfl rfl) (g := (mkF m 33 #[.val (.ref a), .val (.int (0 : Int32)), .unset, .unset, .unset] [(.ref a), (.int (0 : Int32))])) rfl rfl (hb hby d6_33)
  refine own_by (st3) ?_
  show OEnds p e below s _ _ _ (T3.setTop (mkF m 36 #[.val (.ref a), .val (.int (0 : Int32)), .unset, .unset, .unset] [(.int (0 : Int32)), (.int (0 : Int32))]))
  refine own_by (fun _ k => XS.iloadN X3.here hx rfl (hb hby d6_36) rfl k) ?_
  show OEnds p e below s _ _ _ (T3.setTop (mkF m 37 #[.val (.ref a), .val (.int (0 : Int32)), .unset, .unset, .unset] [(.int (0 : Int32)), (.int (0 : Int32)), (.int (0 : Int32))]))
  refine own_by (fun _ k => XS.isub X3.here hx rfl (hb hby d6_37) rfl k) ?_
  show OEnds p e below s _ _ _ (T3.setTop (mkF m 38 #[.val (.ref a), .val (.int (0 : Int32)), .unset, .unset, .unset] [(.int (0 : Int32)), (.int (0 : Int32))]))
  refine own_by (fun _ k => XS.bipush X3.here hx rfl (hb hby d6_38) k) ?_
  show OEnds p e below s _ _ _ (T3.setTop (mkF m 40 #[.val (.ref a), .val (.int (0 : Int32)), .unset, .unset, .unset] [(.int (8 : Int32)), (.int (0 : Int32)), (.int (0 : Int32))]))
  refine own_by (fun _ k => iremM X3 hx rfl (hb hby d6_40) rfl (by decide) k) ?_
  show OEnds p e below s _ _ _ (T3.setTop (mkF m 41 #[.val (.ref a), .val (.int (0 : Int32)), .unset, .unset, .unset] [(.int (0 : Int32)), (.int (0 : Int32))]))
  refine own_by (fun _ k => XS.ifNo X3.here hx rfl (hb hby d6_41) rfl ((if0 _ _).trans (teq (by decide : (0 : Int32) = (0 : Int32))).2) k) ?_
  show OEnds p e below s _ _ _ (T3.setTop (mkF m 44 #[.val (.ref a), .val (.int (0 : Int32)), .unset, .unset, .unset] [(.int (0 : Int32))]))
  refine own_by (fun _ k => XS.iconst X3.here hx rfl (hb hby d6_44) k) ?_
  show OEnds p e below s _ _ _ (T3.setTop (mkF m 45 #[.val (.ref a), .val (.int (0 : Int32)), .unset, .unset, .unset] [(.int (0 : Int32)), (.int (0 : Int32))]))
  refine own_by (fun _ k => XS.goto X3.here hx rfl (pc0 := 45) (pc' := 49) rfl (hb hby d6_45) (by decide) (by decide) k) ?_
  show OEnds p e below s _ _ _ (T3.setTop (mkF m 49 #[.val (.ref a), .val (.int (0 : Int32)), .unset, .unset, .unset] [(.int (0 : Int32)), (.int (0 : Int32))]))
  refine own_by (fun _ k => XS.iadd X3.here hx rfl (hb hby d6_49) rfl k) ?_
  show OEnds p e below s _ _ _ (T3.setTop (mkF m 50 #[.val (.ref a), .val (.int (0 : Int32)), .unset, .unset, .unset] [(.int (0 : Int32))]))
  refine own_by (fun _ k => XS.istoreN X3.here hx rfl (hb hby d6_50) rfl (l' := #[.val (.ref a), .val (.int (0 : Int32)), .val (.int (0 : Int32)), .unset, .unset]) rfl k) ?_
  show OEnds p e below s _ _ _ (T3.setTop (mkF m 51 #[.val (.ref a), .val (.int (0 : Int32)), .val (.int (0 : Int32)), .unset, .unset] []))
  refine own_by (fun _ k => XS.aloadN X3.here hx rfl (hb hby d6_51) rfl rfl k) ?_
  show OEnds p e below s _ _ _ (T3.setTop (mkF m 52 #[.val (.ref a), .val (.int (0 : Int32)), .val (.int (0 : Int32)), .unset, .unset] [(.ref a)]))
  obtain ⟨T4, X4, e4, st4⟩ := getF X3 hx hZ hown (host := "") (Or.inl (hw _ (List.mem_of_getElem? (i := 13) rfl))) Via.refl e3 (O0.fld 1 rfl rfl) (g := (mkF m 52 #[.val (.ref a), .val (.int (0 : Int32)), .val (.int (0 : Int32)), .unset, .unset] [(.ref a)])) rfl rfl (hb hby d6_52)
  refine own_by (st4) ?_
  show OEnds p e below s _ _ _ (T4.setTop (mkF m 55 #[.val (.ref a), .val (.int (0 : Int32)), .val (.int (0 : Int32)), .unset, .unset] [(.ref b2)]))
  refine own_by (own_len X4 hx hZ e4 F_b2 (z := (64 : Int32)) (by decide) (g := (mkF m 55 #[.val (.ref a), .val (.int (0 : Int32)), .val (.int (0 : Int32)), .unset, .unset] [(.ref b2)])) rfl rfl (hb hby d6_55)) ?_
  show OEnds p e below s _ _ _ (T4.setTop (mkF m 56 #[.val (.ref a), .val (.int (0 : Int32)), .val (.int (0 : Int32)), .unset, .unset] [(.int (64 : Int32))]))
  refine own_by (fun _ k => XS.aloadN X4.here hx rfl (hb hby d6_56) rfl rfl k) ?_
  show OEnds p e below s _ _ _ (T4.setTop (mkF m 57 #[.val (.ref a), .val (.int (0 : Int32)), .val (.int (0 : Int32)), .unset, .unset] [(.ref a), (.int (64 : Int32))]))
  obtain ⟨T5, X5, e5, st5⟩ := getF X4 hx hZ hown (host := "") (Or.inl (hw _ (List.mem_of_getElem? (i := 33) rfl))) Via.refl e4 (O0.fld 8 rfl rfl) (g := (mkF m 57 #[.val (.ref a), .val (.int (0 : Int32)), .val (.int (0 : Int32)), .unset, .unset] [(.ref a), (.int (64 : Int32))])) rfl rfl (hb hby d6_57)
  refine own_by (st5) ?_
  show OEnds p e below s _ _ _ (T5.setTop (mkF m 60 #[.val (.ref a), .val (.int (0 : Int32)), .val (.int (0 : Int32)), .unset, .unset] [(.int (0 : Int32)), (.int (64 : Int32))]))
  refine own_by (fun _ k => XS.isub X5.here hx rfl (hb hby d6_60) rfl k) ?_
  show OEnds p e below s _ _ _ (T5.setTop (mkF m 61 #[.val (.ref a), .val (.int (0 : Int32)), .val (.int (0 : Int32)), .unset, .unset] [(.int (64 : Int32))]))
  refine own_by (fun _ k => XS.iconst X5.here hx rfl (hb hby d6_61) k) ?_
  show OEnds p e below s _ _ _ (T5.setTop (mkF m 62 #[.val (.ref a), .val (.int (0 : Int32)), .val (.int (0 : Int32)), .unset, .unset] [(.int (2 : Int32)), (.int (64 : Int32))]))
  refine own_by (fun _ k => XS.iloadN X5.here hx rfl (hb hby d6_62) rfl k) ?_
  show OEnds p e below s _ _ _ (T5.setTop (mkF m 63 #[.val (.ref a), .val (.int (0 : Int32)), .val (.int (0 : Int32)), .unset, .unset] [(.int (0 : Int32)), (.int (2 : Int32)), (.int (64 : Int32))]))
  refine own_by (fun _ k => XS.imul X5.here hx rfl (hb hby d6_63) rfl k) ?_
  show OEnds p e below s _ _ _ (T5.setTop (mkF m 64 #[.val (.ref a), .val (.int (0 : Int32)), .val (.int (0 : Int32)), .unset, .unset] [(.int (0 : Int32)), (.int (64 : Int32))]))
  refine own_by (fun _ k => XS.icmpYes X5.here hx rfl (pc0 := 64) (pc' := 96) rfl (hb hby d6_64) rfl (flt (by decide : ¬ ((64 : Int32) < (0 : Int32)))).2.1 (by decide) (by decide) k) ?_
  show OEnds p e below s _ _ _ (T5.setTop (mkF m 96 #[.val (.ref a), .val (.int (0 : Int32)), .val (.int (0 : Int32)), .unset, .unset] []))
  refine own_by (fun _ k => XS.aloadN X5.here hx rfl (hb hby d6_96) rfl rfl k) ?_
  show OEnds p e below s _ _ _ (T5.setTop (mkF m 97 #[.val (.ref a), .val (.int (0 : Int32)), .val (.int (0 : Int32)), .unset, .unset] [(.ref a)]))
  obtain ⟨T6, X6, e6, st6⟩ := getF X5 hx hZ hown (host := "") (Or.inl (hw _ (List.mem_of_getElem? (i := 35) rfl))) Via.refl e5 (O0.fld 9 rfl rfl) (g := (mkF m 97 #[.val (.ref a), .val (.int (0 : Int32)), .val (.int (0 : Int32)), .unset, .unset] [(.ref a)])) rfl rfl (hb hby d6_97)
  refine own_by (st6) ?_
  show OEnds p e below s _ _ _ (T6.setTop (mkF m 100 #[.val (.ref a), .val (.int (0 : Int32)), .val (.int (0 : Int32)), .unset, .unset] [(.int (0 : Int32))]))
  refine own_by (fun _ k => XS.aloadN X6.here hx rfl (hb hby d6_100) rfl rfl k) ?_
  show OEnds p e below s _ _ _ (T6.setTop (mkF m 101 #[.val (.ref a), .val (.int (0 : Int32)), .val (.int (0 : Int32)), .unset, .unset] [(.ref a), (.int (0 : Int32))]))
  obtain ⟨T7, X7, e7, st7⟩ := getF X6 hx hZ hown (host := "") (Or.inl (hw _ (List.mem_of_getElem? (i := 16) rfl))) Via.refl e6 (O0.fld 2 rfl rfl) (g := (mkF m 101 #[.val (.ref a), .val (.int (0 : Int32)), .val (.int (0 : Int32)), .unset, .unset] [(.ref a), (.int (0 : Int32))])) rfl rfl (hb hby d6_101)
  refine own_by (st7) ?_
  show OEnds p e below s _ _ _ (T7.setTop (mkF m 104 #[.val (.ref a), .val (.int (0 : Int32)), .val (.int (0 : Int32)), .unset, .unset] [(.ref b3), (.int (0 : Int32))]))
  refine own_by (own_len X7 hx hZ e7 F_b3 (z := (16 : Int32)) (by decide) (g := (mkF m 104 #[.val (.ref a), .val (.int (0 : Int32)), .val (.int (0 : Int32)), .unset, .unset] [(.ref b3), (.int (0 : Int32))])) rfl rfl (hb hby d6_104)) ?_
  show OEnds p e below s _ _ _ (T7.setTop (mkF m 105 #[.val (.ref a), .val (.int (0 : Int32)), .val (.int (0 : Int32)), .unset, .unset] [(.int (16 : Int32)), (.int (0 : Int32))]))
  refine own_by (fun _ k => XS.icmpYes X7.here hx rfl (pc0 := 105) (pc' := 159) rfl (hb hby d6_105) rfl (feq (by decide : ¬ ((0 : Int32) = (16 : Int32)))).2 (by decide) (by decide) k) ?_
  show OEnds p e below s _ _ _ (T7.setTop (mkF m 159 #[.val (.ref a), .val (.int (0 : Int32)), .val (.int (0 : Int32)), .unset, .unset] []))
  refine own_by (fun _ k => XS.aloadN X7.here hx rfl (hb hby d6_159) rfl rfl k) ?_
  show OEnds p e below s _ _ _ (T7.setTop (mkF m 160 #[.val (.ref a), .val (.int (0 : Int32)), .val (.int (0 : Int32)), .unset, .unset] [(.ref a)]))
  obtain ⟨T8, X8, e8, st8⟩ := getF X7 hx hZ hown (host := "") (Or.inl (hw _ (List.mem_of_getElem? (i := 16) rfl))) Via.refl e7 (O0.fld 2 rfl rfl) (g := (mkF m 160 #[.val (.ref a), .val (.int (0 : Int32)), .val (.int (0 : Int32)), .unset, .unset] [(.ref a)])) rfl rfl (hb hby d6_160)
  refine own_by (st8) ?_
  show OEnds p e below s _ _ _ (T8.setTop (mkF m 163 #[.val (.ref a), .val (.int (0 : Int32)), .val (.int (0 : Int32)), .unset, .unset] [(.ref b3)]))
  refine own_by (fun _ k => XS.aloadN X8.here hx rfl (hb hby d6_163) rfl rfl k) ?_
  show OEnds p e below s _ _ _ (T8.setTop (mkF m 164 #[.val (.ref a), .val (.int (0 : Int32)), .val (.int (0 : Int32)), .unset, .unset] [(.ref a), (.ref b3)]))
  obtain ⟨T9, X9, e9, st9⟩ := getF X8 hx hZ hown (host := "") (Or.inl (hw _ (List.mem_of_getElem? (i := 35) rfl))) Via.refl e8 (O0.fld 9 rfl rfl) (g := (mkF m 164 #[.val (.ref a), .val (.int (0 : Int32)), .val (.int (0 : Int32)), .unset, .unset] [(.ref a), (.ref b3)])) rfl rfl (hb hby d6_164)
  refine own_by (st9) ?_
  show OEnds p e below s _ _ _ (T9.setTop (mkF m 167 #[.val (.ref a), .val (.int (0 : Int32)), .val (.int (0 : Int32)), .unset, .unset] [(.int (0 : Int32)), (.ref b3)]))
  refine own_by (fun _ k => XS.iloadN X9.here hx rfl (hb hby d6_167) rfl k) ?_
  show OEnds p e below s _ _ _ (T9.setTop (mkF m 168 #[.val (.ref a), .val (.int (0 : Int32)), .val (.int (0 : Int32)), .unset, .unset] [(.int (0 : Int32)), (.int (0 : Int32)), (.ref b3)]))
  obtain ⟨T10, h10, X10, e10, W10, st10⟩ := own_iastore X9 hx hZ e9 F_b3 0 (by decide) (by decide) (g := (mkF m 168 #[.val (.ref a), .val (.int (0 : Int32)), .val (.int (0 : Int32)), .unset, .unset] [(.int (0 : Int32)), (.int (0 : Int32)), (.ref b3)])) rfl rfl (hb hby d6_168)
  refine own_by (st10) ?_
  have F10 : FA Z h10 b3 .int 16 (fun i => .int ((updI g3 0 (0 : Int32)) i)) := F_b3.setI W10
  have N10 := Fr.snoc X10 N0 g_b3
  have Z10 : n0 ≤ h10.size := Nat.le_trans Z0 (Keep.of_wr W10).1
  have K10 : Keep h0 h10 [a, b3, b4, b5] := K0.wr W10 (Or.inl (List.mem_of_getElem? (i := 1) rfl))
  show OEnds p e below s _ _ _ (T10.setTop (mkF m 169 #[.val (.ref a), .val (.int (0 : Int32)), .val (.int (0 : Int32)), .unset, .unset] []))
  refine own_by (fun _ k => XS.aloadN X10.here hx rfl (hb hby d6_169) rfl rfl k) ?_
  show OEnds p e below s _ _ _ (T10.setTop (mkF m 170 #[.val (.ref a), .val (.int (0 : Int32)), .val (.int (0 : Int32)), .unset, .unset] [(.ref a)]))
  have O12 : Obj Z h10 a "com/example/graphweft/graphweft/RangeMaxTree" sch_rt [(.ref b1), (.ref b2), (.ref b3), (.ref b4), (.ref b5), (.ref b6), (.ref b7), (.int (0 : Int32)), (.int (0 : Int32)), (.int (0 : Int32)), (.int te), (.int ta), (.int se), (.int sa), (.int pn), (.long bd), (.int ss), (.int bs), (.int bc)] := (O0.other W10 (Nat.ne_of_lt (by omega)))
  obtain ⟨T11, X11, e11, st11⟩ := getF X10 hx hZ hown (host := "") (Or.inl (hw _ (List.mem_of_getElem? (i := 18) rfl))) Via.refl e10 (O12.fld 3 rfl rfl) (g := (mkF m 170 #[.val (.ref a), .val (.int (0 : Int32)), .val (.int (0 : Int32)), .unset, .unset] [(.ref a)])) rfl rfl (hb hby d6_170)
  refine own_by (st11) ?_
  show OEnds p e below s _ _ _ (T11.setTop (mkF m 173 #[.val (.ref a), .val (.int (0 : Int32)), .val (.int (0 : Int32)), .unset, .unset] [(.ref b4)]))
  refine own_by (fun _ k => XS.aloadN X11.here hx rfl (hb hby d6_173) rfl rfl k) ?_
  show OEnds p e below s _ _ _ (T11.setTop (mkF m 174 #[.val (.ref a), .val (.int (0 : Int32)), .val (.int (0 : Int32)), .unset, .unset] [(.ref a), (.ref b4)]))
  obtain ⟨T13, X13, e13, st13⟩ := getF X11 hx hZ hown (host := "") (Or.inl (hw _ (List.mem_of_getElem? (i := 35) rfl))) Via.refl e11 (O12.fld 9 rfl rfl) (g := (mkF m 174 #[.val (.ref a), .val (.int (0 : Int32)), .val (.int (0 : Int32)), .unset, .unset] [(.ref a), (.ref b4)])) rfl rfl (hb hby d6_174)
  refine own_by (st13) ?_
  show OEnds p e below s _ _ _ (T13.setTop (mkF m 177 #[.val (.ref a), .val (.int (0 : Int32)), .val (.int (0 : Int32)), .unset, .unset] [(.int (0 : Int32)), (.ref b4)]))
  refine own_by (fun _ k => XS.aloadN X13.here hx rfl (hb hby d6_177) rfl rfl k) ?_
  show OEnds p e below s _ _ _ (T13.setTop (mkF m 178 #[.val (.ref a), .val (.int (0 : Int32)), .val (.int (0 : Int32)), .unset, .unset] [(.ref a), (.int (0 : Int32)), (.ref b4)]))
  obtain ⟨T14, X14, e14, st14⟩ := getF X13 hx hZ hown (host := "") (Or.inl (hw _ (List.mem_of_getElem? (i := 31) rfl))) Via.refl e13 (O12.fld 7 rfl rfl) (g := (mkF m 178 #[.val (.ref a), .val (.int (0 : Int32)), .val (.int (0 : Int32)), .unset, .unset] [(.ref a), (.int (0 : Int32)), (.ref b4)])) rfl rfl (hb hby d6_178)
  refine own_by (st14) ?_
  show OEnds p e below s _ _ _ (T14.setTop (mkF m 181 #[.val (.ref a), .val (.int (0 : Int32)), .val (.int (0 : Int32)), .unset, .unset] [(.int (0 : Int32)), (.int (0 : Int32)), (.ref b4)]))
  have F16 : FA Z h10 b4 .int 16 (fun i => .int (g4 i)) := (F_b4.other W10 (Ne.symm (Nat.ne_of_lt (by omega))))
  obtain ⟨T15, h15, X15, e15, W15, st15⟩ := own_iastore X14 hx hZ e14 F16 0 (by decide) (by decide) (g := (mkF m 181 #[.val (.ref a), .val (.int (0 : Int32)), .val (.int (0 : Int32)), .unset, .unset] [(.int (0 : Int32)), (.int (0 : Int32)), (.ref b4)])) rfl rfl (hb hby d6_181)
  refine own_by (st15) ?_
  have F15 : FA Z h15 b4 .int 16 (fun i => .int ((updI g4 0 (0 : Int32)) i)) := F16.setI W15
  have N15 := Fr.snoc X15 N10 g_b4
  have Z15 : n0 ≤ h15.size := Nat.le_trans Z10 (Keep.of_wr W15).1
  have K15 : Keep h0 h15 [a, b3, b4, b5] := K10.wr W15 (Or.inl (List.mem_of_getElem? (i := 2) rfl))
  show OEnds p e below s _ _ _ (T15.setTop (mkF m 182 #[.val (.ref a), .val (.int (0 : Int32)), .val (.int (0 : Int32)), .unset, .unset] []))
  refine own_by (fun _ k => XS.aloadN X15.here hx rfl (hb hby d6_182) rfl rfl k) ?_
  show OEnds p e below s _ _ _ (T15.setTop (mkF m 183 #[.val (.ref a), .val (.int (0 : Int32)), .val (.int (0 : Int32)), .unset, .unset] [(.ref a)]))
  have O18 : Obj Z h15 a "com/example/graphweft/graphweft/RangeMaxTree" sch_rt [(.ref b1), (.ref b2), (.ref b3), (.ref b4), (.ref b5), (.ref b6), (.ref b7), (.int (0 : Int32)), (.int (0 : Int32)), (.int (0 : Int32)), (.int te), (.int ta), (.int se), (.int sa), (.int pn), (.long bd), (.int ss), (.int bs), (.int bc)] := (O12.other W15 (Nat.ne_of_lt (by omega)))
  obtain ⟨T17, X17, e17, st17⟩ := getF X15 hx hZ hown (host := "") (Or.inl (hw _ (List.mem_of_getElem? (i := 20) rfl))) Via.refl e15 (O18.fld 4 rfl rfl) (g := (mkF m 183 #[.val (.ref a), .val (.int (0 : Int32)), .val (.int (0 : Int32)), .unset, .unset] [(.ref a)])) rfl rfl (hb hby d6_183)
  refine own_by (st17) ?_
  show OEnds p e below s _ _ _ (T17.setTop (mkF m 186 #[.val (.ref a), .val (.int (0 : Int32)), .val (.int (0 : Int32)), .unset, .unset] [(.ref b5)]))
  refine own_by (fun _ k => XS.aloadN X17.here hx rfl (hb hby d6_186) rfl rfl k) ?_
  show OEnds p e below s _ _ _ (T17.setTop (mkF m 187 #[.val (.ref a), .val (.int (0 : Int32)), .val (.int (0 : Int32)), .unset, .unset] [(.ref a), (.ref b5)]))
  obtain ⟨T19, X19, e19, st19⟩ := getF X17 hx hZ hown (host := "") (Or.inl (hw _ (List.mem_of_getElem? (i := 35) rfl))) Via.refl e17 (O18.fld 9 rfl rfl) (g := (mkF m 187 #[.val (.ref a), .val (.int (0 : Int32)), .val (.int (0 : Int32)), .unset, .unset] [(.ref a), (.ref b5)])) rfl rfl (hb hby d6_187)
  refine own_by (st19) ?_
  show OEnds p e below s _ _ _ (T19.setTop (mkF m 190 #[.val (.ref a), .val (.int (0 : Int32)), .val (.int (0 : Int32)), .unset, .unset] [(.int (0 : Int32)), (.ref b5)]))
  refine own_by (fun _ k => XS.aloadN X19.here hx rfl (hb hby d6_190) rfl rfl k) ?_
  show OEnds p e below s _ _ _ (T19.setTop (mkF m 191 #[.val (.ref a), .val (.int (0 : Int32)), .val (.int (0 : Int32)), .unset, .unset] [(.ref a), (.int (0 : Int32)), (.ref b5)]))
  obtain ⟨T20, X20, e20, st20⟩ := getF X19 hx hZ hown (host := "") (Or.inl (hw _ (List.mem_of_getElem? (i := 33) rfl))) Via.refl e19 (O18.fld 8 rfl rfl) (g := (mkF m 191 #[.val (.ref a), .val (.int (0 : Int32)), .val (.int (0 : Int32)), .unset, .unset] [(.ref a), (.int (0 : Int32)), (.ref b5)])) rfl rfl (hb hby d6_191)
  refine own_by (st20) ?_
  show OEnds p e below s _ _ _ (T20.setTop (mkF m 194 #[.val (.ref a), .val (.int (0 : Int32)), .val (.int (0 : Int32)), .unset, .unset] [(.int (0 : Int32)), (.int (0 : Int32)), (.ref b5)]))
  have F22 : FA Z h15 b5 .int 16 (fun i => .int (g5 i)) := ((F_b5.other W10 (Ne.symm (Nat.ne_of_lt (by omega)))).other W15 (Ne.symm (Nat.ne_of_lt (by omega))))
  obtain ⟨T21, h21, X21, e21, W21, st21⟩ := own_iastore X20 hx hZ e20 F22 0 (by decide) (by decide) (g := (mkF m 194 #[.val (.ref a), .val (.int (0 : Int32)), .val (.int (0 : Int32)), .unset, .unset] [(.int (0 : Int32)), (.int (0 : Int32)), (.ref b5)])) rfl rfl (hb hby d6_194)
  refine own_by (st21) ?_
  have F21 : FA Z h21 b5 .int 16 (fun i => .int ((updI g5 0 (0 : Int32)) i)) := F22.setI W21
  have N21 := Fr.snoc X21 N15 g_b5
  have Z21 : n0 ≤ h21.size := Nat.le_trans Z15 (Keep.of_wr W21).1
  have K21 : Keep h0 h21 [a, b3, b4, b5] := K15.wr W21 (Or.inl (List.mem_of_getElem? (i := 3) rfl))
  show OEnds p e below s _ _ _ (T21.setTop (mkF m 195 #[.val (.ref a), .val (.int (0 : Int32)), .val (.int (0 : Int32)), .unset, .unset] []))
  refine own_by (fun _ k => XS.aloadN X21.here hx rfl (hb hby d6_195) rfl rfl k) ?_
  show OEnds p e below s _ _ _ (T21.setTop (mkF m 196 #[.val (.ref a), .val (.int (0 : Int32)), .val (.int (0 : Int32)), .unset, .unset] [(.ref a)]))
  have O24 : Obj Z h21 a "com/example/graphweft/graphweft/RangeMaxTree" sch_rt [(.ref b1), (.ref b2), (.ref b3), (.ref b4), (.ref b5), (.ref b6), (.ref b7), (.int (0 : Int32)), (.int (0 : Int32)), (.int (0 : Int32)), (.int te), (.int ta), (.int se), (.int sa), (.int pn), (.long bd), (.int ss), (.int bs), (.int bc)] := (O18.other W21 (Nat.ne_of_lt (by omega)))
  obtain ⟨T23, X23, e23, st23⟩ := getF X21 hx hZ hown (host := "") (Or.inl (hw _ (List.mem_of_getElem? (i := 13) rfl))) Via.refl e21 (O24.fld 1 rfl rfl) (g := (mkF m 196 #[.val (.ref a), .val (.int (0 : Int32)), .val (.int (0 : Int32)), .unset, .unset] [(.ref a)])) rfl rfl (hb hby d6_196)
  refine own_by (st23) ?_
  show OEnds p e below s _ _ _ (T23.setTop (mkF m 199 #[.val (.ref a), .val (.int (0 : Int32)), .val (.int (0 : Int32)), .unset, .unset] [(.ref b2)]))
  refine own_by (fun _ k => XS.aloadN X23.here hx rfl (hb hby d6_199) rfl rfl k) ?_
  show OEnds p e below s _ _ _ (T23.setTop (mkF m 200 #[.val (.ref a), .val (.int (0 : Int32)), .val (.int (0 : Int32)), .unset, .unset] [(.ref a), (.ref b2)]))
  obtain ⟨T25, X25, e25, st25⟩ := getF X23 hx hZ hown (host := "") (Or.inl (hw _ (List.mem_of_getElem? (i := 33) rfl))) Via.refl e23 (O24.fld 8 rfl rfl) (g := (mkF m 200 #[.val (.ref a), .val (.int (0 : Int32)), .val (.int (0 : Int32)), .unset, .unset] [(.ref a), (.ref b2)])) rfl rfl (hb hby d6_200)
  refine own_by (st25) ?_
  show OEnds p e below s _ _ _ (T25.setTop (mkF m 203 #[.val (.ref a), .val (.int (0 : Int32)), .val (.int (0 : Int32)), .unset, .unset] [(.int (0 : Int32)), (.ref b2)]))
  refine own_by (fun _ k => XS.iloadN X25.here hx rfl (hb hby d6_203) rfl k) ?_
  show OEnds p e below s _ _ _ (T25.setTop (mkF m 204 #[.val (.ref a), .val (.int (0 : Int32)), .val (.int (0 : Int32)), .unset, .unset] [(.int (0 : Int32)), (.int (0 : Int32)), (.ref b2)]))
  refine own_by (fun _ k => XS.iadd X25.here hx rfl (hb hby d6_204) rfl k) ?_
  show OEnds p e below s _ _ _ (T25.setTop (mkF m 205 #[.val (.ref a), .val (.int (0 : Int32)), .val (.int (0 : Int32)), .unset, .unset] [(.int (0 : Int32)), (.ref b2)]))
  refine own_by (fun _ k => XS.aloadN X25.here hx rfl (hb hby d6_205) rfl rfl k) ?_
  show OEnds p e below s _ _ _ (T25.setTop (mkF m 206 #[.val (.ref a), .val (.int (0 : Int32)), .val (.int (0 : Int32)), .unset, .unset] [(.ref a), (.int (0 : Int32)), (.ref b2)]))
  obtain ⟨T26, X26, e26, st26⟩ := getF X25 hx hZ hown (host := "") (Or.inl (hw _ (List.mem_of_getElem? (i := 33) rfl))) Via.refl e25 (O24.fld 8 rfl rfl) (g := (mkF m 206 #[.val (.ref a), .val (.int (0 : Int32)), .val (.int (0 : Int32)), .unset, .unset] [(.ref a), (.int (0 : Int32)), (.ref b2)])) rfl rfl (hb hby d6_206)
  refine own_by (st26) ?_
  show OEnds p e below s _ _ _ (T26.setTop (mkF m 209 #[.val (.ref a), .val (.int (0 : Int32)), .val (.int (0 : Int32)), .unset, .unset] [(.int (0 : Int32)), (.int (0 : Int32)), (.ref b2)]))
  refine own_by (fun _ k => XS.iconst X26.here hx rfl (hb hby d6_209) k) ?_
  show OEnds p e below s _ _ _ (T26.setTop (mkF m 210 #[.val (.ref a), .val (.int (0 : Int32)), .val (.int (0 : Int32)), .unset, .unset] [(.int (2 : Int32)), (.int (0 : Int32)), (.int (0 : Int32)), (.ref b2)]))
  refine own_by (fun _ k => XS.iloadN X26.here hx rfl (hb hby d6_210) rfl k) ?_
  show OEnds p e below s _ _ _ (T26.setTop (mkF m 211 #[.val (.ref a), .val (.int (0 : Int32)), .val (.int (0 : Int32)), .unset, .unset] [(.int (0 : Int32)), (.int (2 : Int32)), (.int (0 : Int32)), (.int (0 : Int32)), (.ref b2)]))
  refine own_by (fun _ k => XS.imul X26.here hx rfl (hb hby d6_211) rfl k) ?_
  show OEnds p e below s _ _ _ (T26.setTop (mkF m 212 #[.val (.ref a), .val (.int (0 : Int32)), .val (.int (0 : Int32)), .unset, .unset] [(.int (0 : Int32)), (.int (0 : Int32)), (.int (0 : Int32)), (.ref b2)]))
  refine own_by (fun _ k => XS.iadd X26.here hx rfl (hb hby d6_212) rfl k) ?_
  show OEnds p e below s _ _ _ (T26.setTop (mkF m 213 #[.val (.ref a), .val (.int (0 : Int32)), .val (.int (0 : Int32)), .unset, .unset] [(.int (0 : Int32)), (.int (0 : Int32)), (.ref b2)]))
  refine own_by (X26.ldc2Long hx hown (mvT hZ (hw _ (List.mem_of_getElem? (i := 62) rfl))) (g := (mkF m 213 #[.val (.ref a), .val (.int (0 : Int32)), .val (.int (0 : Int32)), .unset, .unset] [(.int (0 : Int32)), (.int (0 : Int32)), (.ref b2)])) rfl (hb hby d6_213)) ?_
  show OEnds p e below s _ _ _ (T26.setTop (mkF m 216 #[.val (.ref a), .val (.int (0 : Int32)), .val (.int (0 : Int32)), .unset, .unset] [(.long (-9223372036854775808 : Int64)), (.int (0 : Int32)), (.int (0 : Int32)), (.ref b2)]))
  have F28 : FA Z h21 b2 .long 64 (fun i => .long (g2 i)) := (((F_b2.other W10 (Nat.ne_of_lt (by omega))).other W15 (Nat.ne_of_lt (by omega))).other W21 (Nat.ne_of_lt (by omega)))
  obtain ⟨v27, T27, L27, h27, X27, e27, hQ27, st27⟩ := own_callS X26 hx hZ (y := (⟨"java/util/Arrays", "fill", "([JIIJ)V"⟩ : MethodName)) hown (hw _ (List.mem_of_getElem? (i := 63) rfl)) (hw _ (List.mem_of_getElem? (i := 64) rfl)) (hw _ (List.mem_of_getElem? (i := 65) rfl)) (hw _ (List.mem_of_getElem? (i := 66) rfl)) (by decide) (rm_fill_0_0 l Z a0 hw [] b2 (-9223372036854775808 : Int64) g2 h21 n0 Z21 F28) e26 (g := (mkF m 216 #[.val (.ref a), .val (.int (0 : Int32)), .val (.int (0 : Int32)), .unset, .unset] [(.long (-9223372036854775808 : Int64)), (.int (0 : Int32)), (.int (0 : Int32)), (.ref b2)])) rfl (by rw [hml]; rfl) (argsL := [(.ref b2), (.int (0 : Int32)), (.int (0 : Int32)), (.long (-9223372036854775808 : Int64))]) (rest := []) (lenOf pd_paJIIJrV rfl) rfl (W := 0) (by show 2 * 0 + _ ≤ _; exact Nat.le_of_eq rfl) (hb hby d6_216) (by decide) (by decide) (by decide) (by decide)
  obtain ⟨rfl, Nq27, Kq27⟩ := hQ27
  have N27 := Fr.app N21 Nq27
  have K27 : Keep h0 h27 [a, b3, b4, b5] := K21.trans Kq27 all0
  have Z27 : n0 ≤ h27.size := Nat.le_trans Z21 Kq27.1
  refine own_tr st27 ?_
  show OEnds p e below s _ _ _ (T27.setTop (mkF m 219 #[.val (.ref a), .val (.int (0 : Int32)), .val (.int (0 : Int32)), .unset, .unset] []))
  refine own_by (fun _ k => XS.iloadN X27.here hx rfl (hb hby d6_219) rfl k) ?_
  show OEnds p e below s _ _ _ (T27.setTop (mkF m 220 #[.val (.ref a), .val (.int (0 : Int32)), .val (.int (0 : Int32)), .unset, .unset] [(.int (0 : Int32))]))
  refine own_by (fun _ k => XS.istoreN X27.here hx rfl (hb hby d6_220) rfl (l' := #[.val (.ref a), .val (.int (0 : Int32)), .val (.int (0 : Int32)), .val (.int (0 : Int32)), .unset]) rfl k) ?_
  show OEnds p e below s _ _ _ (T27.setTop (mkF m 221 #[.val (.ref a), .val (.int (0 : Int32)), .val (.int (0 : Int32)), .val (.int (0 : Int32)), .unset] []))
  refine own_by (fun _ k => XS.iloadN X27.here hx rfl (hb hby d6_221) rfl k) ?_
  show OEnds p e below s _ _ _ (T27.setTop (mkF m 222 #[.val (.ref a), .val (.int (0 : Int32)), .val (.int (0 : Int32)), .val (.int (0 : Int32)), .unset] [(.int (0 : Int32))]))
  refine own_by (fun _ k => XS.aloadN X27.here hx rfl (hb hby d6_222) rfl rfl k) ?_
  show OEnds p e below s _ _ _ (T27.setTop (mkF m 223 #[.val (.ref a), .val (.int (0 : Int32)), .val (.int (0 : Int32)), .val (.int (0 : Int32)), .unset] [(.ref a), (.int (0 : Int32))]))
  have O30 : Obj Z h27 a "com/example/graphweft/graphweft/RangeMaxTree" sch_rt [(.ref b1), (.ref b2), (.ref b3), (.ref b4), (.ref b5), (.ref b6), (.ref b7), (.int (0 : Int32)), (.int (0 : Int32)), (.int (0 : Int32)), (.int te), (.int ta), (.int se), (.int sa), (.int pn), (.long bd), (.int ss), (.int bs), (.int bc)] := (O24.keep Kq27 nin0)
  obtain ⟨T29, X29, e29, st29⟩ := getF X27 hx hZ hown (host := "") (Or.inl (hw _ (List.mem_of_getElem? (i := 31) rfl))) Via.refl e27 (O30.fld 7 rfl rfl) (g := (mkF m 223 #[.val (.ref a), .val (.int (0 : Int32)), .val (.int (0 : Int32)), .val (.int (0 : Int32)), .unset] [(.ref a), (.int (0 : Int32))])) rfl rfl (hb hby d6_223)
  refine own_by (st29) ?_
  show OEnds p e below s _ _ _ (T29.setTop (mkF m 226 #[.val (.ref a), .val (.int (0 : Int32)), .val (.int (0 : Int32)), .val (.int (0 : Int32)), .unset] [(.int (0 : Int32)), (.int (0 : Int32))]))
  refine own_by (fun _ k => XS.icmpYes X29.here hx rfl (pc0 := 226) (pc' := 273) rfl (hb hby d6_226) rfl (flt (by decide : ¬ ((0 : Int32) < (0 : Int32)))).2.1 (by decide) (by decide) k) ?_
  show OEnds p e below s _ _ _ (T29.setTop (mkF m 273 #[.val (.ref a), .val (.int (0 : Int32)), .val (.int (0 : Int32)), .val (.int (0 : Int32)), .unset] []))
  refine own_by (fun _ k => XS.iloadN X29.here hx rfl (hb hby d6_273) rfl k) ?_
  show OEnds p e below s _ _ _ (T29.setTop (mkF m 274 #[.val (.ref a), .val (.int (0 : Int32)), .val (.int (0 : Int32)), .val (.int (0 : Int32)), .unset] [(.int (0 : Int32))]))
  refine own_by (fun _ k => XS.iconst X29.here hx rfl (hb hby d6_274) k) ?_
  show OEnds p e below s _ _ _ (T29.setTop (mkF m 275 #[.val (.ref a), .val (.int (0 : Int32)), .val (.int (0 : Int32)), .val (.int (0 : Int32)), .unset] [(.int (1 : Int32)), (.int (0 : Int32))]))
  refine own_by (fun _ k => XS.isub X29.here hx rfl (hb hby d6_275) rfl k) ?_
  show OEnds p e below s _ _ _ (T29.setTop (mkF m 276 #[.val (.ref a), .val (.int (0 : Int32)), .val (.int (0 : Int32)), .val (.int (0 : Int32)), .unset] [(.int (-1 : Int32))]))
  refine own_by (fun _ k => XS.istoreN X29.here hx rfl (hb hby d6_276) rfl (l' := #[.val (.ref a), .val (.int (0 : Int32)), .val (.int (0 : Int32)), .val (.int (-1 : Int32)), .unset]) rfl k) ?_
  show OEnds p e below s _ _ _ (T29.setTop (mkF m 277 #[.val (.ref a), .val (.int (0 : Int32)), .val (.int (0 : Int32)), .val (.int (-1 : Int32)), .unset] []))
  refine own_by (fun _ k => XS.iloadN X29.here hx rfl (hb hby d6_277) rfl k) ?_
  show OEnds p e below s _ _ _ (T29.setTop (mkF m 278 #[.val (.ref a), .val (.int (0 : Int32)), .val (.int (0 : Int32)), .val (.int (-1 : Int32)), .unset] [(.int (-1 : Int32))]))
  refine own_by (fun _ k => XS.ifYes X29.here hx rfl (pc0 := 278) (pc' := 329) rfl (hb hby d6_278) rfl ((if0 _ _).trans (flt (by decide : ¬ ((0 : Int32) < (-1 : Int32)))).2.2.2) (by decide) (by decide) k) ?_
  show OEnds p e below s _ _ _ (T29.setTop (mkF m 329 #[.val (.ref a), .val (.int (0 : Int32)), .val (.int (0 : Int32)), .val (.int (-1 : Int32)), .unset] []))
  refine own_by (fun _ k => XS.aloadN X29.here hx rfl (hb hby d6_329) rfl rfl k) ?_
  show OEnds p e below s _ _ _ (T29.setTop (mkF m 330 #[.val (.ref a), .val (.int (0 : Int32)), .val (.int (0 : Int32)), .val (.int (-1 : Int32)), .unset] [(.ref a)]))
  refine own_by (fun _ k => XS.dup X29.here hx rfl (hb hby d6_330) rfl rfl k) ?_
  show OEnds p e below s _ _ _ (T29.setTop (mkF m 331 #[.val (.ref a), .val (.int (0 : Int32)), .val (.int (0 : Int32)), .val (.int (-1 : Int32)), .unset] [(.ref a), (.ref a)]))
  obtain ⟨T31, X31, e31, st31⟩ := getF X29 hx hZ hown (host := "") (Or.inl (hw _ (List.mem_of_getElem? (i := 33) rfl))) Via.refl e29 (O30.fld 8 rfl rfl) (g := (mkF m 331 #[.val (.ref a), .val (.int (0 : Int32)), .val (.int (0 : Int32)), .val (.int (-1 : Int32)), .unset] [(.ref a), (.ref a)])) rfl rfl (hb hby d6_331)
  refine own_by (st31) ?_
  show OEnds p e below s _ _ _ (T31.setTop (mkF m 334 #[.val (.ref a), .val (.int (0 : Int32)), .val (.int (0 : Int32)), .val (.int (-1 : Int32)), .unset] [(.int (0 : Int32)), (.ref a)]))
  refine own_by (fun _ k => XS.iconst X31.here hx rfl (hb hby d6_334) k) ?_
  show OEnds p e below s _ _ _ (T31.setTop (mkF m 335 #[.val (.ref a), .val (.int (0 : Int32)), .val (.int (0 : Int32)), .val (.int (-1 : Int32)), .unset] [(.int (2 : Int32)), (.int (0 : Int32)), (.ref a)]))
  refine own_by (fun _ k => XS.iloadN X31.here hx rfl (hb hby d6_335) rfl k) ?_
  show OEnds p e below s _ _ _ (T31.setTop (mkF m 336 #[.val (.ref a), .val (.int (0 : Int32)), .val (.int (0 : Int32)), .val (.int (-1 : Int32)), .unset] [(.int (0 : Int32)), (.int (2 : Int32)), (.int (0 : Int32)), (.ref a)]))
  refine own_by (fun _ k => XS.imul X31.here hx rfl (hb hby d6_336) rfl k) ?_
  show OEnds p e below s _ _ _ (T31.setTop (mkF m 337 #[.val (.ref a), .val (.int (0 : Int32)), .val (.int (0 : Int32)), .val (.int (-1 : Int32)), .unset] [(.int (0 : Int32)), (.int (0 : Int32)), (.ref a)]))
  refine own_by (fun _ k => XS.iadd X31.here hx rfl (hb hby d6_337) rfl k) ?_
  show OEnds p e below s _ _ _ (T31.setTop (mkF m 338 #[.val (.ref a), .val (.int (0 : Int32)), .val (.int (0 : Int32)), .val (.int (-1 : Int32)), .unset] [(.int (0 : Int32)), (.ref a)]))
  obtain ⟨T32, h32, X32, e32, W32, st32⟩ := putF X31 hx hZ hown (host := "") (Or.inl (hw _ (List.mem_of_getElem? (i := 33) rfl))) Via.refl e31 (O30.fld 8 rfl rfl) O30.exa (Or.inl (hw _ (List.mem_of_getElem? (i := 34) rfl))) (hw _ (List.mem_of_getElem? (i := 2) rfl)) (ty := .int) (by decide) rfl rfl (g := (mkF m 338 #[.val (.ref a), .val (.int (0 : Int32)), .val (.int (0 : Int32)), .val (.int (-1 : Int32)), .unset] [(.int (0 : Int32)), (.ref a)])) rfl rfl (hb hby d6_338)
  refine own_by (st32) ?_
  have O32 : Obj Z h32 a "com/example/graphweft/graphweft/RangeMaxTree" sch_rt [(.ref b1), (.ref b2), (.ref b3), (.ref b4), (.ref b5), (.ref b6), (.ref b7), (.int (0 : Int32)), (.int (0 : Int32)), (.int (0 : Int32)), (.int te), (.int ta), (.int se), (.int sa), (.int pn), (.long bd), (.int ss), (.int bs), (.int bc)] := O30.set (so_sch_rt hw) W32 8 rfl (Nat.le_of_ble_eq_true rfl)
  have N32 := Fr.snoc X32 N27 g_a
  have Z32 : n0 ≤ h32.size := Nat.le_trans Z27 (Keep.of_wr W32).1
  have K32 : Keep h0 h32 [a, b3, b4, b5] := K27.wr W32 (Or.inl (List.mem_of_getElem? (i := 0) rfl))
  show OEnds p e below s _ _ _ (T32.setTop (mkF m 341 #[.val (.ref a), .val (.int (0 : Int32)), .val (.int (0 : Int32)), .val (.int (-1 : Int32)), .unset] []))
  refine own_by (fun _ k => XS.aloadN X32.here hx rfl (hb hby d6_341) rfl rfl k) ?_
  show OEnds p e below s _ _ _ (T32.setTop (mkF m 342 #[.val (.ref a), .val (.int (0 : Int32)), .val (.int (0 : Int32)), .val (.int (-1 : Int32)), .unset] [(.ref a)]))
  refine own_by (fun _ k => XS.dup X32.here hx rfl (hb hby d6_342) rfl rfl k) ?_
  show OEnds p e below s _ _ _ (T32.setTop (mkF m 343 #[.val (.ref a), .val (.int (0 : Int32)), .val (.int (0 : Int32)), .val (.int (-1 : Int32)), .unset] [(.ref a), (.ref a)]))
  obtain ⟨T33, X33, e33, st33⟩ := getF X32 hx hZ hown (host := "") (Or.inl (hw _ (List.mem_of_getElem? (i := 35) rfl))) Via.refl e32 (O32.fld 9 rfl rfl) (g := (mkF m 343 #[.val (.ref a), .val (.int (0 : Int32)), .val (.int (0 : Int32)), .val (.int (-1 : Int32)), .unset] [(.ref a), (.ref a)])) rfl rfl (hb hby d6_343)
  refine own_by (st33) ?_
  show OEnds p e below s _ _ _ (T33.setTop (mkF m 346 #[.val (.ref a), .val (.int (0 : Int32)), .val (.int (0 : Int32)), .val (.int (-1 : Int32)), .unset] [(.int (0 : Int32)), (.ref a)]))
  refine own_by (fun _ k => XS.dupX1 X33.here hx rfl (hb hby d6_346) rfl rfl rfl k) ?_
  show OEnds p e below s _ _ _ (T33.setTop (mkF m 347 #[.val (.ref a), .val (.int (0 : Int32)), .val (.int (0 : Int32)), .val (.int (-1 : Int32)), .unset] [(.int (0 : Int32)), (.ref a), (.int (0 : Int32))]))
  refine own_by (fun _ k => XS.iconst X33.here hx rfl (hb hby d6_347) k) ?_
  show OEnds p e below s _ _ _ (T33.setTop (mkF m 348 #[.val (.ref a), .val (.int (0 : Int32)), .val (.int (0 : Int32)), .val (.int (-1 : Int32)), .unset] [(.int (1 : Int32)), (.int (0 : Int32)), (.ref a), (.int (0 : Int32))]))
  refine own_by (fun _ k => XS.iadd X33.here hx rfl (hb hby d6_348) rfl k) ?_
  show OEnds p e below s _ _ _ (T33.setTop (mkF m 349 #[.val (.ref a), .val (.int (0 : Int32)), .val (.int (0 : Int32)), .val (.int (-1 : Int32)), .unset] [(.int (1 : Int32)), (.ref a), (.int (0 : Int32))]))
  obtain ⟨T34, h34, X34, e34, W34, st34⟩ := putF X33 hx hZ hown (host := "") (Or.inl (hw _ (List.mem_of_getElem? (i := 35) rfl))) Via.refl e33 (O32.fld 9 rfl rfl) O32.exa (Or.inl (hw _ (List.mem_of_getElem? (i := 36) rfl))) (hw _ (List.mem_of_getElem? (i := 2) rfl)) (ty := .int) (by decide) rfl rfl (g := (mkF m 349 #[.val (.ref a), .val (.int (0 : Int32)), .val (.int (0 : Int32)), .val (.int (-1 : Int32)), .unset] [(.int (1 : Int32)), (.ref a), (.int (0 : Int32))])) rfl rfl (hb hby d6_349)
  refine own_by (st34) ?_
  have O34 : Obj Z h34 a "com/example/graphweft/graphweft/RangeMaxTree" sch_rt [(.ref b1), (.ref b2), (.ref b3), (.ref b4), (.ref b5), (.ref b6), (.ref b7), (.int (0 : Int32)), (.int (0 : Int32)), (.int (1 : Int32)), (.int te), (.int ta), (.int se), (.int sa), (.int pn), (.long bd), (.int ss), (.int bs), (.int bc)] := O32.set (so_sch_rt hw) W34 9 rfl (Nat.le_of_ble_eq_true rfl)
  have N34 := Fr.snoc X34 N32 g_a
  have Z34 : n0 ≤ h34.size := Nat.le_trans Z32 (Keep.of_wr W34).1
  have K34 : Keep h0 h34 [a, b3, b4, b5] := K32.wr W34 (Or.inl (List.mem_of_getElem? (i := 0) rfl))
  show OEnds p e below s _ _ _ (T34.setTop (mkF m 352 #[.val (.ref a), .val (.int (0 : Int32)), .val (.int (0 : Int32)), .val (.int (-1 : Int32)), .unset] [(.int (0 : Int32))]))
  have F35 : FA Z h34 b3 .int 16 (fun i => .int ((updI g3 0 (0 : Int32)) i)) := (((((F10.other W15 (Nat.ne_of_lt (by omega))).other W21 (Nat.ne_of_lt (by omega))).keep Kq27 nin0).other W32 (Ne.symm (Nat.ne_of_lt (by omega)))).other W34 (Ne.symm (Nat.ne_of_lt (by omega))))
  have F36 : FA Z h34 b4 .int 16 (fun i => .int ((updI g4 0 (0 : Int32)) i)) := ((((F15.other W21 (Nat.ne_of_lt (by omega))).keep Kq27 nin0).other W32 (Ne.symm (Nat.ne_of_lt (by omega)))).other W34 (Ne.symm (Nat.ne_of_lt (by omega))))
  have F37 : FA Z h34 b5 .int 16 (fun i => .int ((updI g5 0 (0 : Int32)) i)) := (((F21.keep Kq27 nin0).other W32 (Ne.symm (Nat.ne_of_lt (by omega)))).other W34 (Ne.symm (Nat.ne_of_lt (by omega))))
  exact own_retI X34 hx hlk Bd.returns (hb hby d6_352) (by rw [e34]; exact ⟨rfl, N34, K34, O34, F35, F36, F37⟩) (by decide) (by decide)
theorem d6_48 : decode prog_32_method_5_code 48 = .ok (.iconst 1, 1) := by decide +kernel
theorem d6_229 : decode prog_32_method_5_code 229 = .ok (.aload_n 0, 1) := by decide +kernel
theorem d6_230 : decode prog_32_method_5_code 230 = .ok (.getfield 36, 3) := by decide +kernel
theorem d6_233 : decode prog_32_method_5_code 233 = .ok (.iload_n 2, 1) := by decide +kernel
theorem d6_234 : decode prog_32_method_5_code 234 = .ok (.iadd, 1) := by decide +kernel
theorem d6_235 : decode prog_32_method_5_code 235 = .ok (.iload_n 3, 1) := by decide +kernel
theorem d6_236 : decode prog_32_method_5_code 236 = .ok (.iload_n 1, 1) := by decide +kernel
theorem d6_237 : decode prog_32_method_5_code 237 = .ok (.isub, 1) := by decide +kernel
theorem d6_238 : decode prog_32_method_5_code 238 = .ok (.bipush 8, 2) := by decide +kernel
theorem d6_240 : decode prog_32_method_5_code 240 = .ok (.idiv, 1) := by decide +kernel
theorem d6_241 : decode prog_32_method_5_code 241 = .ok (.iadd, 1) := by decide +kernel
theorem d6_242 : decode prog_32_method_5_code 242 = .ok (.istore 4, 2) := by decide +kernel
theorem d6_244 : decode prog_32_method_5_code 244 = .ok (.aload_n 0, 1) := by decide +kernel
theorem d6_245 : decode prog_32_method_5_code 245 = .ok (.getfield 13, 3) := by decide +kernel
theorem d6_248 : decode prog_32_method_5_code 248 = .ok (.iload 4, 2) := by decide +kernel
theorem d6_250 : decode prog_32_method_5_code 250 = .ok (.aload_n 0, 1) := by decide +kernel
theorem d6_251 : decode prog_32_method_5_code 251 = .ok (.getfield 13, 3) := by decide +kernel
theorem d6_254 : decode prog_32_method_5_code 254 = .ok (.iload 4, 2) := by decide +kernel
theorem d6_256 : decode prog_32_method_5_code 256 = .ok (.laload, 1) := by decide +kernel
theorem d6_257 : decode prog_32_method_5_code 257 = .ok (.aload_n 0, 1) := by decide +kernel
theorem d6_258 : decode prog_32_method_5_code 258 = .ok (.getfield 7, 3) := by decide +kernel
theorem d6_261 : decode prog_32_method_5_code 261 = .ok (.iload_n 3, 1) := by decide +kernel
theorem d6_262 : decode prog_32_method_5_code 262 = .ok (.laload, 1) := by decide +kernel
theorem d6_263 : decode prog_32_method_5_code 263 = .ok (.invokestatic 80, 3) := by decide +kernel
theorem d6_266 : decode prog_32_method_5_code 266 = .ok (.lastore, 1) := by decide +kernel
theorem d6_267 : decode prog_32_method_5_code 267 = .ok (.iinc 3 1, 3) := by decide +kernel
theorem d6_270 : decode prog_32_method_5_code 270 = .ok (.goto (-49), 3) := by decide +kernel
def Q_index_1 (Z : State) (a : Addr) (b1 : Addr) (b2 : Addr) (b3 : Addr) (b4 : Addr) (b5 : Addr) (b6 : Addr) (b7 : Addr) (te : Int32) (ta : Int32) (se : Int32) (sa : Int32) (pn : Int32) (bd : Int64) (ss : Int32) (bs : Int32) (bc : Int32) (g1 : Nat → Int64) (g2 : Nat → Int64) (g3 : Nat → Int32) (g4 : Nat → Int32) (g5 : Nat → Int32) (h0 : Heap) (n0 : Nat) (r : Option Value) (h : Heap) (L : List Loc) : Prop := r = some (.int (0 : Int32)) ∧ Fr n0 L ∧ Keep h0 h [a, b2, b3, b4, b5] ∧ Obj Z h a "com/example/graphweft/graphweft/RangeMaxTree" sch_rt [(.ref b1), (.ref b2), (.ref b3), (.ref b4), (.ref b5), (.ref b6), (.ref b7), (.int (1 : Int32)), (.int (2 : Int32)), (.int (1 : Int32)), (.int te), (.int ta), (.int se), (.int sa), (.int pn), (.long bd), (.int ss), (.int bs), (.int bc)] ∧ FA Z h b2 .long 64 (fun i => .long ((updL (updL g2 1 (-9223372036854775808 : Int64)) 1 (jmax ((updL g2 1 (-9223372036854775808 : Int64)) 1) (g1 0))) i)) ∧ FA Z h b3 .int 16 (fun i => .int ((updI g3 0 (0 : Int32)) i)) ∧ FA Z h b4 .int 16 (fun i => .int ((updI g4 0 (1 : Int32)) i)) ∧ FA Z h b5 .int 16 (fun i => .int ((updI g5 0 (0 : Int32)) i))
set_option maxRecDepth 65536 in
set_option maxHeartbeats 40000000 in
theorem rm_index_1 (l : Launch) (Z : State) (a0 : Array Value) (hw : ∀ d ∈ tables_1, d.before a0 Z = true) (ws : List Jvm.Cond) (a : Addr) (b1 : Addr) (b2 : Addr) (b3 : Addr) (b4 : Addr) (b5 : Addr) (b6 : Addr) (b7 : Addr) (te : Int32) (ta : Int32) (se : Int32) (sa : Int32) (pn : Int32) (bd : Int64) (ss : Int32) (bs : Int32) (bc : Int32) (g1 : Nat → Int64) (g2 : Nat → Int64) (g3 : Nat → Int32) (g4 : Nat → Int32) (g5 : Nat → Int32) (h0 : Heap) (n0 : Nat) (Z0 : n0 ≤ h0.size) (O0 : Obj Z h0 a "com/example/graphweft/graphweft/RangeMaxTree" sch_rt [(.ref b1), (.ref b2), (.ref b3), (.ref b4), (.ref b5), (.ref b6), (.ref b7), (.int (1 : Int32)), (.int (0 : Int32)), (.int (0 : Int32)), (.int te), (.int ta), (.int se), (.int sa), (.int pn), (.long bd), (.int ss), (.int bs), (.int bc)]) (F_b1 : FA Z h0 b1 .long 64 (fun i => .long (g1 i))) (F_b2 : FA Z h0 b2 .long 64 (fun i => .long (g2 i))) (F_b3 : FA Z h0 b3 .int 16 (fun i => .int (g3 i))) (F_b4 : FA Z h0 b4 .int 16 (fun i => .int (g4 i))) (F_b5 : FA Z h0 b5 .int 16 (fun i => .int (g5 i))) (g_a : n0 ≤ a) (g_b2 : n0 ≤ b2) (g_b3 : n0 ≤ b3) (g_b4 : n0 ≤ b4) (g_b5 : n0 ≤ b5) (hord : @LT.lt Nat instLTNat a b1 ∧ @LT.lt Nat instLTNat b1 b2 ∧ @LT.lt Nat instLTNat b2 b3 ∧ @LT.lt Nat instLTNat b3 b4 ∧ @LT.lt Nat instLTNat b4 b5 ∧ @LT.lt Nat instLTNat b5 b6 ∧ @LT.lt Nat instLTNat b6 b7) :
    MetFree l (⟨"com/example/graphweft/graphweft/RangeMaxTree", "index", "()I"⟩ : MethodName) (head1 (Jvm.Cond.code (⟨"com/example/graphweft/graphweft/RangeMaxTree", "index", "()I"⟩ : MethodName) prog_32_method_5_code 5 (some .int) :: ws) ({ frames := 2, cells := 0, slots := 0, locals := 31 } : Room)) (fun a_ U => a_ = #[(.ref a)] ∧ Z.Warmed39 U.vm ∧ U.heap = h0) (fun _ _ _ _ _ => True) (fun _ U o U' => ∃ v_ L_, o = .returned v_ ∧ Q_index_1 Z a b1 b2 b3 b4 b5 b6 b7 te ta se sa pn bd ss bs bc g1 g2 g3 g4 g5 h0 n0 v_ U'.heap L_ ∧ FrameEnd U o U' L_ ({ frames := 2, cells := 0, slots := 0, locals := 31 } : Room).cells ({ frames := 2, cells := 0, slots := 0, locals := 31 } : Room).slots) := by
  refine MetFree.of_bodySF (plainFor_of_name pn_6) hisR ?_
  intro p e s m args below meth c s₁ Bd hml0 hP hK
  obtain ⟨rfl, hZ, hh⟩ := hP
  have hx := Bd.exec
  have hby := Bd.bytes
  have hlk : meth.locks = false := Bd.notSynchronized
  have hml : c.maxLocals = 5 := hml0
  have hown : s.vm.findClass "com/example/graphweft/graphweft/RangeMaxTree" = some m.cls := findClass_of_methodNamed Bd.named
  have hnm := (name_of_methodNamed Bd.named Bd.method).1
  have X0 : Stand p l e ({ frames := 2, cells := 0, slots := 0, locals := 31 } : Room) s m #[(.ref a)] below meth c s₁ [] 0 0 := Stand.of_body Bd
  have e0 : s₁.heap = h0 := by rw [← hh, Bd.state]; rfl
  have N0 := Fr.nil n0
  have K0 : Keep h0 h0 [a, b2, b3, b4, b5] := Keep.refl _ _
  show OEnds p e below s (Q_index_1 Z a b1 b2 b3 b4 b5 b6 b7 te ta se sa pn bd ss bs bc g1 g2 g3 g4 g5 h0 n0) _ _ _
  refine own_by (fun t k => castTop (ef_6 m a) k) ?_
  show OEnds p e below s _ _ _ (s₁.setTop (mkF m 0 #[.val (.ref a), .unset, .unset, .unset, .unset] []))
  refine own_by (fun _ k => XS.aloadN X0.here hx rfl (hb hby d6_0) rfl rfl k) ?_
  show OEnds p e below s _ _ _ (s₁.setTop (mkF m 1 #[.val (.ref a), .unset, .unset, .unset, .unset] [(.ref a)]))
  obtain ⟨T1, X1, e1, st1⟩ := getF X0 hx hZ hown (host := "") (Or.inl (hw _ (List.mem_of_getElem? (i := 35) rfl))) Via.refl e0 (O0.fld 9 rfl rfl) (g := (mkF m 1 #[.val (.ref a), .unset, .unset, .unset, .unset] [(.ref a)])) rfl rfl (hb hby d6_1)
  refine own_by (st1) ?_
  show OEnds p e below s _ _ _ (T1.setTop (mkF m 4 #[.val (.ref a), .unset, .unset, .unset, .unset] [(.int (0 : Int32))]))
  refine own_by (fun _ k => XS.ifNo X1.here hx rfl (hb hby d6_4) rfl ((if0 _ _).trans (teq (by decide : (0 : Int32) = (0 : Int32))).2) k) ?_
  show OEnds p e below s _ _ _ (T1.setTop (mkF m 7 #[.val (.ref a), .unset, .unset, .unset, .unset] []))
  refine own_by (fun _ k => XS.iconst X1.here hx rfl (hb hby d6_7) k) ?_
  show OEnds p e below s _ _ _ (T1.setTop (mkF m 8 #[.val (.ref a), .unset, .unset, .unset, .unset] [(.int (0 : Int32))]))
  refine own_by (fun _ k => XS.goto X1.here hx rfl (pc0 := 8) (pc' := 22) rfl (hb hby d6_8) (by decide) (by decide) k) ?_
  show OEnds p e below s _ _ _ (T1.setTop (mkF m 22 #[.val (.ref a), .unset, .unset, .unset, .unset] [(.int (0 : Int32))]))
  refine own_by (fun _ k => XS.istoreN X1.here hx rfl (hb hby d6_22) rfl (l' := #[.val (.ref a), .val (.int (0 : Int32)), .unset, .unset, .unset]) rfl k) ?_
  show OEnds p e below s _ _ _ (T1.setTop (mkF m 23 #[.val (.ref a), .val (.int (0 : Int32)), .unset, .unset, .unset] []))
  refine own_by (fun _ k => XS.aloadN X1.here hx rfl (hb hby d6_23) rfl rfl k) ?_
  show OEnds p e below s _ _ _ (T1.setTop (mkF m 24 #[.val (.ref a), .val (.int (0 : Int32)), .unset, .unset, .unset] [(.ref a)]))
  obtain ⟨T2, X2, e2, st2⟩ := getF X1 hx hZ hown (host := "") (Or.inl (hw _ (List.mem_of_getElem? (i := 31) rfl))) Via.refl e1 (O0.fld 7 rfl rfl) (g := (mkF m 24 #[.val (.ref a), .val (.int (0 : Int32)), .unset, .unset, .unset] [(.ref a)])) rfl rfl (hb hby d6_24)
  refine own_by (st2) ?_
  show OEnds p e below s _ _ _ (T2.setTop (mkF m 27 #[.val (.ref a), .val (.int (0 : Int32)), .unset, .unset, .unset] [(.int (1 : Int32))]))
  refine own_by (fun _ k => XS.iloadN X2.here hx rfl (hb hby d6_27) rfl k) ?_
  show OEnds p e below s _ _ _ (T2.setTop (mkF m 28 #[.val (.ref a), .val (.int (0 : Int32)), .unset, .unset, .unset] [(.int (0 : Int32)), (.int (1 : Int32))]))
  refine own_by (fun _ k => XS.isub X2.here hx rfl (hb hby d6_28) rfl k) ?_
  show OEnds p e below s _ _ _ (T2.setTop (mkF m 29 #[.val (.ref a), .val (.int (0 : Int32)), .unset, .unset, .unset] [(.int (1 : Int32))]))
  refine own_by (fun _ k => XS.bipush X2.here hx rfl (hb hby d6_29) k) ?_
  show OEnds p e below s _ _ _ (T2.setTop (mkF m 31 #[.val (.ref a), .val (.int (0 : Int32)), .unset, .unset, .unset] [(.int (8 : Int32)), (.int (1 : Int32))]))
  refine own_by (fun _ k => XS.idiv X2.here hx rfl (hb hby d6_31) rfl (by decide) k) ?_
  show OEnds p e below s _ _ _ (T2.setTop (mkF m 32 #[.val (.ref a), .val (.int (0 : Int32)), .unset, .unset, .unset] [(.int (0 : Int32))]))
  refine own_by (fun _ k => XS.aloadN X2.here hx rfl (hb hby d6_32) rfl rfl k) ?_
  show OEnds p e below s _ _ _ (T2.setTop (mkF m 33 #[.val (.ref a), .val (.int (0 : Int32)), .unset, .unset, .unset] [(.ref a), (.int (0 : Int32))]))
  obtain ⟨T3, X3, e3, st3⟩ := getF X2 hx hZ hown (host := "") (Or.inl (hw _ (List.mem_of_getElem? (i := 31) rfl))) Via.refl e2 (O0.fld 7 rfl rfl) (g := (mkF m 33 #[.val (.ref a), .val (.int (0 : Int32)), .unset, .unset, .unset] [(.ref a), (.int (0 : Int32))])) rfl rfl (hb hby d6_33)
  refine own_by (st3) ?_
  show OEnds p e below s _ _ _ (T3.setTop (mkF m 36 #[.val (.ref a), .val (.int (0 : Int32)), .unset, .unset, .unset] [(.int (1 : Int32)), (.int (0 : Int32))]))
  refine own_by (fun _ k => XS.iloadN X3.here hx rfl (hb hby d6_36) rfl k) ?_
  show OEnds p e below s _ _ _ (T3.setTop (mkF m 37 #[.val (.ref a), .val (.int (0 : Int32)), .unset, .unset, .unset] [(.int (0 : Int32)), (.int (1 : Int32)), (.int (0 : Int32))]))
  refine own_by (fun _ k => XS.isub X3.here hx rfl (hb hby d6_37) rfl k) ?_
  show OEnds p e below s _ _ _ (T3.setTop (mkF m 38 #[.val (.ref a), .val (.int (0 : Int32)), .unset, .unset, .unset] [(.int (1 : Int32)), (.int (0 : Int32))]))
  refine own_by (fun _ k => XS.bipush X3.here hx rfl (hb hby d6_38) k) ?_
  show OEnds p e below s _ _ _ (T3.setTop (mkF m 40 #[.val (.ref a), .val (.int (0 : Int32)), .unset, .unset, .unset] [(.int (8 : Int32)), (.int (1 : Int32)), (.int (0 : Int32))]))
  refine own_by (fun _ k => iremM X3 hx rfl (hb hby d6_40) rfl (by decide) k) ?_
  show OEnds p e below s _ _ _ (T3.setTop (mkF m 41 #[.val (.ref a), .val (.int (0 : Int32)), .unset, .unset, .unset] [(.int (1 : Int32)), (.int (0 : Int32))]))
  refine own_by (fun _ k => XS.ifYes X3.here hx rfl (pc0 := 41) (pc' := 48) rfl (hb hby d6_41) rfl ((if0 _ _).trans (feq (by decide : ¬ ((1 : Int32) = (0 : Int32)))).2) (by decide) (by decide) k) ?_
  show OEnds p e below s _ _ _ (T3.setTop (mkF m 48 #[.val (.ref a), .val (.int (0 : Int32)), .unset, .unset, .unset] [(.int (0 : Int32))]))
  refine own_by (fun _ k => XS.iconst X3.here hx rfl (hb hby d6_48) k) ?_
  show OEnds p e below s _ _ _ (T3.setTop (mkF m 49 #[.val (.ref a), .val (.int (0 : Int32)), .unset, .unset, .unset] [(.int (1 : Int32)), (.int (0 : Int32))]))
  refine own_by (fun _ k => XS.iadd X3.here hx rfl (hb hby d6_49) rfl k) ?_
  show OEnds p e below s _ _ _ (T3.setTop (mkF m 50 #[.val (.ref a), .val (.int (0 : Int32)), .unset, .unset, .unset] [(.int (1 : Int32))]))
  refine own_by (fun _ k => XS.istoreN X3.here hx rfl (hb hby d6_50) rfl (l' := #[.val (.ref a), .val (.int (0 : Int32)), .val (.int (1 : Int32)), .unset, .unset]) rfl k) ?_
  show OEnds p e below s _ _ _ (T3.setTop (mkF m 51 #[.val (.ref a), .val (.int (0 : Int32)), .val (.int (1 : Int32)), .unset, .unset] []))
  refine own_by (fun _ k => XS.aloadN X3.here hx rfl (hb hby d6_51) rfl rfl k) ?_
  show OEnds p e below s _ _ _ (T3.setTop (mkF m 52 #[.val (.ref a), .val (.int (0 : Int32)), .val (.int (1 : Int32)), .unset, .unset] [(.ref a)]))
  obtain ⟨T4, X4, e4, st4⟩ := getF X3 hx hZ hown (host := "") (Or.inl (hw _ (List.mem_of_getElem? (i := 13) rfl))) Via.refl e3 (O0.fld 1 rfl rfl) (g := (mkF m 52 #[.val (.ref a), .val (.int (0 : Int32)), .val (.int (1 : Int32)), .unset, .unset] [(.ref a)])) rfl rfl (hb hby d6_52)
  refine own_by (st4) ?_
  show OEnds p e below s _ _ _ (T4.setTop (mkF m 55 #[.val (.ref a), .val (.int (0 : Int32)), .val (.int (1 : Int32)), .unset, .unset] [(.ref b2)]))
  refine own_by (own_len X4 hx hZ e4 F_b2 (z := (64 : Int32)) (by decide) (g := (mkF m 55 #[.val (.ref a), .val (.int (0 : Int32)), .val (.int (1 : Int32)), .unset, .unset] [(.ref b2)])) rfl rfl (hb hby d6_55)) ?_
  show OEnds p e below s _ _ _ (T4.setTop (mkF m 56 #[.val (.ref a), .val (.int (0 : Int32)), .val (.int (1 : Int32)), .unset, .unset] [(.int (64 : Int32))]))
  refine own_by (fun _ k => XS.aloadN X4.here hx rfl (hb hby d6_56) rfl rfl k) ?_
  show OEnds p e below s _ _ _ (T4.setTop (mkF m 57 #[.val (.ref a), .val (.int (0 : Int32)), .val (.int (1 : Int32)), .unset, .unset] [(.ref a), (.int (64 : Int32))]))
  obtain ⟨T5, X5, e5, st5⟩ := getF X4 hx hZ hown (host := "") (Or.inl (hw _ (List.mem_of_getElem? (i := 33) rfl))) Via.refl e4 (O0.fld 8 rfl rfl) (g := (mkF m 57 #[.val (.ref a), .val (.int (0 : Int32)), .val (.int (1 : Int32)), .unset, .unset] [(.ref a), (.int (64 : Int32))])) rfl rfl (hb hby d6_57)
  refine own_by (st5) ?_
  show OEnds p e below s _ _ _ (T5.setTop (mkF m 60 #[.val (.ref a), .val (.int (0 : Int32)), .val (.int (1 : Int32)), .unset, .unset] [(.int (0 : Int32)), (.int (64 : Int32))]))
  refine own_by (fun _ k => XS.isub X5.here hx rfl (hb hby d6_60) rfl k) ?_
  show OEnds p e below s _ _ _ (T5.setTop (mkF m 61 #[.val (.ref a), .val (.int (0 : Int32)), .val (.int (1 : Int32)), .unset, .unset] [(.int (64 : Int32))]))
  refine own_by (fun _ k => XS.iconst X5.here hx rfl (hb hby d6_61) k) ?_
  show OEnds p e below s _ _ _ (T5.setTop (mkF m 62 #[.val (.ref a), .val (.int (0 : Int32)), .val (.int (1 : Int32)), .unset, .unset] [(.int (2 : Int32)), (.int (64 : Int32))]))
  refine own_by (fun _ k => XS.iloadN X5.here hx rfl (hb hby d6_62) rfl k) ?_
  show OEnds p e below s _ _ _ (T5.setTop (mkF m 63 #[.val (.ref a), .val (.int (0 : Int32)), .val (.int (1 : Int32)), .unset, .unset] [(.int (1 : Int32)), (.int (2 : Int32)), (.int (64 : Int32))]))
  refine own_by (fun _ k => XS.imul X5.here hx rfl (hb hby d6_63) rfl k) ?_
  show OEnds p e below s _ _ _ (T5.setTop (mkF m 64 #[.val (.ref a), .val (.int (0 : Int32)), .val (.int (1 : Int32)), .unset, .unset] [(.int (2 : Int32)), (.int (64 : Int32))]))
  refine own_by (fun _ k => XS.icmpYes X5.here hx rfl (pc0 := 64) (pc' := 96) rfl (hb hby d6_64) rfl (flt (by decide : ¬ ((64 : Int32) < (2 : Int32)))).2.1 (by decide) (by decide) k) ?_
  show OEnds p e below s _ _ _ (T5.setTop (mkF m 96 #[.val (.ref a), .val (.int (0 : Int32)), .val (.int (1 : Int32)), .unset, .unset] []))
  refine own_by (fun _ k => XS.aloadN X5.here hx rfl (hb hby d6_96) rfl rfl k) ?_
  show OEnds p e below s _ _ _ (T5.setTop (mkF m 97 #[.val (.ref a), .val (.int (0 : Int32)), .val (.int (1 : Int32)), .unset, .unset] [(.ref a)]))
  obtain ⟨T6, X6, e6, st6⟩ := getF X5 hx hZ hown (host := "") (Or.inl (hw _ (List.mem_of_getElem? (i := 35) rfl))) Via.refl e5 (O0.fld 9 rfl rfl) (g := (mkF m 97 #[.val (.ref a), .val (.int (0 : Int32)), .val (.int (1 : Int32)), .unset, .unset] [(.ref a)])) rfl rfl (hb hby d6_97)
  refine own_by (st6) ?_
  show OEnds p e below s _ _ _ (T6.setTop (mkF m 100 #[.val (.ref a), .val (.int (0 : Int32)), .val (.int (1 : Int32)), .unset, .unset] [(.int (0 : Int32))]))
  refine own_by (fun _ k => XS.aloadN X6.here hx rfl (hb hby d6_100) rfl rfl k) ?_
  show OEnds p e below s _ _ _ (T6.setTop (mkF m 101 #[.val (.ref a), .val (.int (0 : Int32)), .val (.int (1 : Int32)), .unset, .unset] [(.ref a), (.int (0 : Int32))]))
  obtain ⟨T7, X7, e7, st7⟩ := getF X6 hx hZ hown (host := "") (Or.inl (hw _ (List.mem_of_getElem? (i := 16) rfl))) Via.refl e6 (O0.fld 2 rfl rfl) (g := (mkF m 101 #[.val (.ref a), .val (.int (0 : Int32)), .val (.int (1 : Int32)), .unset, .unset] [(.ref a), (.int (0 : Int32))])) rfl rfl (hb hby d6_101)
  refine own_by (st7) ?_
  show OEnds p e below s _ _ _ (T7.setTop (mkF m 104 #[.val (.ref a), .val (.int (0 : Int32)), .val (.int (1 : Int32)), .unset, .unset] [(.ref b3), (.int (0 : Int32))]))
  refine own_by (own_len X7 hx hZ e7 F_b3 (z := (16 : Int32)) (by decide) (g := (mkF m 104 #[.val (.ref a), .val (.int (0 : Int32)), .val (.int (1 : Int32)), .unset, .unset] [(.ref b3), (.int (0 : Int32))])) rfl rfl (hb hby d6_104)) ?_
  show OEnds p e below s _ _ _ (T7.setTop (mkF m 105 #[.val (.ref a), .val (.int (0 : Int32)), .val (.int (1 : Int32)), .unset, .unset] [(.int (16 : Int32)), (.int (0 : Int32))]))
  refine own_by (fun _ k => XS.icmpYes X7.here hx rfl (pc0 := 105) (pc' := 159) rfl (hb hby d6_105) rfl (feq (by decide : ¬ ((0 : Int32) = (16 : Int32)))).2 (by decide) (by decide) k) ?_
  show OEnds p e below s _ _ _ (T7.setTop (mkF m 159 #[.val (.ref a), .val (.int (0 : Int32)), .val (.int (1 : Int32)), .unset, .unset] []))
  refine own_by (fun _ k => XS.aloadN X7.here hx rfl (hb hby d6_159) rfl rfl k) ?_
  show OEnds p e below s _ _ _ (T7.setTop (mkF m 160 #[.val (.ref a), .val (.int (0 : Int32)), .val (.int (1 : Int32)), .unset, .unset] [(.ref a)]))
  obtain ⟨T8, X8, e8, st8⟩ := getF X7 hx hZ hown (host := "") (Or.inl (hw _ (List.mem_of_getElem? (i := 16) rfl))) Via.refl e7 (O0.fld 2 rfl rfl) (g := (mkF m 160 #[.val (.ref a), .val (.int (0 : Int32)), .val (.int (1 : Int32)), .unset, .unset] [(.ref a)])) rfl rfl (hb hby d6_160)
  refine own_by (st8) ?_
  show OEnds p e below s _ _ _ (T8.setTop (mkF m 163 #[.val (.ref a), .val (.int (0 : Int32)), .val (.int (1 : Int32)), .unset, .unset] [(.ref b3)]))
  refine own_by (fun _ k => XS.aloadN X8.here hx rfl (hb hby d6_163) rfl rfl k) ?_
  show OEnds p e below s _ _ _ (T8.setTop (mkF m 164 #[.val (.ref a), .val (.int (0 : Int32)), .val (.int (1 : Int32)), .unset, .unset] [(.ref a), (.ref b3)]))
  obtain ⟨T9, X9, e9, st9⟩ := getF X8 hx hZ hown (host := "") (Or.inl (hw _ (List.mem_of_getElem? (i := 35) rfl))) Via.refl e8 (O0.fld 9 rfl rfl) (g := (mkF m 164 #[.val (.ref a), .val (.int (0 : Int32)), .val (.int (1 : Int32)), .unset, .unset] [(.ref a), (.ref b3)])) rfl rfl (hb hby d6_164)
  refine own_by (st9) ?_
  show OEnds p e below s _ _ _ (T9.setTop (mkF m 167 #[.val (.ref a), .val (.int (0 : Int32)), .val (.int (1 : Int32)), .unset, .unset] [(.int (0 : Int32)), (.ref b3)]))
  refine own_by (fun _ k => XS.iloadN X9.here hx rfl (hb hby d6_167) rfl k) ?_
  show OEnds p e below s _ _ _ (T9.setTop (mkF m 168 #[.val (.ref a), .val (.int (0 : Int32)), .val (.int (1 : Int32)), .unset, .unset] [(.int (0 : Int32)), (.int (0 : Int32)), (.ref b3)]))
  obtain ⟨T10, h10, X10, e10, W10, st10⟩ := own_iastore X9 hx hZ e9 F_b3 0 (by decide) (by decide) (g := (mkF m 168 #[.val (.ref a), .val (.int (0 : Int32)), .val (.int (1 : Int32)), .unset, .unset] [(.int (0 : Int32)), (.int (0 : Int32)), (.ref b3)])) rfl rfl (hb hby d6_168)
  refine own_by (st10) ?_
  have F10 : FA Z h10 b3 .int 16 (fun i => .int ((updI g3 0 (0 : Int32)) i)) := F_b3.setI W10
  have N10 := Fr.snoc X10 N0 g_b3
  have Z10 : n0 ≤ h10.size := Nat.le_trans Z0 (Keep.of_wr W10).1
  have K10 : Keep h0 h10 [a, b2, b3, b4, b5] := K0.wr W10 (Or.inl (List.mem_of_getElem? (i := 2) rfl))
  show OEnds p e below s _ _ _ (T10.setTop (mkF m 169 #[.val (.ref a), .val (.int (0 : Int32)), .val (.int (1 : Int32)), .unset, .unset] []))
  refine own_by (fun _ k => XS.aloadN X10.here hx rfl (hb hby d6_169) rfl rfl k) ?_
  show OEnds p e below s _ _ _ (T10.setTop (mkF m 170 #[.val (.ref a), .val (.int (0 : Int32)), .val (.int (1 : Int32)), .unset, .unset] [(.ref a)]))
  have O12 : Obj Z h10 a "com/example/graphweft/graphweft/RangeMaxTree" sch_rt [(.ref b1), (.ref b2), (.ref b3), (.ref b4), (.ref b5), (.ref b6), (.ref b7), (.int (1 : Int32)), (.int (0 : Int32)), (.int (0 : Int32)), (.int te), (.int ta), (.int se), (.int sa), (.int pn), (.long bd), (.int ss), (.int bs), (.int bc)] := (O0.other W10 (Nat.ne_of_lt (by omega)))
  obtain ⟨T11, X11, e11, st11⟩ := getF X10 hx hZ hown (host := "") (Or.inl (hw _ (List.mem_of_getElem? (i := 18) rfl))) Via.refl e10 (O12.fld 3 rfl rfl) (g := (mkF m 170 #[.val (.ref a), .val (.int (0 : Int32)), .val (.int (1 : Int32)), .unset, .unset] [(.ref a)])) rfl rfl (hb hby d6_170)
  refine own_by (st11) ?_
  show OEnds p e below s _ _ _ (T11.setTop (mkF m 173 #[.val (.ref a), .val (.int (0 : Int32)), .val (.int (1 : Int32)), .unset, .unset] [(.ref b4)]))
  refine own_by (fun _ k => XS.aloadN X11.here hx rfl (hb hby d6_173) rfl rfl k) ?_
  show OEnds p e below s _ _ _ (T11.setTop (mkF m 174 #[.val (.ref a), .val (.int (0 : Int32)), .val (.int (1 : Int32)), .unset, .unset] [(.ref a), (.ref b4)]))
  obtain ⟨T13, X13, e13, st13⟩ := getF X11 hx hZ hown (host := "") (Or.inl (hw _ (List.mem_of_getElem? (i := 35) rfl))) Via.refl e11 (O12.fld 9 rfl rfl) (g := (mkF m 174 #[.val (.ref a), .val (.int (0 : Int32)), .val (.int (1 : Int32)), .unset, .unset] [(.ref a), (.ref b4)])) rfl rfl (hb hby d6_174)
  refine own_by (st13) ?_
  show OEnds p e below s _ _ _ (T13.setTop (mkF m 177 #[.val (.ref a), .val (.int (0 : Int32)), .val (.int (1 : Int32)), .unset, .unset] [(.int (0 : Int32)), (.ref b4)]))
  refine own_by (fun _ k => XS.aloadN X13.here hx rfl (hb hby d6_177) rfl rfl k) ?_
  show OEnds p e below s _ _ _ (T13.setTop (mkF m 178 #[.val (.ref a), .val (.int (0 : Int32)), .val (.int (1 : Int32)), .unset, .unset] [(.ref a), (.int (0 : Int32)), (.ref b4)]))
  obtain ⟨T14, X14, e14, st14⟩ := getF X13 hx hZ hown (host := "") (Or.inl (hw _ (List.mem_of_getElem? (i := 31) rfl))) Via.refl e13 (O12.fld 7 rfl rfl) (g := (mkF m 178 #[.val (.ref a), .val (.int (0 : Int32)), .val (.int (1 : Int32)), .unset, .unset] [(.ref a), (.int (0 : Int32)), (.ref b4)])) rfl rfl (hb hby d6_178)
  refine own_by (st14) ?_
  show OEnds p e below s _ _ _ (T14.setTop (mkF m 181 #[.val (.ref a), .val (.int (0 : Int32)), .val (.int (1 : Int32)), .unset, .unset] [(.int (1 : Int32)), (.int (0 : Int32)), (.ref b4)]))
  have F16 : FA Z h10 b4 .int 16 (fun i => .int (g4 i)) := (F_b4.other W10 (Ne.symm (Nat.ne_of_lt (by omega))))
  obtain ⟨T15, h15, X15, e15, W15, st15⟩ := own_iastore X14 hx hZ e14 F16 0 (by decide) (by decide) (g := (mkF m 181 #[.val (.ref a), .val (.int (0 : Int32)), .val (.int (1 : Int32)), .unset, .unset] [(.int (1 : Int32)), (.int (0 : Int32)), (.ref b4)])) rfl rfl (hb hby d6_181)
  refine own_by (st15) ?_
  have F15 : FA Z h15 b4 .int 16 (fun i => .int ((updI g4 0 (1 : Int32)) i)) := F16.setI W15
  have N15 := Fr.snoc X15 N10 g_b4
  have Z15 : n0 ≤ h15.size := Nat.le_trans Z10 (Keep.of_wr W15).1
  have K15 : Keep h0 h15 [a, b2, b3, b4, b5] := K10.wr W15 (Or.inl (List.mem_of_getElem? (i := 3) rfl))
  show OEnds p e below s _ _ _ (T15.setTop (mkF m 182 #[.val (.ref a), .val (.int (0 : Int32)), .val (.int (1 : Int32)), .unset, .unset] []))
  refine own_by (fun _ k => XS.aloadN X15.here hx rfl (hb hby d6_182) rfl rfl k) ?_
  show OEnds p e below s _ _ _ (T15.setTop (mkF m 183 #[.val (.ref a), .val (.int (0 : Int32)), .val (.int (1 : Int32)), .unset, .unset] [(.ref a)]))
  have O18 : Obj Z h15 a "com/example/graphweft/graphweft/RangeMaxTree" sch_rt [(.ref b1), (.ref b2), (.ref b3), (.ref b4), (.ref b5), (.ref b6), (.ref b7), (.int (1 : Int32)), (.int (0 : Int32)), (.int (0 : Int32)), (.int te), (.int ta), (.int se), (.int sa), (.int pn), (.long bd), (.int ss), (.int bs), (.int bc)] := (O12.other W15 (Nat.ne_of_lt (by omega)))
  obtain ⟨T17, X17, e17, st17⟩ := getF X15 hx hZ hown (host := "") (Or.inl (hw _ (List.mem_of_getElem? (i := 20) rfl))) Via.refl e15 (O18.fld 4 rfl rfl) (g := (mkF m 183 #[.val (.ref a), .val (.int (0 : Int32)), .val (.int (1 : Int32)), .unset, .unset] [(.ref a)])) rfl rfl (hb hby d6_183)
  refine own_by (st17) ?_
  show OEnds p e below s _ _ _ (T17.setTop (mkF m 186 #[.val (.ref a), .val (.int (0 : Int32)), .val (.int (1 : Int32)), .unset, .unset] [(.ref b5)]))
  refine own_by (fun _ k => XS.aloadN X17.here hx rfl (hb hby d6_186) rfl rfl k) ?_
  show OEnds p e below s _ _ _ (T17.setTop (mkF m 187 #[.val (.ref a), .val (.int (0 : Int32)), .val (.int (1 : Int32)), .unset, .unset] [(.ref a), (.ref b5)]))
  obtain ⟨T19, X19, e19, st19⟩ := getF X17 hx hZ hown (host := "") (Or.inl (hw _ (List.mem_of_getElem? (i := 35) rfl))) Via.refl e17 (O18.fld 9 rfl rfl) (g := (mkF m 187 #[.val (.ref a), .val (.int (0 : Int32)), .val (.int (1 : Int32)), .unset, .unset] [(.ref a), (.ref b5)])) rfl rfl (hb hby d6_187)
  refine own_by (st19) ?_
  show OEnds p e below s _ _ _ (T19.setTop (mkF m 190 #[.val (.ref a), .val (.int (0 : Int32)), .val (.int (1 : Int32)), .unset, .unset] [(.int (0 : Int32)), (.ref b5)]))
  refine own_by (fun _ k => XS.aloadN X19.here hx rfl (hb hby d6_190) rfl rfl k) ?_
  show OEnds p e below s _ _ _ (T19.setTop (mkF m 191 #[.val (.ref a), .val (.int (0 : Int32)), .val (.int (1 : Int32)), .unset, .unset] [(.ref a), (.int (0 : Int32)), (.ref b5)]))
  obtain ⟨T20, X20, e20, st20⟩ := getF X19 hx hZ hown (host := "") (Or.inl (hw _ (List.mem_of_getElem? (i := 33) rfl))) Via.refl e19 (O18.fld 8 rfl rfl) (g := (mkF m 191 #[.val (.ref a), .val (.int (0 : Int32)), .val (.int (1 : Int32)), .unset, .unset] [(.ref a), (.int (0 : Int32)), (.ref b5)])) rfl rfl (hb hby d6_191)
  refine own_by (st20) ?_
  show OEnds p e below s _ _ _ (T20.setTop (mkF m 194 #[.val (.ref a), .val (.int (0 : Int32)), .val (.int (1 : Int32)), .unset, .unset] [(.int (0 : Int32)), (.int (0 : Int32)), (.ref b5)]))
  have F22 : FA Z h15 b5 .int 16 (fun i => .int (g5 i)) := ((F_b5.other W10 (Ne.symm (Nat.ne_of_lt (by omega)))).other W15 (Ne.symm (Nat.ne_of_lt (by omega))))
  obtain ⟨T21, h21, X21, e21, W21, st21⟩ := own_iastore X20 hx hZ e20 F22 0 (by decide) (by decide) (g := (mkF m 194 #[.val (.ref a), .val (.int (0 : Int32)), .val (.int (1 : Int32)), .unset, .unset] [(.int (0 : Int32)), (.int (0 : Int32)), (.ref b5)])) rfl rfl (hb hby d6_194)
  refine own_by (st21) ?_
  have F21 : FA Z h21 b5 .int 16 (fun i => .int ((updI g5 0 (0 : Int32)) i)) := F22.setI W21
  have N21 := Fr.snoc X21 N15 g_b5
  have Z21 : n0 ≤ h21.size := Nat.le_trans Z15 (Keep.of_wr W21).1
  have K21 : Keep h0 h21 [a, b2, b3, b4, b5] := K15.wr W21 (Or.inl (List.mem_of_getElem? (i := 4) rfl))
  show OEnds p e below s _ _ _ (T21.setTop (mkF m 195 #[.val (.ref a), .val (.int (0 : Int32)), .val (.int (1 : Int32)), .unset, .unset] []))
  refine own_by (fun _ k => XS.aloadN X21.here hx rfl (hb hby d6_195) rfl rfl k) ?_
  show OEnds p e below s _ _ _ (T21.setTop (mkF m 196 #[.val (.ref a), .val (.int (0 : Int32)), .val (.int (1 : Int32)), .unset, .unset] [(.ref a)]))
  have O24 : Obj Z h21 a "com/example/graphweft/graphweft/RangeMaxTree" sch_rt [(.ref b1), (.ref b2), (.ref b3), (.ref b4), (.ref b5), (.ref b6), (.ref b7), (.int (1 : Int32)), (.int (0 : Int32)), (.int (0 : Int32)), (.int te), (.int ta), (.int se), (.int sa), (.int pn), (.long bd), (.int ss), (.int bs), (.int bc)] := (O18.other W21 (Nat.ne_of_lt (by omega)))
  obtain ⟨T23, X23, e23, st23⟩ := getF X21 hx hZ hown (host := "") (Or.inl (hw _ (List.mem_of_getElem? (i := 13) rfl))) Via.refl e21 (O24.fld 1 rfl rfl) (g := (mkF m 196 #[.val (.ref a), .val (.int (0 : Int32)), .val (.int (1 : Int32)), .unset, .unset] [(.ref a)])) rfl rfl (hb hby d6_196)
  refine own_by (st23) ?_
  show OEnds p e below s _ _ _ (T23.setTop (mkF m 199 #[.val (.ref a), .val (.int (0 : Int32)), .val (.int (1 : Int32)), .unset, .unset] [(.ref b2)]))
  refine own_by (fun _ k => XS.aloadN X23.here hx rfl (hb hby d6_199) rfl rfl k) ?_
  show OEnds p e below s _ _ _ (T23.setTop (mkF m 200 #[.val (.ref a), .val (.int (0 : Int32)), .val (.int (1 : Int32)), .unset, .unset] [(.ref a), (.ref b2)]))
  obtain ⟨T25, X25, e25, st25⟩ := getF X23 hx hZ hown (host := "") (Or.inl (hw _ (List.mem_of_getElem? (i := 33) rfl))) Via.refl e23 (O24.fld 8 rfl rfl) (g := (mkF m 200 #[.val (.ref a), .val (.int (0 : Int32)), .val (.int (1 : Int32)), .unset, .unset] [(.ref a), (.ref b2)])) rfl rfl (hb hby d6_200)
  refine own_by (st25) ?_
  show OEnds p e below s _ _ _ (T25.setTop (mkF m 203 #[.val (.ref a), .val (.int (0 : Int32)), .val (.int (1 : Int32)), .unset, .unset] [(.int (0 : Int32)), (.ref b2)]))
  refine own_by (fun _ k => XS.iloadN X25.here hx rfl (hb hby d6_203) rfl k) ?_
  show OEnds p e below s _ _ _ (T25.setTop (mkF m 204 #[.val (.ref a), .val (.int (0 : Int32)), .val (.int (1 : Int32)), .unset, .unset] [(.int (1 : Int32)), (.int (0 : Int32)), (.ref b2)]))
  refine own_by (fun _ k => XS.iadd X25.here hx rfl (hb hby d6_204) rfl k) ?_
  show OEnds p e below s _ _ _ (T25.setTop (mkF m 205 #[.val (.ref a), .val (.int (0 : Int32)), .val (.int (1 : Int32)), .unset, .unset] [(.int (1 : Int32)), (.ref b2)]))
  refine own_by (fun _ k => XS.aloadN X25.here hx rfl (hb hby d6_205) rfl rfl k) ?_
  show OEnds p e below s _ _ _ (T25.setTop (mkF m 206 #[.val (.ref a), .val (.int (0 : Int32)), .val (.int (1 : Int32)), .unset, .unset] [(.ref a), (.int (1 : Int32)), (.ref b2)]))
  obtain ⟨T26, X26, e26, st26⟩ := getF X25 hx hZ hown (host := "") (Or.inl (hw _ (List.mem_of_getElem? (i := 33) rfl))) Via.refl e25 (O24.fld 8 rfl rfl) (g := (mkF m 206 #[.val (.ref a), .val (.int (0 : Int32)), .val (.int (1 : Int32)), .unset, .unset] [(.ref a), (.int (1 : Int32)), (.ref b2)])) rfl rfl (hb hby d6_206)
  refine own_by (st26) ?_
  show OEnds p e below s _ _ _ (T26.setTop (mkF m 209 #[.val (.ref a), .val (.int (0 : Int32)), .val (.int (1 : Int32)), .unset, .unset] [(.int (0 : Int32)), (.int (1 : Int32)), (.ref b2)]))
  refine own_by (fun _ k => XS.iconst X26.here hx rfl (hb hby d6_209) k) ?_
  show OEnds p e below s _ _ _ (T26.setTop (mkF m 210 #[.val (.ref a), .val (.int (0 : Int32)), .val (.int (1 : Int32)), .unset, .unset] [(.int (2 : Int32)), (.int (0 : Int32)), (.int (1 : Int32)), (.ref b2)]))
  refine own_by (fun _ k => XS.iloadN X26.here hx rfl (hb hby d6_210) rfl k) ?_
  show OEnds p e below s _ _ _ (T26.setTop (mkF m 211 #[.val (.ref a), .val (.int (0 : Int32)), .val (.int (1 : Int32)), .unset, .unset] [(.int (1 : Int32)), (.int (2 : Int32)), (.int (0 : Int32)), (.int (1 : Int32)), (.ref b2)]))
  refine own_by (fun _ k => XS.imul X26.here hx rfl (hb hby d6_211) rfl k) ?_
  show OEnds p e below s _ _ _ (T26.setTop (mkF m 212 #[.val (.ref a), .val (.int (0 : Int32)), .val (.int (1 : Int32)), .unset, .unset] [(.int (2 : Int32)), (.int (0 : Int32)), (.int (1 : Int32)), (.ref b2)]))
  refine own_by (fun _ k => XS.iadd X26.here hx rfl (hb hby d6_212) rfl k) ?_
  show OEnds p e below s _ _ _ (T26.setTop (mkF m 213 #[.val (.ref a), .val (.int (0 : Int32)), .val (.int (1 : Int32)), .unset, .unset] [(.int (2 : Int32)), (.int (1 : Int32)), (.ref b2)]))
  refine own_by (X26.ldc2Long hx hown (mvT hZ (hw _ (List.mem_of_getElem? (i := 62) rfl))) (g := (mkF m 213 #[.val (.ref a), .val (.int (0 : Int32)), .val (.int (1 : Int32)), .unset, .unset] [(.int (2 : Int32)), (.int (1 : Int32)), (.ref b2)])) rfl (hb hby d6_213)) ?_
  show OEnds p e below s _ _ _ (T26.setTop (mkF m 216 #[.val (.ref a), .val (.int (0 : Int32)), .val (.int (1 : Int32)), .unset, .unset] [(.long (-9223372036854775808 : Int64)), (.int (2 : Int32)), (.int (1 : Int32)), (.ref b2)]))
  have F28 : FA Z h21 b2 .long 64 (fun i => .long (g2 i)) := (((F_b2.other W10 (Nat.ne_of_lt (by omega))).other W15 (Nat.ne_of_lt (by omega))).other W21 (Nat.ne_of_lt (by omega)))
  obtain ⟨v27, T27, L27, h27, X27, e27, hQ27, st27⟩ := own_callS X26 hx hZ (y := (⟨"java/util/Arrays", "fill", "([JIIJ)V"⟩ : MethodName)) hown (hw _ (List.mem_of_getElem? (i := 63) rfl)) (hw _ (List.mem_of_getElem? (i := 64) rfl)) (hw _ (List.mem_of_getElem? (i := 65) rfl)) (hw _ (List.mem_of_getElem? (i := 66) rfl)) (by decide) (rm_fill_1_2 l Z a0 hw [] b2 (-9223372036854775808 : Int64) g2 h21 n0 Z21 F28 g_b2) e26 (g := (mkF m 216 #[.val (.ref a), .val (.int (0 : Int32)), .val (.int (1 : Int32)), .unset, .unset] [(.long (-9223372036854775808 : Int64)), (.int (2 : Int32)), (.int (1 : Int32)), (.ref b2)])) rfl (by rw [hml]; rfl) (argsL := [(.ref b2), (.int (1 : Int32)), (.int (2 : Int32)), (.long (-9223372036854775808 : Int64))]) (rest := []) (lenOf pd_paJIIJrV rfl) rfl (W := 0) (by show 2 * 0 + _ ≤ _; exact Nat.le_of_eq rfl) (hb hby d6_216) (by decide) (by decide) (by decide) (by decide)
  obtain ⟨rfl, Nq27, Kq27, F27_b2⟩ := hQ27
  have N27 := Fr.app N21 Nq27
  have K27 : Keep h0 h27 [a, b2, b3, b4, b5] := K21.trans Kq27 (allS (Or.inl (List.mem_of_getElem? (i := 1) rfl)) all0)
  have Z27 : n0 ≤ h27.size := Nat.le_trans Z21 Kq27.1
  refine own_tr st27 ?_
  show OEnds p e below s _ _ _ (T27.setTop (mkF m 219 #[.val (.ref a), .val (.int (0 : Int32)), .val (.int (1 : Int32)), .unset, .unset] []))
  refine own_by (fun _ k => XS.iloadN X27.here hx rfl (hb hby d6_219) rfl k) ?_
  show OEnds p e below s _ _ _ (T27.setTop (mkF m 220 #[.val (.ref a), .val (.int (0 : Int32)), .val (.int (1 : Int32)), .unset, .unset] [(.int (0 : Int32))]))
  refine own_by (fun _ k => XS.istoreN X27.here hx rfl (hb hby d6_220) rfl (l' := #[.val (.ref a), .val (.int (0 : Int32)), .val (.int (1 : Int32)), .val (.int (0 : Int32)), .unset]) rfl k) ?_
  show OEnds p e below s _ _ _ (T27.setTop (mkF m 221 #[.val (.ref a), .val (.int (0 : Int32)), .val (.int (1 : Int32)), .val (.int (0 : Int32)), .unset] []))
  refine own_by (fun _ k => XS.iloadN X27.here hx rfl (hb hby d6_221) rfl k) ?_
  show OEnds p e below s _ _ _ (T27.setTop (mkF m 222 #[.val (.ref a), .val (.int (0 : Int32)), .val (.int (1 : Int32)), .val (.int (0 : Int32)), .unset] [(.int (0 : Int32))]))
  refine own_by (fun _ k => XS.aloadN X27.here hx rfl (hb hby d6_222) rfl rfl k) ?_
  show OEnds p e below s _ _ _ (T27.setTop (mkF m 223 #[.val (.ref a), .val (.int (0 : Int32)), .val (.int (1 : Int32)), .val (.int (0 : Int32)), .unset] [(.ref a), (.int (0 : Int32))]))
  have O30 : Obj Z h27 a "com/example/graphweft/graphweft/RangeMaxTree" sch_rt [(.ref b1), (.ref b2), (.ref b3), (.ref b4), (.ref b5), (.ref b6), (.ref b7), (.int (1 : Int32)), (.int (0 : Int32)), (.int (0 : Int32)), (.int te), (.int ta), (.int se), (.int sa), (.int pn), (.long bd), (.int ss), (.int bs), (.int bc)] := (O24.keep Kq27 (ninS (Nat.ne_of_lt (by omega)) nin0))
  obtain ⟨T29, X29, e29, st29⟩ := getF X27 hx hZ hown (host := "") (Or.inl (hw _ (List.mem_of_getElem? (i := 31) rfl))) Via.refl e27 (O30.fld 7 rfl rfl) (g := (mkF m 223 #[.val (.ref a), .val (.int (0 : Int32)), .val (.int (1 : Int32)), .val (.int (0 : Int32)), .unset] [(.ref a), (.int (0 : Int32))])) rfl rfl (hb hby d6_223)
  refine own_by (st29) ?_
  show OEnds p e below s _ _ _ (T29.setTop (mkF m 226 #[.val (.ref a), .val (.int (0 : Int32)), .val (.int (1 : Int32)), .val (.int (0 : Int32)), .unset] [(.int (1 : Int32)), (.int (0 : Int32))]))
  refine own_by (fun _ k => XS.icmpNo X29.here hx rfl (hb hby d6_226) rfl (tlt (by decide : (0 : Int32) < (1 : Int32))).2.1 k) ?_
  show OEnds p e below s _ _ _ (T29.setTop (mkF m 229 #[.val (.ref a), .val (.int (0 : Int32)), .val (.int (1 : Int32)), .val (.int (0 : Int32)), .unset] []))
  refine own_by (fun _ k => XS.aloadN X29.here hx rfl (hb hby d6_229) rfl rfl k) ?_
  show OEnds p e below s _ _ _ (T29.setTop (mkF m 230 #[.val (.ref a), .val (.int (0 : Int32)), .val (.int (1 : Int32)), .val (.int (0 : Int32)), .unset] [(.ref a)]))
  obtain ⟨T31, X31, e31, st31⟩ := getF X29 hx hZ hown (host := "") (Or.inl (hw _ (List.mem_of_getElem? (i := 33) rfl))) Via.refl e29 (O30.fld 8 rfl rfl) (g := (mkF m 230 #[.val (.ref a), .val (.int (0 : Int32)), .val (.int (1 : Int32)), .val (.int (0 : Int32)), .unset] [(.ref a)])) rfl rfl (hb hby d6_230)
  refine own_by (st31) ?_
  show OEnds p e below s _ _ _ (T31.setTop (mkF m 233 #[.val (.ref a), .val (.int (0 : Int32)), .val (.int (1 : Int32)), .val (.int (0 : Int32)), .unset] [(.int (0 : Int32))]))
  refine own_by (fun _ k => XS.iloadN X31.here hx rfl (hb hby d6_233) rfl k) ?_
  show OEnds p e below s _ _ _ (T31.setTop (mkF m 234 #[.val (.ref a), .val (.int (0 : Int32)), .val (.int (1 : Int32)), .val (.int (0 : Int32)), .unset] [(.int (1 : Int32)), (.int (0 : Int32))]))
  refine own_by (fun _ k => XS.iadd X31.here hx rfl (hb hby d6_234) rfl k) ?_
  show OEnds p e below s _ _ _ (T31.setTop (mkF m 235 #[.val (.ref a), .val (.int (0 : Int32)), .val (.int (1 : Int32)), .val (.int (0 : Int32)), .unset] [(.int (1 : Int32))]))
  refine own_by (fun _ k => XS.iloadN X31.here hx rfl (hb hby d6_235) rfl k) ?_
  show OEnds p e below s _ _ _ (T31.setTop (mkF m 236 #[.val (.ref a), .val (.int (0 : Int32)), .val (.int (1 : Int32)), .val (.int (0 : Int32)), .unset] [(.int (0 : Int32)), (.int (1 : Int32))]))
  refine own_by (fun _ k => XS.iloadN X31.here hx rfl (hb hby d6_236) rfl k) ?_
  show OEnds p e below s _ _ _ (T31.setTop (mkF m 237 #[.val (.ref a), .val (.int (0 : Int32)), .val (.int (1 : Int32)), .val (.int (0 : Int32)), .unset] [(.int (0 : Int32)), (.int (0 : Int32)), (.int (1 : Int32))]))
  refine own_by (fun _ k => XS.isub X31.here hx rfl (hb hby d6_237) rfl k) ?_
  show OEnds p e below s _ _ _ (T31.setTop (mkF m 238 #[.val (.ref a), .val (.int (0 : Int32)), .val (.int (1 : Int32)), .val (.int (0 : Int32)), .unset] [(.int (0 : Int32)), (.int (1 : Int32))]))
  refine own_by (fun _ k => XS.bipush X31.here hx rfl (hb hby d6_238) k) ?_
  show OEnds p e below s _ _ _ (T31.setTop (mkF m 240 #[.val (.ref a), .val (.int (0 : Int32)), .val (.int (1 : Int32)), .val (.int (0 : Int32)), .unset] [(.int (8 : Int32)), (.int (0 : Int32)), (.int (1 : Int32))]))
  refine own_by (fun _ k => XS.idiv X31.here hx rfl (hb hby d6_240) rfl (by decide) k) ?_
  show OEnds p e below s _ _ _ (T31.setTop (mkF m 241 #[.val (.ref a), .val (.int (0 : Int32)), .val (.int (1 : Int32)), .val (.int (0 : Int32)), .unset] [(.int (0 : Int32)), (.int (1 : Int32))]))
  refine own_by (fun _ k => XS.iadd X31.here hx rfl (hb hby d6_241) rfl k) ?_
  show OEnds p e below s _ _ _ (T31.setTop (mkF m 242 #[.val (.ref a), .val (.int (0 : Int32)), .val (.int (1 : Int32)), .val (.int (0 : Int32)), .unset] [(.int (1 : Int32))]))
  refine own_by (fun _ k => XS.istore X31.here hx rfl (hb hby d6_242) rfl (l' := #[.val (.ref a), .val (.int (0 : Int32)), .val (.int (1 : Int32)), .val (.int (0 : Int32)), .val (.int (1 : Int32))]) rfl k) ?_
  show OEnds p e below s _ _ _ (T31.setTop (mkF m 244 #[.val (.ref a), .val (.int (0 : Int32)), .val (.int (1 : Int32)), .val (.int (0 : Int32)), .val (.int (1 : Int32))] []))
  refine own_by (fun _ k => XS.aloadN X31.here hx rfl (hb hby d6_244) rfl rfl k) ?_
  show OEnds p e below s _ _ _ (T31.setTop (mkF m 245 #[.val (.ref a), .val (.int (0 : Int32)), .val (.int (1 : Int32)), .val (.int (0 : Int32)), .val (.int (1 : Int32))] [(.ref a)]))
  obtain ⟨T32, X32, e32, st32⟩ := getF X31 hx hZ hown (host := "") (Or.inl (hw _ (List.mem_of_getElem? (i := 13) rfl))) Via.refl e31 (O30.fld 1 rfl rfl) (g := (mkF m 245 #[.val (.ref a), .val (.int (0 : Int32)), .val (.int (1 : Int32)), .val (.int (0 : Int32)), .val (.int (1 : Int32))] [(.ref a)])) rfl rfl (hb hby d6_245)
  refine own_by (st32) ?_
  show OEnds p e below s _ _ _ (T32.setTop (mkF m 248 #[.val (.ref a), .val (.int (0 : Int32)), .val (.int (1 : Int32)), .val (.int (0 : Int32)), .val (.int (1 : Int32))] [(.ref b2)]))
  refine own_by (fun _ k => XS.iload X32.here hx rfl (hb hby d6_248) rfl k) ?_
  show OEnds p e below s _ _ _ (T32.setTop (mkF m 250 #[.val (.ref a), .val (.int (0 : Int32)), .val (.int (1 : Int32)), .val (.int (0 : Int32)), .val (.int (1 : Int32))] [(.int (1 : Int32)), (.ref b2)]))
  refine own_by (fun _ k => XS.aloadN X32.here hx rfl (hb hby d6_250) rfl rfl k) ?_
  show OEnds p e below s _ _ _ (T32.setTop (mkF m 251 #[.val (.ref a), .val (.int (0 : Int32)), .val (.int (1 : Int32)), .val (.int (0 : Int32)), .val (.int (1 : Int32))] [(.ref a), (.int (1 : Int32)), (.ref b2)]))
  obtain ⟨T33, X33, e33, st33⟩ := getF X32 hx hZ hown (host := "") (Or.inl (hw _ (List.mem_of_getElem? (i := 13) rfl))) Via.refl e32 (O30.fld 1 rfl rfl) (g := (mkF m 251 #[.val (.ref a), .val (.int (0 : Int32)), .val (.int (1 : Int32)), .val (.int (0 : Int32)), .val (.int (1 : Int32))] [(.ref a), (.int (1 : Int32)), (.ref b2)])) rfl rfl (hb hby d6_251)
  refine own_by (st33) ?_
  show OEnds p e below s _ _ _ (T33.setTop (mkF m 254 #[.val (.ref a), .val (.int (0 : Int32)), .val (.int (1 : Int32)), .val (.int (0 : Int32)), .val (.int (1 : Int32))] [(.ref b2), (.int (1 : Int32)), (.ref b2)]))
  refine own_by (fun _ k => XS.iload X33.here hx rfl (hb hby d6_254) rfl k) ?_
  show OEnds p e below s _ _ _ (T33.setTop (mkF m 256 #[.val (.ref a), .val (.int (0 : Int32)), .val (.int (1 : Int32)), .val (.int (0 : Int32)), .val (.int (1 : Int32))] [(.int (1 : Int32)), (.ref b2), (.int (1 : Int32)), (.ref b2)]))
  refine own_by (own_laload X33 hx hZ e33 F27_b2 1 (by decide) (by decide) rfl (g := (mkF m 256 #[.val (.ref a), .val (.int (0 : Int32)), .val (.int (1 : Int32)), .val (.int (0 : Int32)), .val (.int (1 : Int32))] [(.int (1 : Int32)), (.ref b2), (.int (1 : Int32)), (.ref b2)])) rfl rfl (hb hby d6_256)) ?_
  show OEnds p e below s _ _ _ (T33.setTop (mkF m 257 #[.val (.ref a), .val (.int (0 : Int32)), .val (.int (1 : Int32)), .val (.int (0 : Int32)), .val (.int (1 : Int32))] [(.long ((updL g2 1 (-9223372036854775808 : Int64)) 1)), (.int (1 : Int32)), (.ref b2)]))
  refine own_by (fun _ k => XS.aloadN X33.here hx rfl (hb hby d6_257) rfl rfl k) ?_
  show OEnds p e below s _ _ _ (T33.setTop (mkF m 258 #[.val (.ref a), .val (.int (0 : Int32)), .val (.int (1 : Int32)), .val (.int (0 : Int32)), .val (.int (1 : Int32))] [(.ref a), (.long ((updL g2 1 (-9223372036854775808 : Int64)) 1)), (.int (1 : Int32)), (.ref b2)]))
  obtain ⟨T34, X34, e34, st34⟩ := getF X33 hx hZ hown (host := "") (Or.inl (hw _ (List.mem_of_getElem? (i := 11) rfl))) Via.refl e33 (O30.fld 0 rfl rfl) (g := (mkF m 258 #[.val (.ref a), .val (.int (0 : Int32)), .val (.int (1 : Int32)), .val (.int (0 : Int32)), .val (.int (1 : Int32))] [(.ref a), (.long ((updL g2 1 (-9223372036854775808 : Int64)) 1)), (.int (1 : Int32)), (.ref b2)])) rfl rfl (hb hby d6_258)
  refine own_by (st34) ?_
  show OEnds p e below s _ _ _ (T34.setTop (mkF m 261 #[.val (.ref a), .val (.int (0 : Int32)), .val (.int (1 : Int32)), .val (.int (0 : Int32)), .val (.int (1 : Int32))] [(.ref b1), (.long ((updL g2 1 (-9223372036854775808 : Int64)) 1)), (.int (1 : Int32)), (.ref b2)]))
  refine own_by (fun _ k => XS.iloadN X34.here hx rfl (hb hby d6_261) rfl k) ?_
  show OEnds p e below s _ _ _ (T34.setTop (mkF m 262 #[.val (.ref a), .val (.int (0 : Int32)), .val (.int (1 : Int32)), .val (.int (0 : Int32)), .val (.int (1 : Int32))] [(.int (0 : Int32)), (.ref b1), (.long ((updL g2 1 (-9223372036854775808 : Int64)) 1)), (.int (1 : Int32)), (.ref b2)]))
  have F35 : FA Z h27 b1 .long 64 (fun i => .long (g1 i)) := ((((F_b1.other W10 (Nat.ne_of_lt (by omega))).other W15 (Nat.ne_of_lt (by omega))).other W21 (Nat.ne_of_lt (by omega))).keep Kq27 (ninS (Nat.ne_of_lt (by omega)) nin0))
  refine own_by (own_laload X34 hx hZ e34 F35 0 (by decide) (by decide) rfl (g := (mkF m 262 #[.val (.ref a), .val (.int (0 : Int32)), .val (.int (1 : Int32)), .val (.int (0 : Int32)), .val (.int (1 : Int32))] [(.int (0 : Int32)), (.ref b1), (.long ((updL g2 1 (-9223372036854775808 : Int64)) 1)), (.int (1 : Int32)), (.ref b2)])) rfl rfl (hb hby d6_262)) ?_
  show OEnds p e below s _ _ _ (T34.setTop (mkF m 263 #[.val (.ref a), .val (.int (0 : Int32)), .val (.int (1 : Int32)), .val (.int (0 : Int32)), .val (.int (1 : Int32))] [(.long (g1 0)), (.long ((updL g2 1 (-9223372036854775808 : Int64)) 1)), (.int (1 : Int32)), (.ref b2)]))
  obtain ⟨T36, X36, e36, st36⟩ := own_callP X34 hx hZ (y := (⟨"java/lang/Math", "max", "(JJ)J"⟩ : MethodName)) hown (hw _ (List.mem_of_getElem? (i := 75) rfl)) (hw _ (List.mem_of_getElem? (i := 76) rfl)) (hw _ (List.mem_of_getElem? (i := 77) rfl)) (hw _ (List.mem_of_getElem? (i := 78) rfl)) (by decide) (rm_jmax l Z a0 hw [] ((updL g2 1 (-9223372036854775808 : Int64)) 1) (g1 0) h27) e34 (g := (mkF m 263 #[.val (.ref a), .val (.int (0 : Int32)), .val (.int (1 : Int32)), .val (.int (0 : Int32)), .val (.int (1 : Int32))] [(.long (g1 0)), (.long ((updL g2 1 (-9223372036854775808 : Int64)) 1)), (.int (1 : Int32)), (.ref b2)])) rfl (by rw [hml]; rfl) (argsL := [(.long ((updL g2 1 (-9223372036854775808 : Int64)) 1)), (.long (g1 0))]) (rest := [(.int (1 : Int32)), (.ref b2)]) (lenOf pd_pJJrJ rfl) rfl (W := 2) (by show 2 * 0 + _ ≤ _; exact Nat.le_of_eq rfl) (hb hby d6_263) (by decide) (by decide) (by decide) (by decide)
  refine own_by (st36) ?_
  show OEnds p e below s _ _ _ (T36.setTop (mkF m 266 #[.val (.ref a), .val (.int (0 : Int32)), .val (.int (1 : Int32)), .val (.int (0 : Int32)), .val (.int (1 : Int32))] [(.long (jmax ((updL g2 1 (-9223372036854775808 : Int64)) 1) (g1 0))), (.int (1 : Int32)), (.ref b2)]))
  obtain ⟨T37, h37, X37, e37, W37, st37⟩ := own_lastore X36 hx hZ e36 F27_b2 1 (by decide) (by decide) (g := (mkF m 266 #[.val (.ref a), .val (.int (0 : Int32)), .val (.int (1 : Int32)), .val (.int (0 : Int32)), .val (.int (1 : Int32))] [(.long (jmax ((updL g2 1 (-9223372036854775808 : Int64)) 1) (g1 0))), (.int (1 : Int32)), (.ref b2)])) rfl rfl (hb hby d6_266)
  refine own_by (st37) ?_
  have F37 : FA Z h37 b2 .long 64 (fun i => .long ((updL (updL g2 1 (-9223372036854775808 : Int64)) 1 (jmax ((updL g2 1 (-9223372036854775808 : Int64)) 1) (g1 0))) i)) := F27_b2.setL W37
  obtain ⟨f37, ef37⟩ : ∃ f : Nat → Int64, f = (updL (updL g2 1 (-9223372036854775808 : Int64)) 1 (jmax ((updL g2 1 (-9223372036854775808 : Int64)) 1) (g1 0))) := ⟨_, rfl⟩
  rw [← ef37] at F37
  have N37 := Fr.snoc X37 N27 g_b2
  have Z37 : n0 ≤ h37.size := Nat.le_trans Z27 (Keep.of_wr W37).1
  have K37 : Keep h0 h37 [a, b2, b3, b4, b5] := K27.wr W37 (Or.inl (List.mem_of_getElem? (i := 1) rfl))
  show OEnds p e below s _ _ _ (T37.setTop (mkF m 267 #[.val (.ref a), .val (.int (0 : Int32)), .val (.int (1 : Int32)), .val (.int (0 : Int32)), .val (.int (1 : Int32))] []))
  refine own_by (fun _ k => XS.iinc X37.here hx rfl (hb hby d6_267) rfl (l' := #[.val (.ref a), .val (.int (0 : Int32)), .val (.int (1 : Int32)), .val (.int (1 : Int32)), .val (.int (1 : Int32))]) rfl k) ?_
  show OEnds p e below s _ _ _ (T37.setTop (mkF m 270 #[.val (.ref a), .val (.int (0 : Int32)), .val (.int (1 : Int32)), .val (.int (1 : Int32)), .val (.int (1 : Int32))] []))
  refine own_by (fun _ k => XS.goto X37.here hx rfl (pc0 := 270) (pc' := 221) rfl (hb hby d6_270) (by decide) (by decide) k) ?_
  show OEnds p e below s _ _ _ (T37.setTop (mkF m 221 #[.val (.ref a), .val (.int (0 : Int32)), .val (.int (1 : Int32)), .val (.int (1 : Int32)), .val (.int (1 : Int32))] []))
  refine own_by (fun _ k => XS.iloadN X37.here hx rfl (hb hby d6_221) rfl k) ?_
  show OEnds p e below s _ _ _ (T37.setTop (mkF m 222 #[.val (.ref a), .val (.int (0 : Int32)), .val (.int (1 : Int32)), .val (.int (1 : Int32)), .val (.int (1 : Int32))] [(.int (1 : Int32))]))
  refine own_by (fun _ k => XS.aloadN X37.here hx rfl (hb hby d6_222) rfl rfl k) ?_
  show OEnds p e below s _ _ _ (T37.setTop (mkF m 223 #[.val (.ref a), .val (.int (0 : Int32)), .val (.int (1 : Int32)), .val (.int (1 : Int32)), .val (.int (1 : Int32))] [(.ref a), (.int (1 : Int32))]))
  have O39 : Obj Z h37 a "com/example/graphweft/graphweft/RangeMaxTree" sch_rt [(.ref b1), (.ref b2), (.ref b3), (.ref b4), (.ref b5), (.ref b6), (.ref b7), (.int (1 : Int32)), (.int (0 : Int32)), (.int (0 : Int32)), (.int te), (.int ta), (.int se), (.int sa), (.int pn), (.long bd), (.int ss), (.int bs), (.int bc)] := (O30.other W37 (Nat.ne_of_lt (by omega)))
  obtain ⟨T38, X38, e38, st38⟩ := getF X37 hx hZ hown (host := "") (Or.inl (hw _ (List.mem_of_getElem? (i := 31) rfl))) Via.refl e37 (O39.fld 7 rfl rfl) (g := (mkF m 223 #[.val (.ref a), .val (.int (0 : Int32)), .val (.int (1 : Int32)), .val (.int (1 : Int32)), .val (.int (1 : Int32))] [(.ref a), (.int (1 : Int32))])) rfl rfl (hb hby d6_223)
  refine own_by (st38) ?_
  show OEnds p e below s _ _ _ (T38.setTop (mkF m 226 #[.val (.ref a), .val (.int (0 : Int32)), .val (.int (1 : Int32)), .val (.int (1 : Int32)), .val (.int (1 : Int32))] [(.int (1 : Int32)), (.int (1 : Int32))]))
  refine own_by (fun _ k => XS.icmpYes X38.here hx rfl (pc0 := 226) (pc' := 273) rfl (hb hby d6_226) rfl (flt (by decide : ¬ ((1 : Int32) < (1 : Int32)))).2.1 (by decide) (by decide) k) ?_
  show OEnds p e below s _ _ _ (T38.setTop (mkF m 273 #[.val (.ref a), .val (.int (0 : Int32)), .val (.int (1 : Int32)), .val (.int (1 : Int32)), .val (.int (1 : Int32))] []))
  refine own_by (fun _ k => XS.iloadN X38.here hx rfl (hb hby d6_273) rfl k) ?_
  show OEnds p e below s _ _ _ (T38.setTop (mkF m 274 #[.val (.ref a), .val (.int (0 : Int32)), .val (.int (1 : Int32)), .val (.int (1 : Int32)), .val (.int (1 : Int32))] [(.int (1 : Int32))]))
  refine own_by (fun _ k => XS.iconst X38.here hx rfl (hb hby d6_274) k) ?_
  show OEnds p e below s _ _ _ (T38.setTop (mkF m 275 #[.val (.ref a), .val (.int (0 : Int32)), .val (.int (1 : Int32)), .val (.int (1 : Int32)), .val (.int (1 : Int32))] [(.int (1 : Int32)), (.int (1 : Int32))]))
  refine own_by (fun _ k => XS.isub X38.here hx rfl (hb hby d6_275) rfl k) ?_
  show OEnds p e below s _ _ _ (T38.setTop (mkF m 276 #[.val (.ref a), .val (.int (0 : Int32)), .val (.int (1 : Int32)), .val (.int (1 : Int32)), .val (.int (1 : Int32))] [(.int (0 : Int32))]))
  refine own_by (fun _ k => XS.istoreN X38.here hx rfl (hb hby d6_276) rfl (l' := #[.val (.ref a), .val (.int (0 : Int32)), .val (.int (1 : Int32)), .val (.int (0 : Int32)), .val (.int (1 : Int32))]) rfl k) ?_
  show OEnds p e below s _ _ _ (T38.setTop (mkF m 277 #[.val (.ref a), .val (.int (0 : Int32)), .val (.int (1 : Int32)), .val (.int (0 : Int32)), .val (.int (1 : Int32))] []))
  refine own_by (fun _ k => XS.iloadN X38.here hx rfl (hb hby d6_277) rfl k) ?_
  show OEnds p e below s _ _ _ (T38.setTop (mkF m 278 #[.val (.ref a), .val (.int (0 : Int32)), .val (.int (1 : Int32)), .val (.int (0 : Int32)), .val (.int (1 : Int32))] [(.int (0 : Int32))]))
  refine own_by (fun _ k => XS.ifYes X38.here hx rfl (pc0 := 278) (pc' := 329) rfl (hb hby d6_278) rfl ((if0 _ _).trans (flt (by decide : ¬ ((0 : Int32) < (0 : Int32)))).2.2.2) (by decide) (by decide) k) ?_
  show OEnds p e below s _ _ _ (T38.setTop (mkF m 329 #[.val (.ref a), .val (.int (0 : Int32)), .val (.int (1 : Int32)), .val (.int (0 : Int32)), .val (.int (1 : Int32))] []))
  refine own_by (fun _ k => XS.aloadN X38.here hx rfl (hb hby d6_329) rfl rfl k) ?_
  show OEnds p e below s _ _ _ (T38.setTop (mkF m 330 #[.val (.ref a), .val (.int (0 : Int32)), .val (.int (1 : Int32)), .val (.int (0 : Int32)), .val (.int (1 : Int32))] [(.ref a)]))
  refine own_by (fun _ k => XS.dup X38.here hx rfl (hb hby d6_330) rfl rfl k) ?_
  show OEnds p e below s _ _ _ (T38.setTop (mkF m 331 #[.val (.ref a), .val (.int (0 : Int32)), .val (.int (1 : Int32)), .val (.int (0 : Int32)), .val (.int (1 : Int32))] [(.ref a), (.ref a)]))
  obtain ⟨T40, X40, e40, st40⟩ := getF X38 hx hZ hown (host := "") (Or.inl (hw _ (List.mem_of_getElem? (i := 33) rfl))) Via.refl e38 (O39.fld 8 rfl rfl) (g := (mkF m 331 #[.val (.ref a), .val (.int (0 : Int32)), .val (.int (1 : Int32)), .val (.int (0 : Int32)), .val (.int (1 : Int32))] [(.ref a), (.ref a)])) rfl rfl (hb hby d6_331)
  refine own_by (st40) ?_
  show OEnds p e below s _ _ _ (T40.setTop (mkF m 334 #[.val (.ref a), .val (.int (0 : Int32)), .val (.int (1 : Int32)), .val (.int (0 : Int32)), .val (.int (1 : Int32))] [(.int (0 : Int32)), (.ref a)]))
  refine own_by (fun _ k => XS.iconst X40.here hx rfl (hb hby d6_334) k) ?_
  show OEnds p e below s _ _ _ (T40.setTop (mkF m 335 #[.val (.ref a), .val (.int (0 : Int32)), .val (.int (1 : Int32)), .val (.int (0 : Int32)), .val (.int (1 : Int32))] [(.int (2 : Int32)), (.int (0 : Int32)), (.ref a)]))
  refine own_by (fun _ k => XS.iloadN X40.here hx rfl (hb hby d6_335) rfl k) ?_
  show OEnds p e below s _ _ _ (T40.setTop (mkF m 336 #[.val (.ref a), .val (.int (0 : Int32)), .val (.int (1 : Int32)), .val (.int (0 : Int32)), .val (.int (1 : Int32))] [(.int (1 : Int32)), (.int (2 : Int32)), (.int (0 : Int32)), (.ref a)]))
  refine own_by (fun _ k => XS.imul X40.here hx rfl (hb hby d6_336) rfl k) ?_
  show OEnds p e below s _ _ _ (T40.setTop (mkF m 337 #[.val (.ref a), .val (.int (0 : Int32)), .val (.int (1 : Int32)), .val (.int (0 : Int32)), .val (.int (1 : Int32))] [(.int (2 : Int32)), (.int (0 : Int32)), (.ref a)]))
  refine own_by (fun _ k => XS.iadd X40.here hx rfl (hb hby d6_337) rfl k) ?_
  show OEnds p e below s _ _ _ (T40.setTop (mkF m 338 #[.val (.ref a), .val (.int (0 : Int32)), .val (.int (1 : Int32)), .val (.int (0 : Int32)), .val (.int (1 : Int32))] [(.int (2 : Int32)), (.ref a)]))
  obtain ⟨T41, h41, X41, e41, W41, st41⟩ := putF X40 hx hZ hown (host := "") (Or.inl (hw _ (List.mem_of_getElem? (i := 33) rfl))) Via.refl e40 (O39.fld 8 rfl rfl) O39.exa (Or.inl (hw _ (List.mem_of_getElem? (i := 34) rfl))) (hw _ (List.mem_of_getElem? (i := 2) rfl)) (ty := .int) (by decide) rfl rfl (g := (mkF m 338 #[.val (.ref a), .val (.int (0 : Int32)), .val (.int (1 : Int32)), .val (.int (0 : Int32)), .val (.int (1 : Int32))] [(.int (2 : Int32)), (.ref a)])) rfl rfl (hb hby d6_338)
  refine own_by (st41) ?_
  have O41 : Obj Z h41 a "com/example/graphweft/graphweft/RangeMaxTree" sch_rt [(.ref b1), (.ref b2), (.ref b3), (.ref b4), (.ref b5), (.ref b6), (.ref b7), (.int (1 : Int32)), (.int (2 : Int32)), (.int (0 : Int32)), (.int te), (.int ta), (.int se), (.int sa), (.int pn), (.long bd), (.int ss), (.int bs), (.int bc)] := O39.set (so_sch_rt hw) W41 8 rfl (Nat.le_of_ble_eq_true rfl)
  have N41 := Fr.snoc X41 N37 g_a
  have Z41 : n0 ≤ h41.size := Nat.le_trans Z37 (Keep.of_wr W41).1
  have K41 : Keep h0 h41 [a, b2, b3, b4, b5] := K37.wr W41 (Or.inl (List.mem_of_getElem? (i := 0) rfl))
  show OEnds p e below s _ _ _ (T41.setTop (mkF m 341 #[.val (.ref a), .val (.int (0 : Int32)), .val (.int (1 : Int32)), .val (.int (0 : Int32)), .val (.int (1 : Int32))] []))
  refine own_by (fun _ k => XS.aloadN X41.here hx rfl (hb hby d6_341) rfl rfl k) ?_
  show OEnds p e below s _ _ _ (T41.setTop (mkF m 342 #[.val (.ref a), .val (.int (0 : Int32)), .val (.int (1 : Int32)), .val (.int (0 : Int32)), .val (.int (1 : Int32))] [(.ref a)]))
  refine own_by (fun _ k => XS.dup X41.here hx rfl (hb hby d6_342) rfl rfl k) ?_
  show OEnds p e below s _ _ _ (T41.setTop (mkF m 343 #[.val (.ref a), .val (.int (0 : Int32)), .val (.int (1 : Int32)), .val (.int (0 : Int32)), .val (.int (1 : Int32))] [(.ref a), (.ref a)]))
  obtain ⟨T42, X42, e42, st42⟩ := getF X41 hx hZ hown (host := "") (Or.inl (hw _ (List.mem_of_getElem? (i := 35) rfl))) Via.refl e41 (O41.fld 9 rfl rfl) (g := (mkF m 343 #[.val (.ref a), .val (.int (0 : Int32)), .val (.int (1 : Int32)), .val (.int (0 : Int32)), .val (.int (1 : Int32))] [(.ref a), (.ref a)])) rfl rfl (hb hby d6_343)
  refine own_by (st42) ?_
  show OEnds p e below s _ _ _ (T42.setTop (mkF m 346 #[.val (.ref a), .val (.int (0 : Int32)), .val (.int (1 : Int32)), .val (.int (0 : Int32)), .val (.int (1 : Int32))] [(.int (0 : Int32)), (.ref a)]))
  refine own_by (fun _ k => XS.dupX1 X42.here hx rfl (hb hby d6_346) rfl rfl rfl k) ?_
  show OEnds p e below s _ _ _ (T42.setTop (mkF m 347 #[.val (.ref a), .val (.int (0 : Int32)), .val (.int (1 : Int32)), .val (.int (0 : Int32)), .val (.int (1 : Int32))] [(.int (0 : Int32)), (.ref a), (.int (0 : Int32))]))
  refine own_by (fun _ k => XS.iconst X42.here hx rfl (hb hby d6_347) k) ?_
  show OEnds p e below s _ _ _ (T42.setTop (mkF m 348 #[.val (.ref a), .val (.int (0 : Int32)), .val (.int (1 : Int32)), .val (.int (0 : Int32)), .val (.int (1 : Int32))] [(.int (1 : Int32)), (.int (0 : Int32)), (.ref a), (.int (0 : Int32))]))
  refine own_by (fun _ k => XS.iadd X42.here hx rfl (hb hby d6_348) rfl k) ?_
  show OEnds p e below s _ _ _ (T42.setTop (mkF m 349 #[.val (.ref a), .val (.int (0 : Int32)), .val (.int (1 : Int32)), .val (.int (0 : Int32)), .val (.int (1 : Int32))] [(.int (1 : Int32)), (.ref a), (.int (0 : Int32))]))
  obtain ⟨T43, h43, X43, e43, W43, st43⟩ := putF X42 hx hZ hown (host := "") (Or.inl (hw _ (List.mem_of_getElem? (i := 35) rfl))) Via.refl e42 (O41.fld 9 rfl rfl) O41.exa (Or.inl (hw _ (List.mem_of_getElem? (i := 36) rfl))) (hw _ (List.mem_of_getElem? (i := 2) rfl)) (ty := .int) (by decide) rfl rfl (g := (mkF m 349 #[.val (.ref a), .val (.int (0 : Int32)), .val (.int (1 : Int32)), .val (.int (0 : Int32)), .val (.int (1 : Int32))] [(.int (1 : Int32)), (.ref a), (.int (0 : Int32))])) rfl rfl (hb hby d6_349)
  refine own_by (st43) ?_
  have O43 : Obj Z h43 a "com/example/graphweft/graphweft/RangeMaxTree" sch_rt [(.ref b1), (.ref b2), (.ref b3), (.ref b4), (.ref b5), (.ref b6), (.ref b7), (.int (1 : Int32)), (.int (2 : Int32)), (.int (1 : Int32)), (.int te), (.int ta), (.int se), (.int sa), (.int pn), (.long bd), (.int ss), (.int bs), (.int bc)] := O41.set (so_sch_rt hw) W43 9 rfl (Nat.le_of_ble_eq_true rfl)
  have N43 := Fr.snoc X43 N41 g_a
  have Z43 : n0 ≤ h43.size := Nat.le_trans Z41 (Keep.of_wr W43).1
  have K43 : Keep h0 h43 [a, b2, b3, b4, b5] := K41.wr W43 (Or.inl (List.mem_of_getElem? (i := 0) rfl))
  show OEnds p e below s _ _ _ (T43.setTop (mkF m 352 #[.val (.ref a), .val (.int (0 : Int32)), .val (.int (1 : Int32)), .val (.int (0 : Int32)), .val (.int (1 : Int32))] [(.int (0 : Int32))]))
  have F44 : FA Z h43 b2 .long 64 (fun i => .long (f37 i)) := ((F37.other W41 (Ne.symm (Nat.ne_of_lt (by omega)))).other W43 (Ne.symm (Nat.ne_of_lt (by omega))))
  have F45 : FA Z h43 b3 .int 16 (fun i => .int ((updI g3 0 (0 : Int32)) i)) := ((((((F10.other W15 (Nat.ne_of_lt (by omega))).other W21 (Nat.ne_of_lt (by omega))).keep Kq27 (ninS (Ne.symm (Nat.ne_of_lt (by omega))) nin0)).other W37 (Ne.symm (Nat.ne_of_lt (by omega)))).other W41 (Ne.symm (Nat.ne_of_lt (by omega)))).other W43 (Ne.symm (Nat.ne_of_lt (by omega))))
  have F46 : FA Z h43 b4 .int 16 (fun i => .int ((updI g4 0 (1 : Int32)) i)) := (((((F15.other W21 (Nat.ne_of_lt (by omega))).keep Kq27 (ninS (Ne.symm (Nat.ne_of_lt (by omega))) nin0)).other W37 (Ne.symm (Nat.ne_of_lt (by omega)))).other W41 (Ne.symm (Nat.ne_of_lt (by omega)))).other W43 (Ne.symm (Nat.ne_of_lt (by omega))))
  have F47 : FA Z h43 b5 .int 16 (fun i => .int ((updI g5 0 (0 : Int32)) i)) := ((((F21.keep Kq27 (ninS (Ne.symm (Nat.ne_of_lt (by omega))) nin0)).other W37 (Ne.symm (Nat.ne_of_lt (by omega)))).other W41 (Ne.symm (Nat.ne_of_lt (by omega)))).other W43 (Ne.symm (Nat.ne_of_lt (by omega))))
  exact own_retI X43 hx hlk Bd.returns (hb hby d6_352) (by rw [e43]; subst ef37; exact ⟨rfl, N43, K43, O43, F44, F45, F46, F47⟩) (by decide) (by decide)
def Q_index_2 (Z : State) (a : Addr) (b1 : Addr) (b2 : Addr) (b3 : Addr) (b4 : Addr) (b5 : Addr) (b6 : Addr) (b7 : Addr) (te : Int32) (ta : Int32) (se : Int32) (sa : Int32) (pn : Int32) (bd : Int64) (ss : Int32) (bs : Int32) (bc : Int32) (g1 : Nat → Int64) (g2 : Nat → Int64) (g3 : Nat → Int32) (g4 : Nat → Int32) (g5 : Nat → Int32) (h0 : Heap) (n0 : Nat) (r : Option Value) (h : Heap) (L : List Loc) : Prop := r = some (.int (0 : Int32)) ∧ Fr n0 L ∧ Keep h0 h [a, b2, b3, b4, b5] ∧ Obj Z h a "com/example/graphweft/graphweft/RangeMaxTree" sch_rt [(.ref b1), (.ref b2), (.ref b3), (.ref b4), (.ref b5), (.ref b6), (.ref b7), (.int (2 : Int32)), (.int (2 : Int32)), (.int (1 : Int32)), (.int te), (.int ta), (.int se), (.int sa), (.int pn), (.long bd), (.int ss), (.int bs), (.int bc)] ∧ FA Z h b2 .long 64 (fun i => .long ((updL (updL (updL g2 1 (-9223372036854775808 : Int64)) 1 (jmax ((updL g2 1 (-9223372036854775808 : Int64)) 1) (g1 0))) 1 (jmax ((updL (updL g2 1 (-9223372036854775808 : Int64)) 1 (jmax ((updL g2 1 (-9223372036854775808 : Int64)) 1) (g1 0))) 1) (g1 1))) i)) ∧ FA Z h b3 .int 16 (fun i => .int ((updI g3 0 (0 : Int32)) i)) ∧ FA Z h b4 .int 16 (fun i => .int ((updI g4 0 (2 : Int32)) i)) ∧ FA Z h b5 .int 16 (fun i => .int ((updI g5 0 (0 : Int32)) i))
set_option maxRecDepth 65536 in
set_option maxHeartbeats 40000000 in
theorem rm_index_2 (l : Launch) (Z : State) (a0 : Array Value) (hw : ∀ d ∈ tables_1, d.before a0 Z = true) (ws : List Jvm.Cond) (a : Addr) (b1 : Addr) (b2 : Addr) (b3 : Addr) (b4 : Addr) (b5 : Addr) (b6 : Addr) (b7 : Addr) (te : Int32) (ta : Int32) (se : Int32) (sa : Int32) (pn : Int32) (bd : Int64) (ss : Int32) (bs : Int32) (bc : Int32) (g1 : Nat → Int64) (g2 : Nat → Int64) (g3 : Nat → Int32) (g4 : Nat → Int32) (g5 : Nat → Int32) (h0 : Heap) (n0 : Nat) (Z0 : n0 ≤ h0.size) (O0 : Obj Z h0 a "com/example/graphweft/graphweft/RangeMaxTree" sch_rt [(.ref b1), (.ref b2), (.ref b3), (.ref b4), (.ref b5), (.ref b6), (.ref b7), (.int (2 : Int32)), (.int (0 : Int32)), (.int (0 : Int32)), (.int te), (.int ta), (.int se), (.int sa), (.int pn), (.long bd), (.int ss), (.int bs), (.int bc)]) (F_b1 : FA Z h0 b1 .long 64 (fun i => .long (g1 i))) (F_b2 : FA Z h0 b2 .long 64 (fun i => .long (g2 i))) (F_b3 : FA Z h0 b3 .int 16 (fun i => .int (g3 i))) (F_b4 : FA Z h0 b4 .int 16 (fun i => .int (g4 i))) (F_b5 : FA Z h0 b5 .int 16 (fun i => .int (g5 i))) (g_a : n0 ≤ a) (g_b2 : n0 ≤ b2) (g_b3 : n0 ≤ b3) (g_b4 : n0 ≤ b4) (g_b5 : n0 ≤ b5) (hord : @LT.lt Nat instLTNat a b1 ∧ @LT.lt Nat instLTNat b1 b2 ∧ @LT.lt Nat instLTNat b2 b3 ∧ @LT.lt Nat instLTNat b3 b4 ∧ @LT.lt Nat instLTNat b4 b5 ∧ @LT.lt Nat instLTNat b5 b6 ∧ @LT.lt Nat instLTNat b6 b7) :
    MetFree l (⟨"com/example/graphweft/graphweft/RangeMaxTree", "index", "()I"⟩ : MethodName) (head1 (Jvm.Cond.code (⟨"com/example/graphweft/graphweft/RangeMaxTree", "index", "()I"⟩ : MethodName) prog_32_method_5_code 5 (some .int) :: ws) ({ frames := 2, cells := 0, slots := 0, locals := 31 } : Room)) (fun a_ U => a_ = #[(.ref a)] ∧ Z.Warmed39 U.vm ∧ U.heap = h0) (fun _ _ _ _ _ => True) (fun _ U o U' => ∃ v_ L_, o = .returned v_ ∧ Q_index_2 Z a b1 b2 b3 b4 b5 b6 b7 te ta se sa pn bd ss bs bc g1 g2 g3 g4 g5 h0 n0 v_ U'.heap L_ ∧ FrameEnd U o U' L_ ({ frames := 2, cells := 0, slots := 0, locals := 31 } : Room).cells ({ frames := 2, cells := 0, slots := 0, locals := 31 } : Room).slots) := by
  refine MetFree.of_bodySF (plainFor_of_name pn_6) hisR ?_
  intro p e s m args below meth c s₁ Bd hml0 hP hK
  obtain ⟨rfl, hZ, hh⟩ := hP
  have hx := Bd.exec
  have hby := Bd.bytes
  have hlk : meth.locks = false := Bd.notSynchronized
  have hml : c.maxLocals = 5 := hml0
  have hown : s.vm.findClass "com/example/graphweft/graphweft/RangeMaxTree" = some m.cls := findClass_of_methodNamed Bd.named
  have hnm := (name_of_methodNamed Bd.named Bd.method).1
  have X0 : Stand p l e ({ frames := 2, cells := 0, slots := 0, locals := 31 } : Room) s m #[(.ref a)] below meth c s₁ [] 0 0 := Stand.of_body Bd
  have e0 : s₁.heap = h0 := by rw [← hh, Bd.state]; rfl
  have N0 := Fr.nil n0
  have K0 : Keep h0 h0 [a, b2, b3, b4, b5] := Keep.refl _ _
  show OEnds p e below s (Q_index_2 Z a b1 b2 b3 b4 b5 b6 b7 te ta se sa pn bd ss bs bc g1 g2 g3 g4 g5 h0 n0) _ _ _
  refine own_by (fun t k => castTop (ef_6 m a) k) ?_
  show OEnds p e below s _ _ _ (s₁.setTop (mkF m 0 #[.val (.ref a), .unset, .unset, .unset, .unset] []))
  refine own_by (fun _ k => XS.aloadN X0.here hx rfl (hb hby d6_0) rfl rfl k) ?_
  show OEnds p e below s _ _ _ (s₁.setTop (mkF m 1 #[.val (.ref a), .unset, .unset, .unset, .unset] [(.ref a)]))
  obtain ⟨T1, X1, e1, st1⟩ := getF X0 hx hZ hown (host := "") (Or.inl (hw _ (List.mem_of_getElem? (i := 35) rfl))) Via.refl e0 (O0.fld 9 rfl rfl) (g := (mkF m 1 #[.val (.ref a), .unset, .unset, .unset, .unset] [(.ref a)])) rfl rfl (hb hby d6_1)
  refine own_by (st1) ?_
  show OEnds p e below s _ _ _ (T1.setTop (mkF m 4 #[.val (.ref a), .unset, .unset, .unset, .unset] [(.int (0 : Int32))]))
  refine own_by (fun _ k => XS.ifNo X1.here hx rfl (hb hby d6_4) rfl ((if0 _ _).trans (teq (by decide : (0 : Int32) = (0 : Int32))).2) k) ?_
  show OEnds p e below s _ _ _ (T1.setTop (mkF m 7 #[.val (.ref a), .unset, .unset, .unset, .unset] []))
  refine own_by (fun _ k => XS.iconst X1.here hx rfl (hb hby d6_7) k) ?_
  show OEnds p e below s _ _ _ (T1.setTop (mkF m 8 #[.val (.ref a), .unset, .unset, .unset, .unset] [(.int (0 : Int32))]))
  refine own_by (fun _ k => XS.goto X1.here hx rfl (pc0 := 8) (pc' := 22) rfl (hb hby d6_8) (by decide) (by decide) k) ?_
  show OEnds p e below s _ _ _ (T1.setTop (mkF m 22 #[.val (.ref a), .unset, .unset, .unset, .unset] [(.int (0 : Int32))]))
  refine own_by (fun _ k => XS.istoreN X1.here hx rfl (hb hby d6_22) rfl (l' := #[.val (.ref a), .val (.int (0 : Int32)), .unset, .unset, .unset]) rfl k) ?_
  show OEnds p e below s _ _ _ (T1.setTop (mkF m 23 #[.val (.ref a), .val (.int (0 : Int32)), .unset, .unset, .unset] []))
  refine own_by (fun _ k => XS.aloadN X1.here hx rfl (hb hby d6_23) rfl rfl k) ?_
  show OEnds p e below s _ _ _ (T1.setTop (mkF m 24 #[.val (.ref a), .val (.int (0 : Int32)), .unset, .unset, .unset] [(.ref a)]))
  obtain ⟨T2, X2, e2, st2⟩ := getF X1 hx hZ hown (host := "") (Or.inl (hw _ (List.mem_of_getElem? (i := 31) rfl))) Via.refl e1 (O0.fld 7 rfl rfl) (g := (mkF m 24 #[.val (.ref a), .val (.int (0 : Int32)), .unset, .unset, .unset] [(.ref a)])) rfl rfl (hb hby d6_24)
  refine own_by (st2) ?_
  show OEnds p e below s _ _ _ (T2.setTop (mkF m 27 #[.val (.ref a), .val (.int (0 : Int32)), .unset, .unset, .unset] [(.int (2 : Int32))]))
  refine own_by (fun _ k => XS.iloadN X2.here hx rfl (hb hby d6_27) rfl k) ?_
  show OEnds p e below s _ _ _ (T2.setTop (mkF m 28 #[.val (.ref a), .val (.int (0 : Int32)), .unset, .unset, .unset] [(.int (0 : Int32)), (.int (2 : Int32))]))
  refine own_by (fun _ k => XS.isub X2.here hx rfl (hb hby d6_28) rfl k) ?_
  show OEnds p e below s _ _ _ (T2.setTop (mkF m 29 #[.val (.ref a), .val (.int (0 : Int32)), .unset, .unset, .unset] [(.int (2 : Int32))]))
  refine own_by (fun _ k => XS.bipush X2.here hx rfl (hb hby d6_29) k) ?_
  show OEnds p e below s _ _ _ (T2.setTop (mkF m 31 #[.val (.ref a), .val (.int (0 : Int32)), .unset, .unset, .unset] [(.int (8 : Int32)), (.int (2 : Int32))]))
  refine own_by (fun _ k => XS.idiv X2.here hx rfl (hb hby d6_31) rfl (by decide) k) ?_
  show OEnds p e below s _ _ _ (T2.setTop (mkF m 32 #[.val (.ref a), .val (.int (0 : Int32)), .unset, .unset, .unset] [(.int (0 : Int32))]))
  refine own_by (fun _ k => XS.aloadN X2.here hx rfl (hb hby d6_32) rfl rfl k) ?_
  show OEnds p e below s _ _ _ (T2.setTop (mkF m 33 #[.val (.ref a), .val (.int (0 : Int32)), .unset, .unset, .unset] [(.ref a), (.int (0 : Int32))]))
  obtain ⟨T3, X3, e3, st3⟩ := getF X2 hx hZ hown (host := "") (Or.inl (hw _ (List.mem_of_getElem? (i := 31) rfl))) Via.refl e2 (O0.fld 7 rfl rfl) (g := (mkF m 33 #[.val (.ref a), .val (.int (0 : Int32)), .unset, .unset, .unset] [(.ref a), (.int (0 : Int32))])) rfl rfl (hb hby d6_33)
  refine own_by (st3) ?_
  show OEnds p e below s _ _ _ (T3.setTop (mkF m 36 #[.val (.ref a), .val (.int (0 : Int32)), .unset, .unset, .unset] [(.int (2 : Int32)), (.int (0 : Int32))]))
  refine own_by (fun _ k => XS.iloadN X3.here hx rfl (hb hby d6_36) rfl k) ?_
  show OEnds p e below s _ _ _ (T3.setTop (mkF m 37 #[.val (.ref a), .val (.int (0 : Int32)), .unset, .unset, .unset] [(.int (0 : Int32)), (.int (2 : Int32)), (.int (0 : Int32))]))
  refine own_by (fun _ k => XS.isub X3.here hx rfl (hb hby d6_37) rfl k) ?_
  show OEnds p e below s _ _ _ (T3.setTop (mkF m 38 #[.val (.ref a), .val (.int (0 : Int32)), .unset, .unset, .unset] [(.int (2 : Int32)), (.int (0 : Int32))]))
  refine own_by (fun _ k => XS.bipush X3.here hx rfl (hb hby d6_38) k) ?_
  show OEnds p e below s _ _ _ (T3.setTop (mkF m 40 #[.val (.ref a), .val (.int (0 : Int32)), .unset, .unset, .unset] [(.int (8 : Int32)), (.int (2 : Int32)), (.int (0 : Int32))]))
  refine own_by (fun _ k => iremM X3 hx rfl (hb hby d6_40) rfl (by decide) k) ?_
  show OEnds p e below s _ _ _ (T3.setTop (mkF m 41 #[.val (.ref a), .val (.int (0 : Int32)), .unset, .unset, .unset] [(.int (2 : Int32)), (.int (0 : Int32))]))
  refine own_by (fun _ k => XS.ifYes X3.here hx rfl (pc0 := 41) (pc' := 48) rfl (hb hby d6_41) rfl ((if0 _ _).trans (feq (by decide : ¬ ((2 : Int32) = (0 : Int32)))).2) (by decide) (by decide) k) ?_
  show OEnds p e below s _ _ _ (T3.setTop (mkF m 48 #[.val (.ref a), .val (.int (0 : Int32)), .unset, .unset, .unset] [(.int (0 : Int32))]))
  refine own_by (fun _ k => XS.iconst X3.here hx rfl (hb hby d6_48) k) ?_
  show OEnds p e below s _ _ _ (T3.setTop (mkF m 49 #[.val (.ref a), .val (.int (0 : Int32)), .unset, .unset, .unset] [(.int (1 : Int32)), (.int (0 : Int32))]))
  refine own_by (fun _ k => XS.iadd X3.here hx rfl (hb hby d6_49) rfl k) ?_
  show OEnds p e below s _ _ _ (T3.setTop (mkF m 50 #[.val (.ref a), .val (.int (0 : Int32)), .unset, .unset, .unset] [(.int (1 : Int32))]))
  refine own_by (fun _ k => XS.istoreN X3.here hx rfl (hb hby d6_50) rfl (l' := #[.val (.ref a), .val (.int (0 : Int32)), .val (.int (1 : Int32)), .unset, .unset]) rfl k) ?_
  show OEnds p e below s _ _ _ (T3.setTop (mkF m 51 #[.val (.ref a), .val (.int (0 : Int32)), .val (.int (1 : Int32)), .unset, .unset] []))
  refine own_by (fun _ k => XS.aloadN X3.here hx rfl (hb hby d6_51) rfl rfl k) ?_
  show OEnds p e below s _ _ _ (T3.setTop (mkF m 52 #[.val (.ref a), .val (.int (0 : Int32)), .val (.int (1 : Int32)), .unset, .unset] [(.ref a)]))
  obtain ⟨T4, X4, e4, st4⟩ := getF X3 hx hZ hown (host := "") (Or.inl (hw _ (List.mem_of_getElem? (i := 13) rfl))) Via.refl e3 (O0.fld 1 rfl rfl) (g := (mkF m 52 #[.val (.ref a), .val (.int (0 : Int32)), .val (.int (1 : Int32)), .unset, .unset] [(.ref a)])) rfl rfl (hb hby d6_52)
  refine own_by (st4) ?_
  show OEnds p e below s _ _ _ (T4.setTop (mkF m 55 #[.val (.ref a), .val (.int (0 : Int32)), .val (.int (1 : Int32)), .unset, .unset] [(.ref b2)]))
  refine own_by (own_len X4 hx hZ e4 F_b2 (z := (64 : Int32)) (by decide) (g := (mkF m 55 #[.val (.ref a), .val (.int (0 : Int32)), .val (.int (1 : Int32)), .unset, .unset] [(.ref b2)])) rfl rfl (hb hby d6_55)) ?_
  show OEnds p e below s _ _ _ (T4.setTop (mkF m 56 #[.val (.ref a), .val (.int (0 : Int32)), .val (.int (1 : Int32)), .unset, .unset] [(.int (64 : Int32))]))
  refine own_by (fun _ k => XS.aloadN X4.here hx rfl (hb hby d6_56) rfl rfl k) ?_
  show OEnds p e below s _ _ _ (T4.setTop (mkF m 57 #[.val (.ref a), .val (.int (0 : Int32)), .val (.int (1 : Int32)), .unset, .unset] [(.ref a), (.int (64 : Int32))]))
  obtain ⟨T5, X5, e5, st5⟩ := getF X4 hx hZ hown (host := "") (Or.inl (hw _ (List.mem_of_getElem? (i := 33) rfl))) Via.refl e4 (O0.fld 8 rfl rfl) (g := (mkF m 57 #[.val (.ref a), .val (.int (0 : Int32)), .val (.int (1 : Int32)), .unset, .unset] [(.ref a), (.int (64 : Int32))])) rfl rfl (hb hby d6_57)
  refine own_by (st5) ?_
  show OEnds p e below s _ _ _ (T5.setTop (mkF m 60 #[.val (.ref a), .val (.int (0 : Int32)), .val (.int (1 : Int32)), .unset, .unset] [(.int (0 : Int32)), (.int (64 : Int32))]))
  refine own_by (fun _ k => XS.isub X5.here hx rfl (hb hby d6_60) rfl k) ?_
  show OEnds p e below s _ _ _ (T5.setTop (mkF m 61 #[.val (.ref a), .val (.int (0 : Int32)), .val (.int (1 : Int32)), .unset, .unset] [(.int (64 : Int32))]))
  refine own_by (fun _ k => XS.iconst X5.here hx rfl (hb hby d6_61) k) ?_
  show OEnds p e below s _ _ _ (T5.setTop (mkF m 62 #[.val (.ref a), .val (.int (0 : Int32)), .val (.int (1 : Int32)), .unset, .unset] [(.int (2 : Int32)), (.int (64 : Int32))]))
  refine own_by (fun _ k => XS.iloadN X5.here hx rfl (hb hby d6_62) rfl k) ?_
  show OEnds p e below s _ _ _ (T5.setTop (mkF m 63 #[.val (.ref a), .val (.int (0 : Int32)), .val (.int (1 : Int32)), .unset, .unset] [(.int (1 : Int32)), (.int (2 : Int32)), (.int (64 : Int32))]))
  refine own_by (fun _ k => XS.imul X5.here hx rfl (hb hby d6_63) rfl k) ?_
  show OEnds p e below s _ _ _ (T5.setTop (mkF m 64 #[.val (.ref a), .val (.int (0 : Int32)), .val (.int (1 : Int32)), .unset, .unset] [(.int (2 : Int32)), (.int (64 : Int32))]))
  refine own_by (fun _ k => XS.icmpYes X5.here hx rfl (pc0 := 64) (pc' := 96) rfl (hb hby d6_64) rfl (flt (by decide : ¬ ((64 : Int32) < (2 : Int32)))).2.1 (by decide) (by decide) k) ?_
  show OEnds p e below s _ _ _ (T5.setTop (mkF m 96 #[.val (.ref a), .val (.int (0 : Int32)), .val (.int (1 : Int32)), .unset, .unset] []))
  refine own_by (fun _ k => XS.aloadN X5.here hx rfl (hb hby d6_96) rfl rfl k) ?_
  show OEnds p e below s _ _ _ (T5.setTop (mkF m 97 #[.val (.ref a), .val (.int (0 : Int32)), .val (.int (1 : Int32)), .unset, .unset] [(.ref a)]))
  obtain ⟨T6, X6, e6, st6⟩ := getF X5 hx hZ hown (host := "") (Or.inl (hw _ (List.mem_of_getElem? (i := 35) rfl))) Via.refl e5 (O0.fld 9 rfl rfl) (g := (mkF m 97 #[.val (.ref a), .val (.int (0 : Int32)), .val (.int (1 : Int32)), .unset, .unset] [(.ref a)])) rfl rfl (hb hby d6_97)
  refine own_by (st6) ?_
  show OEnds p e below s _ _ _ (T6.setTop (mkF m 100 #[.val (.ref a), .val (.int (0 : Int32)), .val (.int (1 : Int32)), .unset, .unset] [(.int (0 : Int32))]))
  refine own_by (fun _ k => XS.aloadN X6.here hx rfl (hb hby d6_100) rfl rfl k) ?_
  show OEnds p e below s _ _ _ (T6.setTop (mkF m 101 #[.val (.ref a), .val (.int (0 : Int32)), .val (.int (1 : Int32)), .unset, .unset] [(.ref a), (.int (0 : Int32))]))
  obtain ⟨T7, X7, e7, st7⟩ := getF X6 hx hZ hown (host := "") (Or.inl (hw _ (List.mem_of_getElem? (i := 16) rfl))) Via.refl e6 (O0.fld 2 rfl rfl) (g := (mkF m 101 #[.val (.ref a), .val (.int (0 : Int32)), .val (.int (1 : Int32)), .unset, .unset] [(.ref a), (.int (0 : Int32))])) rfl rfl (hb hby d6_101)
  refine own_by (st7) ?_
  show OEnds p e below s _ _ _ (T7.setTop (mkF m 104 #[.val (.ref a), .val (.int (0 : Int32)), .val (.int (1 : Int32)), .unset, .unset] [(.ref b3), (.int (0 : Int32))]))
  refine own_by (own_len X7 hx hZ e7 F_b3 (z := (16 : Int32)) (by decide) (g := (mkF m 104 #[.val (.ref a), .val (.int (0 : Int32)), .val (.int (1 : Int32)), .unset, .unset] [(.ref b3), (.int (0 : Int32))])) rfl rfl (hb hby d6_104)) ?_
  show OEnds p e below s _ _ _ (T7.setTop (mkF m 105 #[.val (.ref a), .val (.int (0 : Int32)), .val (.int (1 : Int32)), .unset, .unset] [(.int (16 : Int32)), (.int (0 : Int32))]))
  refine own_by (fun _ k => XS.icmpYes X7.here hx rfl (pc0 := 105) (pc' := 159) rfl (hb hby d6_105) rfl (feq (by decide : ¬ ((0 : Int32) = (16 : Int32)))).2 (by decide) (by decide) k) ?_
  show OEnds p e below s _ _ _ (T7.setTop (mkF m 159 #[.val (.ref a), .val (.int (0 : Int32)), .val (.int (1 : Int32)), .unset, .unset] []))
  refine own_by (fun _ k => XS.aloadN X7.here hx rfl (hb hby d6_159) rfl rfl k) ?_
  show OEnds p e below s _ _ _ (T7.setTop (mkF m 160 #[.val (.ref a), .val (.int (0 : Int32)), .val (.int (1 : Int32)), .unset, .unset] [(.ref a)]))
  obtain ⟨T8, X8, e8, st8⟩ := getF X7 hx hZ hown (host := "") (Or.inl (hw _ (List.mem_of_getElem? (i := 16) rfl))) Via.refl e7 (O0.fld 2 rfl rfl) (g := (mkF m 160 #[.val (.ref a), .val (.int (0 : Int32)), .val (.int (1 : Int32)), .unset, .unset] [(.ref a)])) rfl rfl (hb hby d6_160)
  refine own_by (st8) ?_
  show OEnds p e below s _ _ _ (T8.setTop (mkF m 163 #[.val (.ref a), .val (.int (0 : Int32)), .val (.int (1 : Int32)), .unset, .unset] [(.ref b3)]))
  refine own_by (fun _ k => XS.aloadN X8.here hx rfl (hb hby d6_163) rfl rfl k) ?_
  show OEnds p e below s _ _ _ (T8.setTop (mkF m 164 #[.val (.ref a), .val (.int (0 : Int32)), .val (.int (1 : Int32)), .unset, .unset] [(.ref a), (.ref b3)]))
  obtain ⟨T9, X9, e9, st9⟩ := getF X8 hx hZ hown (host := "") (Or.inl (hw _ (List.mem_of_getElem? (i := 35) rfl))) Via.refl e8 (O0.fld 9 rfl rfl) (g := (mkF m 164 #[.val (.ref a), .val (.int (0 : Int32)), .val (.int (1 : Int32)), .unset, .unset] [(.ref a), (.ref b3)])) rfl rfl (hb hby d6_164)
  refine own_by (st9) ?_
  show OEnds p e below s _ _ _ (T9.setTop (mkF m 167 #[.val (.ref a), .val (.int (0 : Int32)), .val (.int (1 : Int32)), .unset, .unset] [(.int (0 : Int32)), (.ref b3)]))
  refine own_by (fun _ k => XS.iloadN X9.here hx rfl (hb hby d6_167) rfl k) ?_
  show OEnds p e below s _ _ _ (T9.setTop (mkF m 168 #[.val (.ref a), .val (.int (0 : Int32)), .val (.int (1 : Int32)), .unset, .unset] [(.int (0 : Int32)), (.int (0 : Int32)), (.ref b3)]))
  obtain ⟨T10, h10, X10, e10, W10, st10⟩ := own_iastore X9 hx hZ e9 F_b3 0 (by decide) (by decide) (g := (mkF m 168 #[.val (.ref a), .val (.int (0 : Int32)), .val (.int (1 : Int32)), .unset, .unset] [(.int (0 : Int32)), (.int (0 : Int32)), (.ref b3)])) rfl rfl (hb hby d6_168)
  refine own_by (st10) ?_
  have F10 : FA Z h10 b3 .int 16 (fun i => .int ((updI g3 0 (0 : Int32)) i)) := F_b3.setI W10
  have N10 := Fr.snoc X10 N0 g_b3
  have Z10 : n0 ≤ h10.size := Nat.le_trans Z0 (Keep.of_wr W10).1
  have K10 : Keep h0 h10 [a, b2, b3, b4, b5] := K0.wr W10 (Or.inl (List.mem_of_getElem? (i := 2) rfl))
  show OEnds p e below s _ _ _ (T10.setTop (mkF m 169 #[.val (.ref a), .val (.int (0 : Int32)), .val (.int (1 : Int32)), .unset, .unset] []))
  refine own_by (fun _ k => XS.aloadN X10.here hx rfl (hb hby d6_169) rfl rfl k) ?_
  show OEnds p e below s _ _ _ (T10.setTop (mkF m 170 #[.val (.ref a), .val (.int (0 : Int32)), .val (.int (1 : Int32)), .unset, .unset] [(.ref a)]))
  have O12 : Obj Z h10 a "com/example/graphweft/graphweft/RangeMaxTree" sch_rt [(.ref b1), (.ref b2), (.ref b3), (.ref b4), (.ref b5), (.ref b6), (.ref b7), (.int (2 : Int32)), (.int (0 : Int32)), (.int (0 : Int32)), (.int te), (.int ta), (.int se), (.int sa), (.int pn), (.long bd), (.int ss), (.int bs), (.int bc)] := (O0.other W10 (Nat.ne_of_lt (by omega)))
  obtain ⟨T11, X11, e11, st11⟩ := getF X10 hx hZ hown (host := "") (Or.inl (hw _ (List.mem_of_getElem? (i := 18) rfl))) Via.refl e10 (O12.fld 3 rfl rfl) (g := (mkF m 170 #[.val (.ref a), .val (.int (0 : Int32)), .val (.int (1 : Int32)), .unset, .unset] [(.ref a)])) rfl rfl (hb hby d6_170)
  refine own_by (st11) ?_
  show OEnds p e below s _ _ _ (T11.setTop (mkF m 173 #[.val (.ref a), .val (.int (0 : Int32)), .val (.int (1 : Int32)), .unset, .unset] [(.ref b4)]))
  refine own_by (fun _ k => XS.aloadN X11.here hx rfl (hb hby d6_173) rfl rfl k) ?_
  show OEnds p e below s _ _ _ (T11.setTop (mkF m 174 #[.val (.ref a), .val (.int (0 : Int32)), .val (.int (1 : Int32)), .unset, .unset] [(.ref a), (.ref b4)]))
  obtain ⟨T13, X13, e13, st13⟩ := getF X11 hx hZ hown (host := "") (Or.inl (hw _ (List.mem_of_getElem? (i := 35) rfl))) Via.refl e11 (O12.fld 9 rfl rfl) (g := (mkF m 174 #[.val (.ref a), .val (.int (0 : Int32)), .val (.int (1 : Int32)), .unset, .unset] [(.ref a), (.ref b4)])) rfl rfl (hb hby d6_174)
  refine own_by (st13) ?_
  show OEnds p e below s _ _ _ (T13.setTop (mkF m 177 #[.val (.ref a), .val (.int (0 : Int32)), .val (.int (1 : Int32)), .unset, .unset] [(.int (0 : Int32)), (.ref b4)]))
  refine own_by (fun _ k => XS.aloadN X13.here hx rfl (hb hby d6_177) rfl rfl k) ?_
  show OEnds p e below s _ _ _ (T13.setTop (mkF m 178 #[.val (.ref a), .val (.int (0 : Int32)), .val (.int (1 : Int32)), .unset, .unset] [(.ref a), (.int (0 : Int32)), (.ref b4)]))
  obtain ⟨T14, X14, e14, st14⟩ := getF X13 hx hZ hown (host := "") (Or.inl (hw _ (List.mem_of_getElem? (i := 31) rfl))) Via.refl e13 (O12.fld 7 rfl rfl) (g := (mkF m 178 #[.val (.ref a), .val (.int (0 : Int32)), .val (.int (1 : Int32)), .unset, .unset] [(.ref a), (.int (0 : Int32)), (.ref b4)])) rfl rfl (hb hby d6_178)
  refine own_by (st14) ?_
  show OEnds p e below s _ _ _ (T14.setTop (mkF m 181 #[.val (.ref a), .val (.int (0 : Int32)), .val (.int (1 : Int32)), .unset, .unset] [(.int (2 : Int32)), (.int (0 : Int32)), (.ref b4)]))
  have F16 : FA Z h10 b4 .int 16 (fun i => .int (g4 i)) := (F_b4.other W10 (Ne.symm (Nat.ne_of_lt (by omega))))
  obtain ⟨T15, h15, X15, e15, W15, st15⟩ := own_iastore X14 hx hZ e14 F16 0 (by decide) (by decide) (g := (mkF m 181 #[.val (.ref a), .val (.int (0 : Int32)), .val (.int (1 : Int32)), .unset, .unset] [(.int (2 : Int32)), (.int (0 : Int32)), (.ref b4)])) rfl rfl (hb hby d6_181)
  refine own_by (st15) ?_
  have F15 : FA Z h15 b4 .int 16 (fun i => .int ((updI g4 0 (2 : Int32)) i)) := F16.setI W15
  have N15 := Fr.snoc X15 N10 g_b4
  have Z15 : n0 ≤ h15.size := Nat.le_trans Z10 (Keep.of_wr W15).1
  have K15 : Keep h0 h15 [a, b2, b3, b4, b5] := K10.wr W15 (Or.inl (List.mem_of_getElem? (i := 3) rfl))
  show OEnds p e below s _ _ _ (T15.setTop (mkF m 182 #[.val (.ref a), .val (.int (0 : Int32)), .val (.int (1 : Int32)), .unset, .unset] []))
  refine own_by (fun _ k => XS.aloadN X15.here hx rfl (hb hby d6_182) rfl rfl k) ?_
  show OEnds p e below s _ _ _ (T15.setTop (mkF m 183 #[.val (.ref a), .val (.int (0 : Int32)), .val (.int (1 : Int32)), .unset, .unset] [(.ref a)]))
  have O18 : Obj Z h15 a "com/example/graphweft/graphweft/RangeMaxTree" sch_rt [(.ref b1), (.ref b2), (.ref b3), (.ref b4), (.ref b5), (.ref b6), (.ref b7), (.int (2 : Int32)), (.int (0 : Int32)), (.int (0 : Int32)), (.int te), (.int ta), (.int se), (.int sa), (.int pn), (.long bd), (.int ss), (.int bs), (.int bc)] := (O12.other W15 (Nat.ne_of_lt (by omega)))
  obtain ⟨T17, X17, e17, st17⟩ := getF X15 hx hZ hown (host := "") (Or.inl (hw _ (List.mem_of_getElem? (i := 20) rfl))) Via.refl e15 (O18.fld 4 rfl rfl) (g := (mkF m 183 #[.val (.ref a), .val (.int (0 : Int32)), .val (.int (1 : Int32)), .unset, .unset] [(.ref a)])) rfl rfl (hb hby d6_183)
  refine own_by (st17) ?_
  show OEnds p e below s _ _ _ (T17.setTop (mkF m 186 #[.val (.ref a), .val (.int (0 : Int32)), .val (.int (1 : Int32)), .unset, .unset] [(.ref b5)]))
  refine own_by (fun _ k => XS.aloadN X17.here hx rfl (hb hby d6_186) rfl rfl k) ?_
  show OEnds p e below s _ _ _ (T17.setTop (mkF m 187 #[.val (.ref a), .val (.int (0 : Int32)), .val (.int (1 : Int32)), .unset, .unset] [(.ref a), (.ref b5)]))
  obtain ⟨T19, X19, e19, st19⟩ := getF X17 hx hZ hown (host := "") (Or.inl (hw _ (List.mem_of_getElem? (i := 35) rfl))) Via.refl e17 (O18.fld 9 rfl rfl) (g := (mkF m 187 #[.val (.ref a), .val (.int (0 : Int32)), .val (.int (1 : Int32)), .unset, .unset] [(.ref a), (.ref b5)])) rfl rfl (hb hby d6_187)
  refine own_by (st19) ?_
  show OEnds p e below s _ _ _ (T19.setTop (mkF m 190 #[.val (.ref a), .val (.int (0 : Int32)), .val (.int (1 : Int32)), .unset, .unset] [(.int (0 : Int32)), (.ref b5)]))
  refine own_by (fun _ k => XS.aloadN X19.here hx rfl (hb hby d6_190) rfl rfl k) ?_
  show OEnds p e below s _ _ _ (T19.setTop (mkF m 191 #[.val (.ref a), .val (.int (0 : Int32)), .val (.int (1 : Int32)), .unset, .unset] [(.ref a), (.int (0 : Int32)), (.ref b5)]))
  obtain ⟨T20, X20, e20, st20⟩ := getF X19 hx hZ hown (host := "") (Or.inl (hw _ (List.mem_of_getElem? (i := 33) rfl))) Via.refl e19 (O18.fld 8 rfl rfl) (g := (mkF m 191 #[.val (.ref a), .val (.int (0 : Int32)), .val (.int (1 : Int32)), .unset, .unset] [(.ref a), (.int (0 : Int32)), (.ref b5)])) rfl rfl (hb hby d6_191)
  refine own_by (st20) ?_
  show OEnds p e below s _ _ _ (T20.setTop (mkF m 194 #[.val (.ref a), .val (.int (0 : Int32)), .val (.int (1 : Int32)), .unset, .unset] [(.int (0 : Int32)), (.int (0 : Int32)), (.ref b5)]))
  have F22 : FA Z h15 b5 .int 16 (fun i => .int (g5 i)) := ((F_b5.other W10 (Ne.symm (Nat.ne_of_lt (by omega)))).other W15 (Ne.symm (Nat.ne_of_lt (by omega))))
  obtain ⟨T21, h21, X21, e21, W21, st21⟩ := own_iastore X20 hx hZ e20 F22 0 (by decide) (by decide) (g := (mkF m 194 #[.val (.ref a), .val (.int (0 : Int32)), .val (.int (1 : Int32)), .unset, .unset] [(.int (0 : Int32)), (.int (0 : Int32)), (.ref b5)])) rfl rfl (hb hby d6_194)
  refine own_by (st21) ?_
  have F21 : FA Z h21 b5 .int 16 (fun i => .int ((updI g5 0 (0 : Int32)) i)) := F22.setI W21
  have N21 := Fr.snoc X21 N15 g_b5
  have Z21 : n0 ≤ h21.size := Nat.le_trans Z15 (Keep.of_wr W21).1
  have K21 : Keep h0 h21 [a, b2, b3, b4, b5] := K15.wr W21 (Or.inl (List.mem_of_getElem? (i := 4) rfl))
  show OEnds p e below s _ _ _ (T21.setTop (mkF m 195 #[.val (.ref a), .val (.int (0 : Int32)), .val (.int (1 : Int32)), .unset, .unset] []))
  refine own_by (fun _ k => XS.aloadN X21.here hx rfl (hb hby d6_195) rfl rfl k) ?_
  show OEnds p e below s _ _ _ (T21.setTop (mkF m 196 #[.val (.ref a), .val (.int (0 : Int32)), .val (.int (1 : Int32)), .unset, .unset] [(.ref a)]))
  have O24 : Obj Z h21 a "com/example/graphweft/graphweft/RangeMaxTree" sch_rt [(.ref b1), (.ref b2), (.ref b3), (.ref b4), (.ref b5), (.ref b6), (.ref b7), (.int (2 : Int32)), (.int (0 : Int32)), (.int (0 : Int32)), (.int te), (.int ta), (.int se), (.int sa), (.int pn), (.long bd), (.int ss), (.int bs), (.int bc)] := (O18.other W21 (Nat.ne_of_lt (by omega)))
  obtain ⟨T23, X23, e23, st23⟩ := getF X21 hx hZ hown (host := "") (Or.inl (hw _ (List.mem_of_getElem? (i := 13) rfl))) Via.refl e21 (O24.fld 1 rfl rfl) (g := (mkF m 196 #[.val (.ref a), .val (.int (0 : Int32)), .val (.int (1 : Int32)), .unset, .unset] [(.ref a)])) rfl rfl (hb hby d6_196)
  refine own_by (st23) ?_
  show OEnds p e below s _ _ _ (T23.setTop (mkF m 199 #[.val (.ref a), .val (.int (0 : Int32)), .val (.int (1 : Int32)), .unset, .unset] [(.ref b2)]))
  refine own_by (fun _ k => XS.aloadN X23.here hx rfl (hb hby d6_199) rfl rfl k) ?_
  show OEnds p e below s _ _ _ (T23.setTop (mkF m 200 #[.val (.ref a), .val (.int (0 : Int32)), .val (.int (1 : Int32)), .unset, .unset] [(.ref a), (.ref b2)]))
  obtain ⟨T25, X25, e25, st25⟩ := getF X23 hx hZ hown (host := "") (Or.inl (hw _ (List.mem_of_getElem? (i := 33) rfl))) Via.refl e23 (O24.fld 8 rfl rfl) (g := (mkF m 200 #[.val (.ref a), .val (.int (0 : Int32)), .val (.int (1 : Int32)), .unset, .unset] [(.ref a), (.ref b2)])) rfl rfl (hb hby d6_200)
  refine own_by (st25) ?_
  show OEnds p e below s _ _ _ (T25.setTop (mkF m 203 #[.val (.ref a), .val (.int (0 : Int32)), .val (.int (1 : Int32)), .unset, .unset] [(.int (0 : Int32)), (.ref b2)]))
  refine own_by (fun _ k => XS.iloadN X25.here hx rfl (hb hby d6_203) rfl k) ?_
  show OEnds p e below s _ _ _ (T25.setTop (mkF m 204 #[.val (.ref a), .val (.int (0 : Int32)), .val (.int (1 : Int32)), .unset, .unset] [(.int (1 : Int32)), (.int (0 : Int32)), (.ref b2)]))
  refine own_by (fun _ k => XS.iadd X25.here hx rfl (hb hby d6_204) rfl k) ?_
  show OEnds p e below s _ _ _ (T25.setTop (mkF m 205 #[.val (.ref a), .val (.int (0 : Int32)), .val (.int (1 : Int32)), .unset, .unset] [(.int (1 : Int32)), (.ref b2)]))
  refine own_by (fun _ k => XS.aloadN X25.here hx rfl (hb hby d6_205) rfl rfl k) ?_
  show OEnds p e below s _ _ _ (T25.setTop (mkF m 206 #[.val (.ref a), .val (.int (0 : Int32)), .val (.int (1 : Int32)), .unset, .unset] [(.ref a), (.int (1 : Int32)), (.ref b2)]))
  obtain ⟨T26, X26, e26, st26⟩ := getF X25 hx hZ hown (host := "") (Or.inl (hw _ (List.mem_of_getElem? (i := 33) rfl))) Via.refl e25 (O24.fld 8 rfl rfl) (g := (mkF m 206 #[.val (.ref a), .val (.int (0 : Int32)), .val (.int (1 : Int32)), .unset, .unset] [(.ref a), (.int (1 : Int32)), (.ref b2)])) rfl rfl (hb hby d6_206)
  refine own_by (st26) ?_
  show OEnds p e below s _ _ _ (T26.setTop (mkF m 209 #[.val (.ref a), .val (.int (0 : Int32)), .val (.int (1 : Int32)), .unset, .unset] [(.int (0 : Int32)), (.int (1 : Int32)), (.ref b2)]))
  refine own_by (fun _ k => XS.iconst X26.here hx rfl (hb hby d6_209) k) ?_
  show OEnds p e below s _ _ _ (T26.setTop (mkF m 210 #[.val (.ref a), .val (.int (0 : Int32)), .val (.int (1 : Int32)), .unset, .unset] [(.int (2 : Int32)), (.int (0 : Int32)), (.int (1 : Int32)), (.ref b2)]))
  refine own_by (fun _ k => XS.iloadN X26.here hx rfl (hb hby d6_210) rfl k) ?_
  show OEnds p e below s _ _ _ (T26.setTop (mkF m 211 #[.val (.ref a), .val (.int (0 : Int32)), .val (.int (1 : Int32)), .unset, .unset] [(.int (1 : Int32)), (.int (2 : Int32)), (.int (0 : Int32)), (.int (1 : Int32)), (.ref b2)]))
  refine own_by (fun _ k => XS.imul X26.here hx rfl (hb hby d6_211) rfl k) ?_
  show OEnds p e below s _ _ _ (T26.setTop (mkF m 212 #[.val (.ref a), .val (.int (0 : Int32)), .val (.int (1 : Int32)), .unset, .unset] [(.int (2 : Int32)), (.int (0 : Int32)), (.int (1 : Int32)), (.ref b2)]))
  refine own_by (fun _ k => XS.iadd X26.here hx rfl (hb hby d6_212) rfl k) ?_
  show OEnds p e below s _ _ _ (T26.setTop (mkF m 213 #[.val (.ref a), .val (.int (0 : Int32)), .val (.int (1 : Int32)), .unset, .unset] [(.int (2 : Int32)), (.int (1 : Int32)), (.ref b2)]))
  refine own_by (X26.ldc2Long hx hown (mvT hZ (hw _ (List.mem_of_getElem? (i := 62) rfl))) (g := (mkF m 213 #[.val (.ref a), .val (.int (0 : Int32)), .val (.int (1 : Int32)), .unset, .unset] [(.int (2 : Int32)), (.int (1 : Int32)), (.ref b2)])) rfl (hb hby d6_213)) ?_
  show OEnds p e below s _ _ _ (T26.setTop (mkF m 216 #[.val (.ref a), .val (.int (0 : Int32)), .val (.int (1 : Int32)), .unset, .unset] [(.long (-9223372036854775808 : Int64)), (.int (2 : Int32)), (.int (1 : Int32)), (.ref b2)]))
  have F28 : FA Z h21 b2 .long 64 (fun i => .long (g2 i)) := (((F_b2.other W10 (Nat.ne_of_lt (by omega))).other W15 (Nat.ne_of_lt (by omega))).other W21 (Nat.ne_of_lt (by omega)))
  obtain ⟨v27, T27, L27, h27, X27, e27, hQ27, st27⟩ := own_callS X26 hx hZ (y := (⟨"java/util/Arrays", "fill", "([JIIJ)V"⟩ : MethodName)) hown (hw _ (List.mem_of_getElem? (i := 63) rfl)) (hw _ (List.mem_of_getElem? (i := 64) rfl)) (hw _ (List.mem_of_getElem? (i := 65) rfl)) (hw _ (List.mem_of_getElem? (i := 66) rfl)) (by decide) (rm_fill_1_2 l Z a0 hw [] b2 (-9223372036854775808 : Int64) g2 h21 n0 Z21 F28 g_b2) e26 (g := (mkF m 216 #[.val (.ref a), .val (.int (0 : Int32)), .val (.int (1 : Int32)), .unset, .unset] [(.long (-9223372036854775808 : Int64)), (.int (2 : Int32)), (.int (1 : Int32)), (.ref b2)])) rfl (by rw [hml]; rfl) (argsL := [(.ref b2), (.int (1 : Int32)), (.int (2 : Int32)), (.long (-9223372036854775808 : Int64))]) (rest := []) (lenOf pd_paJIIJrV rfl) rfl (W := 0) (by show 2 * 0 + _ ≤ _; exact Nat.le_of_eq rfl) (hb hby d6_216) (by decide) (by decide) (by decide) (by decide)
  obtain ⟨rfl, Nq27, Kq27, F27_b2⟩ := hQ27
  have N27 := Fr.app N21 Nq27
  have K27 : Keep h0 h27 [a, b2, b3, b4, b5] := K21.trans Kq27 (allS (Or.inl (List.mem_of_getElem? (i := 1) rfl)) all0)
  have Z27 : n0 ≤ h27.size := Nat.le_trans Z21 Kq27.1
  refine own_tr st27 ?_
  show OEnds p e below s _ _ _ (T27.setTop (mkF m 219 #[.val (.ref a), .val (.int (0 : Int32)), .val (.int (1 : Int32)), .unset, .unset] []))
  refine own_by (fun _ k => XS.iloadN X27.here hx rfl (hb hby d6_219) rfl k) ?_
  show OEnds p e below s _ _ _ (T27.setTop (mkF m 220 #[.val (.ref a), .val (.int (0 : Int32)), .val (.int (1 : Int32)), .unset, .unset] [(.int (0 : Int32))]))
  refine own_by (fun _ k => XS.istoreN X27.here hx rfl (hb hby d6_220) rfl (l' := #[.val (.ref a), .val (.int (0 : Int32)), .val (.int (1 : Int32)), .val (.int (0 : Int32)), .unset]) rfl k) ?_
  show OEnds p e below s _ _ _ (T27.setTop (mkF m 221 #[.val (.ref a), .val (.int (0 : Int32)), .val (.int (1 : Int32)), .val (.int (0 : Int32)), .unset] []))
  refine own_by (fun _ k => XS.iloadN X27.here hx rfl (hb hby d6_221) rfl k) ?_
  show OEnds p e below s _ _ _ (T27.setTop (mkF m 222 #[.val (.ref a), .val (.int (0 : Int32)), .val (.int (1 : Int32)), .val (.int (0 : Int32)), .unset] [(.int (0 : Int32))]))
  refine own_by (fun _ k => XS.aloadN X27.here hx rfl (hb hby d6_222) rfl rfl k) ?_
  show OEnds p e below s _ _ _ (T27.setTop (mkF m 223 #[.val (.ref a), .val (.int (0 : Int32)), .val (.int (1 : Int32)), .val (.int (0 : Int32)), .unset] [(.ref a), (.int (0 : Int32))]))
  have O30 : Obj Z h27 a "com/example/graphweft/graphweft/RangeMaxTree" sch_rt [(.ref b1), (.ref b2), (.ref b3), (.ref b4), (.ref b5), (.ref b6), (.ref b7), (.int (2 : Int32)), (.int (0 : Int32)), (.int (0 : Int32)), (.int te), (.int ta), (.int se), (.int sa), (.int pn), (.long bd), (.int ss), (.int bs), (.int bc)] := (O24.keep Kq27 (ninS (Nat.ne_of_lt (by omega)) nin0))
  obtain ⟨T29, X29, e29, st29⟩ := getF X27 hx hZ hown (host := "") (Or.inl (hw _ (List.mem_of_getElem? (i := 31) rfl))) Via.refl e27 (O30.fld 7 rfl rfl) (g := (mkF m 223 #[.val (.ref a), .val (.int (0 : Int32)), .val (.int (1 : Int32)), .val (.int (0 : Int32)), .unset] [(.ref a), (.int (0 : Int32))])) rfl rfl (hb hby d6_223)
  refine own_by (st29) ?_
  show OEnds p e below s _ _ _ (T29.setTop (mkF m 226 #[.val (.ref a), .val (.int (0 : Int32)), .val (.int (1 : Int32)), .val (.int (0 : Int32)), .unset] [(.int (2 : Int32)), (.int (0 : Int32))]))
  refine own_by (fun _ k => XS.icmpNo X29.here hx rfl (hb hby d6_226) rfl (tlt (by decide : (0 : Int32) < (2 : Int32))).2.1 k) ?_
  show OEnds p e below s _ _ _ (T29.setTop (mkF m 229 #[.val (.ref a), .val (.int (0 : Int32)), .val (.int (1 : Int32)), .val (.int (0 : Int32)), .unset] []))
  refine own_by (fun _ k => XS.aloadN X29.here hx rfl (hb hby d6_229) rfl rfl k) ?_
  show OEnds p e below s _ _ _ (T29.setTop (mkF m 230 #[.val (.ref a), .val (.int (0 : Int32)), .val (.int (1 : Int32)), .val (.int (0 : Int32)), .unset] [(.ref a)]))
  obtain ⟨T31, X31, e31, st31⟩ := getF X29 hx hZ hown (host := "") (Or.inl (hw _ (List.mem_of_getElem? (i := 33) rfl))) Via.refl e29 (O30.fld 8 rfl rfl) (g := (mkF m 230 #[.val (.ref a), .val (.int (0 : Int32)), .val (.int (1 : Int32)), .val (.int (0 : Int32)), .unset] [(.ref a)])) rfl rfl (hb hby d6_230)
  refine own_by (st31) ?_
  show OEnds p e below s _ _ _ (T31.setTop (mkF m 233 #[.val (.ref a), .val (.int (0 : Int32)), .val (.int (1 : Int32)), .val (.int (0 : Int32)), .unset] [(.int (0 : Int32))]))
  refine own_by (fun _ k => XS.iloadN X31.here hx rfl (hb hby d6_233) rfl k) ?_
  show OEnds p e below s _ _ _ (T31.setTop (mkF m 234 #[.val (.ref a), .val (.int (0 : Int32)), .val (.int (1 : Int32)), .val (.int (0 : Int32)), .unset] [(.int (1 : Int32)), (.int (0 : Int32))]))
  refine own_by (fun _ k => XS.iadd X31.here hx rfl (hb hby d6_234) rfl k) ?_
  show OEnds p e below s _ _ _ (T31.setTop (mkF m 235 #[.val (.ref a), .val (.int (0 : Int32)), .val (.int (1 : Int32)), .val (.int (0 : Int32)), .unset] [(.int (1 : Int32))]))
  refine own_by (fun _ k => XS.iloadN X31.here hx rfl (hb hby d6_235) rfl k) ?_
  show OEnds p e below s _ _ _ (T31.setTop (mkF m 236 #[.val (.ref a), .val (.int (0 : Int32)), .val (.int (1 : Int32)), .val (.int (0 : Int32)), .unset] [(.int (0 : Int32)), (.int (1 : Int32))]))
  refine own_by (fun _ k => XS.iloadN X31.here hx rfl (hb hby d6_236) rfl k) ?_
  show OEnds p e below s _ _ _ (T31.setTop (mkF m 237 #[.val (.ref a), .val (.int (0 : Int32)), .val (.int (1 : Int32)), .val (.int (0 : Int32)), .unset] [(.int (0 : Int32)), (.int (0 : Int32)), (.int (1 : Int32))]))
  refine own_by (fun _ k => XS.isub X31.here hx rfl (hb hby d6_237) rfl k) ?_
  show OEnds p e below s _ _ _ (T31.setTop (mkF m 238 #[.val (.ref a), .val (.int (0 : Int32)), .val (.int (1 : Int32)), .val (.int (0 : Int32)), .unset] [(.int (0 : Int32)), (.int (1 : Int32))]))
  refine own_by (fun _ k => XS.bipush X31.here hx rfl (hb hby d6_238) k) ?_
  show OEnds p e below s _ _ _ (T31.setTop (mkF m 240 #[.val (.ref a), .val (.int (0 : Int32)), .val (.int (1 : Int32)), .val (.int (0 : Int32)), .unset] [(.int (8 : Int32)), (.int (0 : Int32)), (.int (1 : Int32))]))
  refine own_by (fun _ k => XS.idiv X31.here hx rfl (hb hby d6_240) rfl (by decide) k) ?_
  show OEnds p e below s _ _ _ (T31.setTop (mkF m 241 #[.val (.ref a), .val (.int (0 : Int32)), .val (.int (1 : Int32)), .val (.int (0 : Int32)), .unset] [(.int (0 : Int32)), (.int (1 : Int32))]))
  refine own_by (fun _ k => XS.iadd X31.here hx rfl (hb hby d6_241) rfl k) ?_
  show OEnds p e below s _ _ _ (T31.setTop (mkF m 242 #[.val (.ref a), .val (.int (0 : Int32)), .val (.int (1 : Int32)), .val (.int (0 : Int32)), .unset] [(.int (1 : Int32))]))
  refine own_by (fun _ k => XS.istore X31.here hx rfl (hb hby d6_242) rfl (l' := #[.val (.ref a), .val (.int (0 : Int32)), .val (.int (1 : Int32)), .val (.int (0 : Int32)), .val (.int (1 : Int32))]) rfl k) ?_
  show OEnds p e below s _ _ _ (T31.setTop (mkF m 244 #[.val (.ref a), .val (.int (0 : Int32)), .val (.int (1 : Int32)), .val (.int (0 : Int32)), .val (.int (1 : Int32))] []))
  refine own_by (fun _ k => XS.aloadN X31.here hx rfl (hb hby d6_244) rfl rfl k) ?_
  show OEnds p e below s _ _ _ (T31.setTop (mkF m 245 #[.val (.ref a), .val (.int (0 : Int32)), .val (.int (1 : Int32)), .val (.int (0 : Int32)), .val (.int (1 : Int32))] [(.ref a)]))
  obtain ⟨T32, X32, e32, st32⟩ := getF X31 hx hZ hown (host := "") (Or.inl (hw _ (List.mem_of_getElem? (i := 13) rfl))) Via.refl e31 (O30.fld 1 rfl rfl) (g := (mkF m 245 #[.val (.ref a), .val (.int (0 : Int32)), .val (.int (1 : Int32)), .val (.int (0 : Int32)), .val (.int (1 : Int32))] [(.ref a)])) rfl rfl (hb hby d6_245)
  refine own_by (st32) ?_
  show OEnds p e below s _ _ _ (T32.setTop (mkF m 248 #[.val (.ref a), .val (.int (0 : Int32)), .val (.int (1 : Int32)), .val (.int (0 : Int32)), .val (.int (1 : Int32))] [(.ref b2)]))
  refine own_by (fun _ k => XS.iload X32.here hx rfl (hb hby d6_248) rfl k) ?_
  show OEnds p e below s _ _ _ (T32.setTop (mkF m 250 #[.val (.ref a), .val (.int (0 : Int32)), .val (.int (1 : Int32)), .val (.int (0 : Int32)), .val (.int (1 : Int32))] [(.int (1 : Int32)), (.ref b2)]))
  refine own_by (fun _ k => XS.aloadN X32.here hx rfl (hb hby d6_250) rfl rfl k) ?_
  show OEnds p e below s _ _ _ (T32.setTop (mkF m 251 #[.val (.ref a), .val (.int (0 : Int32)), .val (.int (1 : Int32)), .val (.int (0 : Int32)), .val (.int (1 : Int32))] [(.ref a), (.int (1 : Int32)), (.ref b2)]))
  obtain ⟨T33, X33, e33, st33⟩ := getF X32 hx hZ hown (host := "") (Or.inl (hw _ (List.mem_of_getElem? (i := 13) rfl))) Via.refl e32 (O30.fld 1 rfl rfl) (g := (mkF m 251 #[.val (.ref a), .val (.int (0 : Int32)), .val (.int (1 : Int32)), .val (.int (0 : Int32)), .val (.int (1 : Int32))] [(.ref a), (.int (1 : Int32)), (.ref b2)])) rfl rfl (hb hby d6_251)
  refine own_by (st33) ?_
  show OEnds p e below s _ _ _ (T33.setTop (mkF m 254 #[.val (.ref a), .val (.int (0 : Int32)), .val (.int (1 : Int32)), .val (.int (0 : Int32)), .val (.int (1 : Int32))] [(.ref b2), (.int (1 : Int32)), (.ref b2)]))
  refine own_by (fun _ k => XS.iload X33.here hx rfl (hb hby d6_254) rfl k) ?_
  show OEnds p e below s _ _ _ (T33.setTop (mkF m 256 #[.val (.ref a), .val (.int (0 : Int32)), .val (.int (1 : Int32)), .val (.int (0 : Int32)), .val (.int (1 : Int32))] [(.int (1 : Int32)), (.ref b2), (.int (1 : Int32)), (.ref b2)]))
  refine own_by (own_laload X33 hx hZ e33 F27_b2 1 (by decide) (by decide) rfl (g := (mkF m 256 #[.val (.ref a), .val (.int (0 : Int32)), .val (.int (1 : Int32)), .val (.int (0 : Int32)), .val (.int (1 : Int32))] [(.int (1 : Int32)), (.ref b2), (.int (1 : Int32)), (.ref b2)])) rfl rfl (hb hby d6_256)) ?_
  show OEnds p e below s _ _ _ (T33.setTop (mkF m 257 #[.val (.ref a), .val (.int (0 : Int32)), .val (.int (1 : Int32)), .val (.int (0 : Int32)), .val (.int (1 : Int32))] [(.long ((updL g2 1 (-9223372036854775808 : Int64)) 1)), (.int (1 : Int32)), (.ref b2)]))
  refine own_by (fun _ k => XS.aloadN X33.here hx rfl (hb hby d6_257) rfl rfl k) ?_
  show OEnds p e below s _ _ _ (T33.setTop (mkF m 258 #[.val (.ref a), .val (.int (0 : Int32)), .val (.int (1 : Int32)), .val (.int (0 : Int32)), .val (.int (1 : Int32))] [(.ref a), (.long ((updL g2 1 (-9223372036854775808 : Int64)) 1)), (.int (1 : Int32)), (.ref b2)]))
  obtain ⟨T34, X34, e34, st34⟩ := getF X33 hx hZ hown (host := "") (Or.inl (hw _ (List.mem_of_getElem? (i := 11) rfl))) Via.refl e33 (O30.fld 0 rfl rfl) (g := (mkF m 258 #[.val (.ref a), .val (.int (0 : Int32)), .val (.int (1 : Int32)), .val (.int (0 : Int32)), .val (.int (1 : Int32))] [(.ref a), (.long ((updL g2 1 (-9223372036854775808 : Int64)) 1)), (.int (1 : Int32)), (.ref b2)])) rfl rfl (hb hby d6_258)
  refine own_by (st34) ?_
  show OEnds p e below s _ _ _ (T34.setTop (mkF m 261 #[.val (.ref a), .val (.int (0 : Int32)), .val (.int (1 : Int32)), .val (.int (0 : Int32)), .val (.int (1 : Int32))] [(.ref b1), (.long ((updL g2 1 (-9223372036854775808 : Int64)) 1)), (.int (1 : Int32)), (.ref b2)]))
  refine own_by (fun _ k => XS.iloadN X34.here hx rfl (hb hby d6_261) rfl k) ?_
  show OEnds p e below s _ _ _ (T34.setTop (mkF m 262 #[.val (.ref a), .val (.int (0 : Int32)), .val (.int (1 : Int32)), .val (.int (0 : Int32)), .val (.int (1 : Int32))] [(.int (0 : Int32)), (.ref b1), (.long ((updL g2 1 (-9223372036854775808 : Int64)) 1)), (.int (1 : Int32)), (.ref b2)]))
  have F35 : FA Z h27 b1 .long 64 (fun i => .long (g1 i)) := ((((F_b1.other W10 (Nat.ne_of_lt (by omega))).other W15 (Nat.ne_of_lt (by omega))).other W21 (Nat.ne_of_lt (by omega))).keep Kq27 (ninS (Nat.ne_of_lt (by omega)) nin0))
  refine own_by (own_laload X34 hx hZ e34 F35 0 (by decide) (by decide) rfl (g := (mkF m 262 #[.val (.ref a), .val (.int (0 : Int32)), .val (.int (1 : Int32)), .val (.int (0 : Int32)), .val (.int (1 : Int32))] [(.int (0 : Int32)), (.ref b1), (.long ((updL g2 1 (-9223372036854775808 : Int64)) 1)), (.int (1 : Int32)), (.ref b2)])) rfl rfl (hb hby d6_262)) ?_
  show OEnds p e below s _ _ _ (T34.setTop (mkF m 263 #[.val (.ref a), .val (.int (0 : Int32)), .val (.int (1 : Int32)), .val (.int (0 : Int32)), .val (.int (1 : Int32))] [(.long (g1 0)), (.long ((updL g2 1 (-9223372036854775808 : Int64)) 1)), (.int (1 : Int32)), (.ref b2)]))
  obtain ⟨T36, X36, e36, st36⟩ := own_callP X34 hx hZ (y := (⟨"java/lang/Math", "max", "(JJ)J"⟩ : MethodName)) hown (hw _ (List.mem_of_getElem? (i := 75) rfl)) (hw _ (List.mem_of_getElem? (i := 76) rfl)) (hw _ (List.mem_of_getElem? (i := 77) rfl)) (hw _ (List.mem_of_getElem? (i := 78) rfl)) (by decide) (rm_jmax l Z a0 hw [] ((updL g2 1 (-9223372036854775808 : Int64)) 1) (g1 0) h27) e34 (g := (mkF m 263 #[.val (.ref a), .val (.int (0 : Int32)), .val (.int (1 : Int32)), .val (.int (0 : Int32)), .val (.int (1 : Int32))] [(.long (g1 0)), (.long ((updL g2 1 (-9223372036854775808 : Int64)) 1)), (.int (1 : Int32)), (.ref b2)])) rfl (by rw [hml]; rfl) (argsL := [(.long ((updL g2 1 (-9223372036854775808 : Int64)) 1)), (.long (g1 0))]) (rest := [(.int (1 : Int32)), (.ref b2)]) (lenOf pd_pJJrJ rfl) rfl (W := 2) (by show 2 * 0 + _ ≤ _; exact Nat.le_of_eq rfl) (hb hby d6_263) (by decide) (by decide) (by decide) (by decide)
  refine own_by (st36) ?_
  show OEnds p e below s _ _ _ (T36.setTop (mkF m 266 #[.val (.ref a), .val (.int (0 : Int32)), .val (.int (1 : Int32)), .val (.int (0 : Int32)), .val (.int (1 : Int32))] [(.long (jmax ((updL g2 1 (-9223372036854775808 : Int64)) 1) (g1 0))), (.int (1 : Int32)), (.ref b2)]))
  obtain ⟨T37, h37, X37, e37, W37, st37⟩ := own_lastore X36 hx hZ e36 F27_b2 1 (by decide) (by decide) (g := (mkF m 266 #[.val (.ref a), .val (.int (0 : Int32)), .val (.int (1 : Int32)), .val (.int (0 : Int32)), .val (.int (1 : Int32))] [(.long (jmax ((updL g2 1 (-9223372036854775808 : Int64)) 1) (g1 0))), (.int (1 : Int32)), (.ref b2)])) rfl rfl (hb hby d6_266)
  refine own_by (st37) ?_
  have F37 : FA Z h37 b2 .long 64 (fun i => .long ((updL (updL g2 1 (-9223372036854775808 : Int64)) 1 (jmax ((updL g2 1 (-9223372036854775808 : Int64)) 1) (g1 0))) i)) := F27_b2.setL W37
  obtain ⟨f37, ef37⟩ : ∃ f : Nat → Int64, f = (updL (updL g2 1 (-9223372036854775808 : Int64)) 1 (jmax ((updL g2 1 (-9223372036854775808 : Int64)) 1) (g1 0))) := ⟨_, rfl⟩
  rw [← ef37] at F37
  have N37 := Fr.snoc X37 N27 g_b2
  have Z37 : n0 ≤ h37.size := Nat.le_trans Z27 (Keep.of_wr W37).1
  have K37 : Keep h0 h37 [a, b2, b3, b4, b5] := K27.wr W37 (Or.inl (List.mem_of_getElem? (i := 1) rfl))
  show OEnds p e below s _ _ _ (T37.setTop (mkF m 267 #[.val (.ref a), .val (.int (0 : Int32)), .val (.int (1 : Int32)), .val (.int (0 : Int32)), .val (.int (1 : Int32))] []))
  refine own_by (fun _ k => XS.iinc X37.here hx rfl (hb hby d6_267) rfl (l' := #[.val (.ref a), .val (.int (0 : Int32)), .val (.int (1 : Int32)), .val (.int (1 : Int32)), .val (.int (1 : Int32))]) rfl k) ?_
  show OEnds p e below s _ _ _ (T37.setTop (mkF m 270 #[.val (.ref a), .val (.int (0 : Int32)), .val (.int (1 : Int32)), .val (.int (1 : Int32)), .val (.int (1 : Int32))] []))
  refine own_by (fun _ k => XS.goto X37.here hx rfl (pc0 := 270) (pc' := 221) rfl (hb hby d6_270) (by decide) (by decide) k) ?_
  show OEnds p e below s _ _ _ (T37.setTop (mkF m 221 #[.val (.ref a), .val (.int (0 : Int32)), .val (.int (1 : Int32)), .val (.int (1 : Int32)), .val (.int (1 : Int32))] []))
  refine own_by (fun _ k => XS.iloadN X37.here hx rfl (hb hby d6_221) rfl k) ?_
  show OEnds p e below s _ _ _ (T37.setTop (mkF m 222 #[.val (.ref a), .val (.int (0 : Int32)), .val (.int (1 : Int32)), .val (.int (1 : Int32)), .val (.int (1 : Int32))] [(.int (1 : Int32))]))
  refine own_by (fun _ k => XS.aloadN X37.here hx rfl (hb hby d6_222) rfl rfl k) ?_
  show OEnds p e below s _ _ _ (T37.setTop (mkF m 223 #[.val (.ref a), .val (.int (0 : Int32)), .val (.int (1 : Int32)), .val (.int (1 : Int32)), .val (.int (1 : Int32))] [(.ref a), (.int (1 : Int32))]))
  have O39 : Obj Z h37 a "com/example/graphweft/graphweft/RangeMaxTree" sch_rt [(.ref b1), (.ref b2), (.ref b3), (.ref b4), (.ref b5), (.ref b6), (.ref b7), (.int (2 : Int32)), (.int (0 : Int32)), (.int (0 : Int32)), (.int te), (.int ta), (.int se), (.int sa), (.int pn), (.long bd), (.int ss), (.int bs), (.int bc)] := (O30.other W37 (Nat.ne_of_lt (by omega)))
  obtain ⟨T38, X38, e38, st38⟩ := getF X37 hx hZ hown (host := "") (Or.inl (hw _ (List.mem_of_getElem? (i := 31) rfl))) Via.refl e37 (O39.fld 7 rfl rfl) (g := (mkF m 223 #[.val (.ref a), .val (.int (0 : Int32)), .val (.int (1 : Int32)), .val (.int (1 : Int32)), .val (.int (1 : Int32))] [(.ref a), (.int (1 : Int32))])) rfl rfl (hb hby d6_223)
  refine own_by (st38) ?_
  show OEnds p e below s _ _ _ (T38.setTop (mkF m 226 #[.val (.ref a), .val (.int (0 : Int32)), .val (.int (1 : Int32)), .val (.int (1 : Int32)), .val (.int (1 : Int32))] [(.int (2 : Int32)), (.int (1 : Int32))]))
  refine own_by (fun _ k => XS.icmpNo X38.here hx rfl (hb hby d6_226) rfl (tlt (by decide : (1 : Int32) < (2 : Int32))).2.1 k) ?_
  show OEnds p e below s _ _ _ (T38.setTop (mkF m 229 #[.val (.ref a), .val (.int (0 : Int32)), .val (.int (1 : Int32)), .val (.int (1 : Int32)), .val (.int (1 : Int32))] []))
  refine own_by (fun _ k => XS.aloadN X38.here hx rfl (hb hby d6_229) rfl rfl k) ?_
  show OEnds p e below s _ _ _ (T38.setTop (mkF m 230 #[.val (.ref a), .val (.int (0 : Int32)), .val (.int (1 : Int32)), .val (.int (1 : Int32)), .val (.int (1 : Int32))] [(.ref a)]))
  obtain ⟨T40, X40, e40, st40⟩ := getF X38 hx hZ hown (host := "") (Or.inl (hw _ (List.mem_of_getElem? (i := 33) rfl))) Via.refl e38 (O39.fld 8 rfl rfl) (g := (mkF m 230 #[.val (.ref a), .val (.int (0 : Int32)), .val (.int (1 : Int32)), .val (.int (1 : Int32)), .val (.int (1 : Int32))] [(.ref a)])) rfl rfl (hb hby d6_230)
  refine own_by (st40) ?_
  show OEnds p e below s _ _ _ (T40.setTop (mkF m 233 #[.val (.ref a), .val (.int (0 : Int32)), .val (.int (1 : Int32)), .val (.int (1 : Int32)), .val (.int (1 : Int32))] [(.int (0 : Int32))]))
  refine own_by (fun _ k => XS.iloadN X40.here hx rfl (hb hby d6_233) rfl k) ?_
  show OEnds p e below s _ _ _ (T40.setTop (mkF m 234 #[.val (.ref a), .val (.int (0 : Int32)), .val (.int (1 : Int32)), .val (.int (1 : Int32)), .val (.int (1 : Int32))] [(.int (1 : Int32)), (.int (0 : Int32))]))
  refine own_by (fun _ k => XS.iadd X40.here hx rfl (hb hby d6_234) rfl k) ?_
  show OEnds p e below s _ _ _ (T40.setTop (mkF m 235 #[.val (.ref a), .val (.int (0 : Int32)), .val (.int (1 : Int32)), .val (.int (1 : Int32)), .val (.int (1 : Int32))] [(.int (1 : Int32))]))
  refine own_by (fun _ k => XS.iloadN X40.here hx rfl (hb hby d6_235) rfl k) ?_
  show OEnds p e below s _ _ _ (T40.setTop (mkF m 236 #[.val (.ref a), .val (.int (0 : Int32)), .val (.int (1 : Int32)), .val (.int (1 : Int32)), .val (.int (1 : Int32))] [(.int (1 : Int32)), (.int (1 : Int32))]))
  refine own_by (fun _ k => XS.iloadN X40.here hx rfl (hb hby d6_236) rfl k) ?_
  show OEnds p e below s _ _ _ (T40.setTop (mkF m 237 #[.val (.ref a), .val (.int (0 : Int32)), .val (.int (1 : Int32)), .val (.int (1 : Int32)), .val (.int (1 : Int32))] [(.int (0 : Int32)), (.int (1 : Int32)), (.int (1 : Int32))]))
  refine own_by (fun _ k => XS.isub X40.here hx rfl (hb hby d6_237) rfl k) ?_
  show OEnds p e below s _ _ _ (T40.setTop (mkF m 238 #[.val (.ref a), .val (.int (0 : Int32)), .val (.int (1 : Int32)), .val (.int (1 : Int32)), .val (.int (1 : Int32))] [(.int (1 : Int32)), (.int (1 : Int32))]))
  refine own_by (fun _ k => XS.bipush X40.here hx rfl (hb hby d6_238) k) ?_
  show OEnds p e below s _ _ _ (T40.setTop (mkF m 240 #[.val (.ref a), .val (.int (0 : Int32)), .val (.int (1 : Int32)), .val (.int (1 : Int32)), .val (.int (1 : Int32))] [(.int (8 : Int32)), (.int (1 : Int32)), (.int (1 : Int32))]))
  refine own_by (fun _ k => XS.idiv X40.here hx rfl (hb hby d6_240) rfl (by decide) k) ?_
  show OEnds p e below s _ _ _ (T40.setTop (mkF m 241 #[.val (.ref a), .val (.int (0 : Int32)), .val (.int (1 : Int32)), .val (.int (1 : Int32)), .val (.int (1 : Int32))] [(.int (0 : Int32)), (.int (1 : Int32))]))
  refine own_by (fun _ k => XS.iadd X40.here hx rfl (hb hby d6_241) rfl k) ?_
  show OEnds p e below s _ _ _ (T40.setTop (mkF m 242 #[.val (.ref a), .val (.int (0 : Int32)), .val (.int (1 : Int32)), .val (.int (1 : Int32)), .val (.int (1 : Int32))] [(.int (1 : Int32))]))
  refine own_by (fun _ k => XS.istore X40.here hx rfl (hb hby d6_242) rfl (l' := #[.val (.ref a), .val (.int (0 : Int32)), .val (.int (1 : Int32)), .val (.int (1 : Int32)), .val (.int (1 : Int32))]) rfl k) ?_
  show OEnds p e below s _ _ _ (T40.setTop (mkF m 244 #[.val (.ref a), .val (.int (0 : Int32)), .val (.int (1 : Int32)), .val (.int (1 : Int32)), .val (.int (1 : Int32))] []))
  refine own_by (fun _ k => XS.aloadN X40.here hx rfl (hb hby d6_244) rfl rfl k) ?_
  show OEnds p e below s _ _ _ (T40.setTop (mkF m 245 #[.val (.ref a), .val (.int (0 : Int32)), .val (.int (1 : Int32)), .val (.int (1 : Int32)), .val (.int (1 : Int32))] [(.ref a)]))
  obtain ⟨T41, X41, e41, st41⟩ := getF X40 hx hZ hown (host := "") (Or.inl (hw _ (List.mem_of_getElem? (i := 13) rfl))) Via.refl e40 (O39.fld 1 rfl rfl) (g := (mkF m 245 #[.val (.ref a), .val (.int (0 : Int32)), .val (.int (1 : Int32)), .val (.int (1 : Int32)), .val (.int (1 : Int32))] [(.ref a)])) rfl rfl (hb hby d6_245)
  refine own_by (st41) ?_
  show OEnds p e below s _ _ _ (T41.setTop (mkF m 248 #[.val (.ref a), .val (.int (0 : Int32)), .val (.int (1 : Int32)), .val (.int (1 : Int32)), .val (.int (1 : Int32))] [(.ref b2)]))
  refine own_by (fun _ k => XS.iload X41.here hx rfl (hb hby d6_248) rfl k) ?_
  show OEnds p e below s _ _ _ (T41.setTop (mkF m 250 #[.val (.ref a), .val (.int (0 : Int32)), .val (.int (1 : Int32)), .val (.int (1 : Int32)), .val (.int (1 : Int32))] [(.int (1 : Int32)), (.ref b2)]))
  refine own_by (fun _ k => XS.aloadN X41.here hx rfl (hb hby d6_250) rfl rfl k) ?_
  show OEnds p e below s _ _ _ (T41.setTop (mkF m 251 #[.val (.ref a), .val (.int (0 : Int32)), .val (.int (1 : Int32)), .val (.int (1 : Int32)), .val (.int (1 : Int32))] [(.ref a), (.int (1 : Int32)), (.ref b2)]))
  obtain ⟨T42, X42, e42, st42⟩ := getF X41 hx hZ hown (host := "") (Or.inl (hw _ (List.mem_of_getElem? (i := 13) rfl))) Via.refl e41 (O39.fld 1 rfl rfl) (g := (mkF m 251 #[.val (.ref a), .val (.int (0 : Int32)), .val (.int (1 : Int32)), .val (.int (1 : Int32)), .val (.int (1 : Int32))] [(.ref a), (.int (1 : Int32)), (.ref b2)])) rfl rfl (hb hby d6_251)
  refine own_by (st42) ?_
  show OEnds p e below s _ _ _ (T42.setTop (mkF m 254 #[.val (.ref a), .val (.int (0 : Int32)), .val (.int (1 : Int32)), .val (.int (1 : Int32)), .val (.int (1 : Int32))] [(.ref b2), (.int (1 : Int32)), (.ref b2)]))
  refine own_by (fun _ k => XS.iload X42.here hx rfl (hb hby d6_254) rfl k) ?_
  show OEnds p e below s _ _ _ (T42.setTop (mkF m 256 #[.val (.ref a), .val (.int (0 : Int32)), .val (.int (1 : Int32)), .val (.int (1 : Int32)), .val (.int (1 : Int32))] [(.int (1 : Int32)), (.ref b2), (.int (1 : Int32)), (.ref b2)]))
  refine own_by (own_laload X42 hx hZ e42 F37 1 (by decide) (by decide) rfl (g := (mkF m 256 #[.val (.ref a), .val (.int (0 : Int32)), .val (.int (1 : Int32)), .val (.int (1 : Int32)), .val (.int (1 : Int32))] [(.int (1 : Int32)), (.ref b2), (.int (1 : Int32)), (.ref b2)])) rfl rfl (hb hby d6_256)) ?_
  show OEnds p e below s _ _ _ (T42.setTop (mkF m 257 #[.val (.ref a), .val (.int (0 : Int32)), .val (.int (1 : Int32)), .val (.int (1 : Int32)), .val (.int (1 : Int32))] [(.long (f37 1)), (.int (1 : Int32)), (.ref b2)]))
  refine own_by (fun _ k => XS.aloadN X42.here hx rfl (hb hby d6_257) rfl rfl k) ?_
  show OEnds p e below s _ _ _ (T42.setTop (mkF m 258 #[.val (.ref a), .val (.int (0 : Int32)), .val (.int (1 : Int32)), .val (.int (1 : Int32)), .val (.int (1 : Int32))] [(.ref a), (.long (f37 1)), (.int (1 : Int32)), (.ref b2)]))
  obtain ⟨T43, X43, e43, st43⟩ := getF X42 hx hZ hown (host := "") (Or.inl (hw _ (List.mem_of_getElem? (i := 11) rfl))) Via.refl e42 (O39.fld 0 rfl rfl) (g := (mkF m 258 #[.val (.ref a), .val (.int (0 : Int32)), .val (.int (1 : Int32)), .val (.int (1 : Int32)), .val (.int (1 : Int32))] [(.ref a), (.long (f37 1)), (.int (1 : Int32)), (.ref b2)])) rfl rfl (hb hby d6_258)
  refine own_by (st43) ?_
  show OEnds p e below s _ _ _ (T43.setTop (mkF m 261 #[.val (.ref a), .val (.int (0 : Int32)), .val (.int (1 : Int32)), .val (.int (1 : Int32)), .val (.int (1 : Int32))] [(.ref b1), (.long (f37 1)), (.int (1 : Int32)), (.ref b2)]))
  refine own_by (fun _ k => XS.iloadN X43.here hx rfl (hb hby d6_261) rfl k) ?_
  show OEnds p e below s _ _ _ (T43.setTop (mkF m 262 #[.val (.ref a), .val (.int (0 : Int32)), .val (.int (1 : Int32)), .val (.int (1 : Int32)), .val (.int (1 : Int32))] [(.int (1 : Int32)), (.ref b1), (.long (f37 1)), (.int (1 : Int32)), (.ref b2)]))
  have F44 : FA Z h37 b1 .long 64 (fun i => .long (g1 i)) := (F35.other W37 (Nat.ne_of_lt (by omega)))
  refine own_by (own_laload X43 hx hZ e43 F44 1 (by decide) (by decide) rfl (g := (mkF m 262 #[.val (.ref a), .val (.int (0 : Int32)), .val (.int (1 : Int32)), .val (.int (1 : Int32)), .val (.int (1 : Int32))] [(.int (1 : Int32)), (.ref b1), (.long (f37 1)), (.int (1 : Int32)), (.ref b2)])) rfl rfl (hb hby d6_262)) ?_
  show OEnds p e below s _ _ _ (T43.setTop (mkF m 263 #[.val (.ref a), .val (.int (0 : Int32)), .val (.int (1 : Int32)), .val (.int (1 : Int32)), .val (.int (1 : Int32))] [(.long (g1 1)), (.long (f37 1)), (.int (1 : Int32)), (.ref b2)]))
  obtain ⟨T45, X45, e45, st45⟩ := own_callP X43 hx hZ (y := (⟨"java/lang/Math", "max", "(JJ)J"⟩ : MethodName)) hown (hw _ (List.mem_of_getElem? (i := 75) rfl)) (hw _ (List.mem_of_getElem? (i := 76) rfl)) (hw _ (List.mem_of_getElem? (i := 77) rfl)) (hw _ (List.mem_of_getElem? (i := 78) rfl)) (by decide) (rm_jmax l Z a0 hw [] (f37 1) (g1 1) h37) e43 (g := (mkF m 263 #[.val (.ref a), .val (.int (0 : Int32)), .val (.int (1 : Int32)), .val (.int (1 : Int32)), .val (.int (1 : Int32))] [(.long (g1 1)), (.long (f37 1)), (.int (1 : Int32)), (.ref b2)])) rfl (by rw [hml]; rfl) (argsL := [(.long (f37 1)), (.long (g1 1))]) (rest := [(.int (1 : Int32)), (.ref b2)]) (lenOf pd_pJJrJ rfl) rfl (W := 2) (by show 2 * 0 + _ ≤ _; exact Nat.le_of_eq rfl) (hb hby d6_263) (by decide) (by decide) (by decide) (by decide)
  refine own_by (st45) ?_
  show OEnds p e below s _ _ _ (T45.setTop (mkF m 266 #[.val (.ref a), .val (.int (0 : Int32)), .val (.int (1 : Int32)), .val (.int (1 : Int32)), .val (.int (1 : Int32))] [(.long (jmax (f37 1) (g1 1))), (.int (1 : Int32)), (.ref b2)]))
  obtain ⟨T46, h46, X46, e46, W46, st46⟩ := own_lastore X45 hx hZ e45 F37 1 (by decide) (by decide) (g := (mkF m 266 #[.val (.ref a), .val (.int (0 : Int32)), .val (.int (1 : Int32)), .val (.int (1 : Int32)), .val (.int (1 : Int32))] [(.long (jmax (f37 1) (g1 1))), (.int (1 : Int32)), (.ref b2)])) rfl rfl (hb hby d6_266)
  refine own_by (st46) ?_
  have F46 : FA Z h46 b2 .long 64 (fun i => .long ((updL f37 1 (jmax (f37 1) (g1 1))) i)) := F37.setL W46
  have N46 := Fr.snoc X46 N37 g_b2
  have Z46 : n0 ≤ h46.size := Nat.le_trans Z37 (Keep.of_wr W46).1
  have K46 : Keep h0 h46 [a, b2, b3, b4, b5] := K37.wr W46 (Or.inl (List.mem_of_getElem? (i := 1) rfl))
  show OEnds p e below s _ _ _ (T46.setTop (mkF m 267 #[.val (.ref a), .val (.int (0 : Int32)), .val (.int (1 : Int32)), .val (.int (1 : Int32)), .val (.int (1 : Int32))] []))
  refine own_by (fun _ k => XS.iinc X46.here hx rfl (hb hby d6_267) rfl (l' := #[.val (.ref a), .val (.int (0 : Int32)), .val (.int (1 : Int32)), .val (.int (2 : Int32)), .val (.int (1 : Int32))]) rfl k) ?_
  show OEnds p e below s _ _ _ (T46.setTop (mkF m 270 #[.val (.ref a), .val (.int (0 : Int32)), .val (.int (1 : Int32)), .val (.int (2 : Int32)), .val (.int (1 : Int32))] []))
  refine own_by (fun _ k => XS.goto X46.here hx rfl (pc0 := 270) (pc' := 221) rfl (hb hby d6_270) (by decide) (by decide) k) ?_
  show OEnds p e below s _ _ _ (T46.setTop (mkF m 221 #[.val (.ref a), .val (.int (0 : Int32)), .val (.int (1 : Int32)), .val (.int (2 : Int32)), .val (.int (1 : Int32))] []))
  refine own_by (fun _ k => XS.iloadN X46.here hx rfl (hb hby d6_221) rfl k) ?_
  show OEnds p e below s _ _ _ (T46.setTop (mkF m 222 #[.val (.ref a), .val (.int (0 : Int32)), .val (.int (1 : Int32)), .val (.int (2 : Int32)), .val (.int (1 : Int32))] [(.int (2 : Int32))]))
  refine own_by (fun _ k => XS.aloadN X46.here hx rfl (hb hby d6_222) rfl rfl k) ?_
  show OEnds p e below s _ _ _ (T46.setTop (mkF m 223 #[.val (.ref a), .val (.int (0 : Int32)), .val (.int (1 : Int32)), .val (.int (2 : Int32)), .val (.int (1 : Int32))] [(.ref a), (.int (2 : Int32))]))
  have O48 : Obj Z h46 a "com/example/graphweft/graphweft/RangeMaxTree" sch_rt [(.ref b1), (.ref b2), (.ref b3), (.ref b4), (.ref b5), (.ref b6), (.ref b7), (.int (2 : Int32)), (.int (0 : Int32)), (.int (0 : Int32)), (.int te), (.int ta), (.int se), (.int sa), (.int pn), (.long bd), (.int ss), (.int bs), (.int bc)] := (O39.other W46 (Nat.ne_of_lt (by omega)))
  obtain ⟨T47, X47, e47, st47⟩ := getF X46 hx hZ hown (host := "") (Or.inl (hw _ (List.mem_of_getElem? (i := 31) rfl))) Via.refl e46 (O48.fld 7 rfl rfl) (g := (mkF m 223 #[.val (.ref a), .val (.int (0 : Int32)), .val (.int (1 : Int32)), .val (.int (2 : Int32)), .val (.int (1 : Int32))] [(.ref a), (.int (2 : Int32))])) rfl rfl (hb hby d6_223)
  refine own_by (st47) ?_
  show OEnds p e below s _ _ _ (T47.setTop (mkF m 226 #[.val (.ref a), .val (.int (0 : Int32)), .val (.int (1 : Int32)), .val (.int (2 : Int32)), .val (.int (1 : Int32))] [(.int (2 : Int32)), (.int (2 : Int32))]))
  refine own_by (fun _ k => XS.icmpYes X47.here hx rfl (pc0 := 226) (pc' := 273) rfl (hb hby d6_226) rfl (flt (by decide : ¬ ((2 : Int32) < (2 : Int32)))).2.1 (by decide) (by decide) k) ?_
  show OEnds p e below s _ _ _ (T47.setTop (mkF m 273 #[.val (.ref a), .val (.int (0 : Int32)), .val (.int (1 : Int32)), .val (.int (2 : Int32)), .val (.int (1 : Int32))] []))
  refine own_by (fun _ k => XS.iloadN X47.here hx rfl (hb hby d6_273) rfl k) ?_
  show OEnds p e below s _ _ _ (T47.setTop (mkF m 274 #[.val (.ref a), .val (.int (0 : Int32)), .val (.int (1 : Int32)), .val (.int (2 : Int32)), .val (.int (1 : Int32))] [(.int (1 : Int32))]))
  refine own_by (fun _ k => XS.iconst X47.here hx rfl (hb hby d6_274) k) ?_
  show OEnds p e below s _ _ _ (T47.setTop (mkF m 275 #[.val (.ref a), .val (.int (0 : Int32)), .val (.int (1 : Int32)), .val (.int (2 : Int32)), .val (.int (1 : Int32))] [(.int (1 : Int32)), (.int (1 : Int32))]))
  refine own_by (fun _ k => XS.isub X47.here hx rfl (hb hby d6_275) rfl k) ?_
  show OEnds p e below s _ _ _ (T47.setTop (mkF m 276 #[.val (.ref a), .val (.int (0 : Int32)), .val (.int (1 : Int32)), .val (.int (2 : Int32)), .val (.int (1 : Int32))] [(.int (0 : Int32))]))
  refine own_by (fun _ k => XS.istoreN X47.here hx rfl (hb hby d6_276) rfl (l' := #[.val (.ref a), .val (.int (0 : Int32)), .val (.int (1 : Int32)), .val (.int (0 : Int32)), .val (.int (1 : Int32))]) rfl k) ?_
  show OEnds p e below s _ _ _ (T47.setTop (mkF m 277 #[.val (.ref a), .val (.int (0 : Int32)), .val (.int (1 : Int32)), .val (.int (0 : Int32)), .val (.int (1 : Int32))] []))
  refine own_by (fun _ k => XS.iloadN X47.here hx rfl (hb hby d6_277) rfl k) ?_
  show OEnds p e below s _ _ _ (T47.setTop (mkF m 278 #[.val (.ref a), .val (.int (0 : Int32)), .val (.int (1 : Int32)), .val (.int (0 : Int32)), .val (.int (1 : Int32))] [(.int (0 : Int32))]))
  refine own_by (fun _ k => XS.ifYes X47.here hx rfl (pc0 := 278) (pc' := 329) rfl (hb hby d6_278) rfl ((if0 _ _).trans (flt (by decide : ¬ ((0 : Int32) < (0 : Int32)))).2.2.2) (by decide) (by decide) k) ?_
  show OEnds p e below s _ _ _ (T47.setTop (mkF m 329 #[.val (.ref a), .val (.int (0 : Int32)), .val (.int (1 : Int32)), .val (.int (0 : Int32)), .val (.int (1 : Int32))] []))
  refine own_by (fun _ k => XS.aloadN X47.here hx rfl (hb hby d6_329) rfl rfl k) ?_
  show OEnds p e below s _ _ _ (T47.setTop (mkF m 330 #[.val (.ref a), .val (.int (0 : Int32)), .val (.int (1 : Int32)), .val (.int (0 : Int32)), .val (.int (1 : Int32))] [(.ref a)]))
  refine own_by (fun _ k => XS.dup X47.here hx rfl (hb hby d6_330) rfl rfl k) ?_
  show OEnds p e below s _ _ _ (T47.setTop (mkF m 331 #[.val (.ref a), .val (.int (0 : Int32)), .val (.int (1 : Int32)), .val (.int (0 : Int32)), .val (.int (1 : Int32))] [(.ref a), (.ref a)]))
  obtain ⟨T49, X49, e49, st49⟩ := getF X47 hx hZ hown (host := "") (Or.inl (hw _ (List.mem_of_getElem? (i := 33) rfl))) Via.refl e47 (O48.fld 8 rfl rfl) (g := (mkF m 331 #[.val (.ref a), .val (.int (0 : Int32)), .val (.int (1 : Int32)), .val (.int (0 : Int32)), .val (.int (1 : Int32))] [(.ref a), (.ref a)])) rfl rfl (hb hby d6_331)
  refine own_by (st49) ?_
  show OEnds p e below s _ _ _ (T49.setTop (mkF m 334 #[.val (.ref a), .val (.int (0 : Int32)), .val (.int (1 : Int32)), .val (.int (0 : Int32)), .val (.int (1 : Int32))] [(.int (0 : Int32)), (.ref a)]))
  refine own_by (fun _ k => XS.iconst X49.here hx rfl (hb hby d6_334) k) ?_
  show OEnds p e below s _ _ _ (T49.setTop (mkF m 335 #[.val (.ref a), .val (.int (0 : Int32)), .val (.int (1 : Int32)), .val (.int (0 : Int32)), .val (.int (1 : Int32))] [(.int (2 : Int32)), (.int (0 : Int32)), (.ref a)]))
  refine own_by (fun _ k => XS.iloadN X49.here hx rfl (hb hby d6_335) rfl k) ?_
  show OEnds p e below s _ _ _ (T49.setTop (mkF m 336 #[.val (.ref a), .val (.int (0 : Int32)), .val (.int (1 : Int32)), .val (.int (0 : Int32)), .val (.int (1 : Int32))] [(.int (1 : Int32)), (.int (2 : Int32)), (.int (0 : Int32)), (.ref a)]))
  refine own_by (fun _ k => XS.imul X49.here hx rfl (hb hby d6_336) rfl k) ?_
  show OEnds p e below s _ _ _ (T49.setTop (mkF m 337 #[.val (.ref a), .val (.int (0 : Int32)), .val (.int (1 : Int32)), .val (.int (0 : Int32)), .val (.int (1 : Int32))] [(.int (2 : Int32)), (.int (0 : Int32)), (.ref a)]))
  refine own_by (fun _ k => XS.iadd X49.here hx rfl (hb hby d6_337) rfl k) ?_
  show OEnds p e below s _ _ _ (T49.setTop (mkF m 338 #[.val (.ref a), .val (.int (0 : Int32)), .val (.int (1 : Int32)), .val (.int (0 : Int32)), .val (.int (1 : Int32))] [(.int (2 : Int32)), (.ref a)]))
  obtain ⟨T50, h50, X50, e50, W50, st50⟩ := putF X49 hx hZ hown (host := "") (Or.inl (hw _ (List.mem_of_getElem? (i := 33) rfl))) Via.refl e49 (O48.fld 8 rfl rfl) O48.exa (Or.inl (hw _ (List.mem_of_getElem? (i := 34) rfl))) (hw _ (List.mem_of_getElem? (i := 2) rfl)) (ty := .int) (by decide) rfl rfl (g := (mkF m 338 #[.val (.ref a), .val (.int (0 : Int32)), .val (.int (1 : Int32)), .val (.int (0 : Int32)), .val (.int (1 : Int32))] [(.int (2 : Int32)), (.ref a)])) rfl rfl (hb hby d6_338)
  refine own_by (st50) ?_
  have O50 : Obj Z h50 a "com/example/graphweft/graphweft/RangeMaxTree" sch_rt [(.ref b1), (.ref b2), (.ref b3), (.ref b4), (.ref b5), (.ref b6), (.ref b7), (.int (2 : Int32)), (.int (2 : Int32)), (.int (0 : Int32)), (.int te), (.int ta), (.int se), (.int sa), (.int pn), (.long bd), (.int ss), (.int bs), (.int bc)] := O48.set (so_sch_rt hw) W50 8 rfl (Nat.le_of_ble_eq_true rfl)
  have N50 := Fr.snoc X50 N46 g_a
  have Z50 : n0 ≤ h50.size := Nat.le_trans Z46 (Keep.of_wr W50).1
  have K50 : Keep h0 h50 [a, b2, b3, b4, b5] := K46.wr W50 (Or.inl (List.mem_of_getElem? (i := 0) rfl))
  show OEnds p e below s _ _ _ (T50.setTop (mkF m 341 #[.val (.ref a), .val (.int (0 : Int32)), .val (.int (1 : Int32)), .val (.int (0 : Int32)), .val (.int (1 : Int32))] []))
  refine own_by (fun _ k => XS.aloadN X50.here hx rfl (hb hby d6_341) rfl rfl k) ?_
  show OEnds p e below s _ _ _ (T50.setTop (mkF m 342 #[.val (.ref a), .val (.int (0 : Int32)), .val (.int (1 : Int32)), .val (.int (0 : Int32)), .val (.int (1 : Int32))] [(.ref a)]))
  refine own_by (fun _ k => XS.dup X50.here hx rfl (hb hby d6_342) rfl rfl k) ?_
  show OEnds p e below s _ _ _ (T50.setTop (mkF m 343 #[.val (.ref a), .val (.int (0 : Int32)), .val (.int (1 : Int32)), .val (.int (0 : Int32)), .val (.int (1 : Int32))] [(.ref a), (.ref a)]))
  obtain ⟨T51, X51, e51, st51⟩ := getF X50 hx hZ hown (host := "") (Or.inl (hw _ (List.mem_of_getElem? (i := 35) rfl))) Via.refl e50 (O50.fld 9 rfl rfl) (g := (mkF m 343 #[.val (.ref a), .val (.int (0 : Int32)), .val (.int (1 : Int32)), .val (.int (0 : Int32)), .val (.int (1 : Int32))] [(.ref a), (.ref a)])) rfl rfl (hb hby d6_343)
  refine own_by (st51) ?_
  show OEnds p e below s _ _ _ (T51.setTop (mkF m 346 #[.val (.ref a), .val (.int (0 : Int32)), .val (.int (1 : Int32)), .val (.int (0 : Int32)), .val (.int (1 : Int32))] [(.int (0 : Int32)), (.ref a)]))
  refine own_by (fun _ k => XS.dupX1 X51.here hx rfl (hb hby d6_346) rfl rfl rfl k) ?_
  show OEnds p e below s _ _ _ (T51.setTop (mkF m 347 #[.val (.ref a), .val (.int (0 : Int32)), .val (.int (1 : Int32)), .val (.int (0 : Int32)), .val (.int (1 : Int32))] [(.int (0 : Int32)), (.ref a), (.int (0 : Int32))]))
  refine own_by (fun _ k => XS.iconst X51.here hx rfl (hb hby d6_347) k) ?_
  show OEnds p e below s _ _ _ (T51.setTop (mkF m 348 #[.val (.ref a), .val (.int (0 : Int32)), .val (.int (1 : Int32)), .val (.int (0 : Int32)), .val (.int (1 : Int32))] [(.int (1 : Int32)), (.int (0 : Int32)), (.ref a), (.int (0 : Int32))]))
  refine own_by (fun _ k => XS.iadd X51.here hx rfl (hb hby d6_348) rfl k) ?_
  show OEnds p e below s _ _ _ (T51.setTop (mkF m 349 #[.val (.ref a), .val (.int (0 : Int32)), .val (.int (1 : Int32)), .val (.int (0 : Int32)), .val (.int (1 : Int32))] [(.int (1 : Int32)), (.ref a), (.int (0 : Int32))]))
  obtain ⟨T52, h52, X52, e52, W52, st52⟩ := putF X51 hx hZ hown (host := "") (Or.inl (hw _ (List.mem_of_getElem? (i := 35) rfl))) Via.refl e51 (O50.fld 9 rfl rfl) O50.exa (Or.inl (hw _ (List.mem_of_getElem? (i := 36) rfl))) (hw _ (List.mem_of_getElem? (i := 2) rfl)) (ty := .int) (by decide) rfl rfl (g := (mkF m 349 #[.val (.ref a), .val (.int (0 : Int32)), .val (.int (1 : Int32)), .val (.int (0 : Int32)), .val (.int (1 : Int32))] [(.int (1 : Int32)), (.ref a), (.int (0 : Int32))])) rfl rfl (hb hby d6_349)
  refine own_by (st52) ?_
  have O52 : Obj Z h52 a "com/example/graphweft/graphweft/RangeMaxTree" sch_rt [(.ref b1), (.ref b2), (.ref b3), (.ref b4), (.ref b5), (.ref b6), (.ref b7), (.int (2 : Int32)), (.int (2 : Int32)), (.int (1 : Int32)), (.int te), (.int ta), (.int se), (.int sa), (.int pn), (.long bd), (.int ss), (.int bs), (.int bc)] := O50.set (so_sch_rt hw) W52 9 rfl (Nat.le_of_ble_eq_true rfl)
  have N52 := Fr.snoc X52 N50 g_a
  have Z52 : n0 ≤ h52.size := Nat.le_trans Z50 (Keep.of_wr W52).1
  have K52 : Keep h0 h52 [a, b2, b3, b4, b5] := K50.wr W52 (Or.inl (List.mem_of_getElem? (i := 0) rfl))
  show OEnds p e below s _ _ _ (T52.setTop (mkF m 352 #[.val (.ref a), .val (.int (0 : Int32)), .val (.int (1 : Int32)), .val (.int (0 : Int32)), .val (.int (1 : Int32))] [(.int (0 : Int32))]))
  have F53 : FA Z h52 b2 .long 64 (fun i => .long ((updL f37 1 (jmax (f37 1) (g1 1))) i)) := ((F46.other W50 (Ne.symm (Nat.ne_of_lt (by omega)))).other W52 (Ne.symm (Nat.ne_of_lt (by omega))))
  have F54 : FA Z h52 b3 .int 16 (fun i => .int ((updI g3 0 (0 : Int32)) i)) := (((((((F10.other W15 (Nat.ne_of_lt (by omega))).other W21 (Nat.ne_of_lt (by omega))).keep Kq27 (ninS (Ne.symm (Nat.ne_of_lt (by omega))) nin0)).other W37 (Ne.symm (Nat.ne_of_lt (by omega)))).other W46 (Ne.symm (Nat.ne_of_lt (by omega)))).other W50 (Ne.symm (Nat.ne_of_lt (by omega)))).other W52 (Ne.symm (Nat.ne_of_lt (by omega))))
  have F55 : FA Z h52 b4 .int 16 (fun i => .int ((updI g4 0 (2 : Int32)) i)) := ((((((F15.other W21 (Nat.ne_of_lt (by omega))).keep Kq27 (ninS (Ne.symm (Nat.ne_of_lt (by omega))) nin0)).other W37 (Ne.symm (Nat.ne_of_lt (by omega)))).other W46 (Ne.symm (Nat.ne_of_lt (by omega)))).other W50 (Ne.symm (Nat.ne_of_lt (by omega)))).other W52 (Ne.symm (Nat.ne_of_lt (by omega))))
  have F56 : FA Z h52 b5 .int 16 (fun i => .int ((updI g5 0 (0 : Int32)) i)) := (((((F21.keep Kq27 (ninS (Ne.symm (Nat.ne_of_lt (by omega))) nin0)).other W37 (Ne.symm (Nat.ne_of_lt (by omega)))).other W46 (Ne.symm (Nat.ne_of_lt (by omega)))).other W50 (Ne.symm (Nat.ne_of_lt (by omega)))).other W52 (Ne.symm (Nat.ne_of_lt (by omega))))
  exact own_retI X52 hx hlk Bd.returns (hb hby d6_352) (by rw [e52]; subst ef37; exact ⟨rfl, N52, K52, O52, F53, F54, F55, F56⟩) (by decide) (by decide)
theorem d11_0 : decode prog_32_method_8_code 0 = .ok (.aload_n 0, 1) := by decide +kernel
theorem d11_1 : decode prog_32_method_8_code 1 = .ok (.lload_n 3, 1) := by decide +kernel
theorem d11_2 : decode prog_32_method_8_code 2 = .ok (.putfield 83, 3) := by decide +kernel
theorem d11_5 : decode prog_32_method_8_code 5 = .ok (.aload_n 0, 1) := by decide +kernel
theorem d11_6 : decode prog_32_method_8_code 6 = .ok (.aload_n 0, 1) := by decide +kernel
theorem d11_7 : decode prog_32_method_8_code 7 = .ok (.getfield 16, 3) := by decide +kernel
theorem d11_10 : decode prog_32_method_8_code 10 = .ok (.iload_n 1, 1) := by decide +kernel
theorem d11_11 : decode prog_32_method_8_code 11 = .ok (.iaload, 1) := by decide +kernel
theorem d11_12 : decode prog_32_method_8_code 12 = .ok (.putfield 87, 3) := by decide +kernel
theorem d11_15 : decode prog_32_method_8_code 15 = .ok (.aload_n 0, 1) := by decide +kernel
theorem d11_16 : decode prog_32_method_8_code 16 = .ok (.aload_n 0, 1) := by decide +kernel
theorem d11_17 : decode prog_32_method_8_code 17 = .ok (.getfield 23, 3) := by decide +kernel
theorem d11_20 : decode prog_32_method_8_code 20 = .ok (.iload_n 1, 1) := by decide +kernel
theorem d11_21 : decode prog_32_method_8_code 21 = .ok (.iaload, 1) := by decide +kernel
theorem d11_22 : decode prog_32_method_8_code 22 = .ok (.putfield 90, 3) := by decide +kernel
theorem d11_25 : decode prog_32_method_8_code 25 = .ok (.aload_n 0, 1) := by decide +kernel
theorem d11_26 : decode prog_32_method_8_code 26 = .ok (.getfield 20, 3) := by decide +kernel
theorem d11_29 : decode prog_32_method_8_code 29 = .ok (.iload_n 1, 1) := by decide +kernel
theorem d11_30 : decode prog_32_method_8_code 30 = .ok (.iaload, 1) := by decide +kernel
theorem d11_31 : decode prog_32_method_8_code 31 = .ok (.aload_n 0, 1) := by decide +kernel
theorem d11_32 : decode prog_32_method_8_code 32 = .ok (.getfield 87, 3) := by decide +kernel
theorem d11_35 : decode prog_32_method_8_code 35 = .ok (.isub, 1) := by decide +kernel
theorem d11_36 : decode prog_32_method_8_code 36 = .ok (.istore 5, 2) := by decide +kernel
theorem d11_38 : decode prog_32_method_8_code 38 = .ok (.aload_n 0, 1) := by decide +kernel
theorem d11_39 : decode prog_32_method_8_code 39 = .ok (.iload 5, 2) := by decide +kernel
theorem d11_41 : decode prog_32_method_8_code 41 = .ok (.bipush 8, 2) := by decide +kernel
theorem d11_43 : decode prog_32_method_8_code 43 = .ok (.idiv, 1) := by decide +kernel
theorem d11_44 : decode prog_32_method_8_code 44 = .ok (.iload 5, 2) := by decide +kernel
theorem d11_46 : decode prog_32_method_8_code 46 = .ok (.bipush 8, 2) := by decide +kernel
theorem d11_48 : decode prog_32_method_8_code 48 = .ok (.irem, 1) := by decide +kernel
theorem d11_49 : decode prog_32_method_8_code 49 = .ok (.ifCond .ne 7, 3) := by decide +kernel
theorem d11_52 : decode prog_32_method_8_code 52 = .ok (.iconst 0, 1) := by decide +kernel
theorem d11_53 : decode prog_32_method_8_code 53 = .ok (.goto 4, 3) := by decide +kernel
theorem d11_57 : decode prog_32_method_8_code 57 = .ok (.iadd, 1) := by decide +kernel
theorem d11_58 : decode prog_32_method_8_code 58 = .ok (.putfield 93, 3) := by decide +kernel
theorem d11_61 : decode prog_32_method_8_code 61 = .ok (.aload_n 0, 1) := by decide +kernel
theorem d11_62 : decode prog_32_method_8_code 62 = .ok (.iconst 0, 1) := by decide +kernel
theorem d11_63 : decode prog_32_method_8_code 63 = .ok (.putfield 54, 3) := by decide +kernel
theorem d11_66 : decode prog_32_method_8_code 66 = .ok (.aload_n 0, 1) := by decide +kernel
theorem d11_67 : decode prog_32_method_8_code 67 = .ok (.aload_n 0, 1) := by decide +kernel
theorem d11_68 : decode prog_32_method_8_code 68 = .ok (.iconst 0, 1) := by decide +kernel
theorem d11_69 : decode prog_32_method_8_code 69 = .ok (.dup_x1, 1) := by decide +kernel
theorem d11_70 : decode prog_32_method_8_code 70 = .ok (.putfield 48, 3) := by decide +kernel
theorem d11_73 : decode prog_32_method_8_code 73 = .ok (.putfield 51, 3) := by decide +kernel
theorem d11_76 : decode prog_32_method_8_code 76 = .ok (.iload_n 2, 1) := by decide +kernel
theorem d11_77 : decode prog_32_method_8_code 77 = .ok (.aload_n 0, 1) := by decide +kernel
theorem d11_78 : decode prog_32_method_8_code 78 = .ok (.getfield 87, 3) := by decide +kernel
theorem d11_81 : decode prog_32_method_8_code 81 = .ok (.isub, 1) := by decide +kernel
theorem d11_82 : decode prog_32_method_8_code 82 = .ok (.bipush 8, 2) := by decide +kernel
theorem d11_84 : decode prog_32_method_8_code 84 = .ok (.idiv, 1) := by decide +kernel
theorem d11_85 : decode prog_32_method_8_code 85 = .ok (.istore 6, 2) := by decide +kernel
theorem d11_87 : decode prog_32_method_8_code 87 = .ok (.aload_n 0, 1) := by decide +kernel
theorem d11_88 : decode prog_32_method_8_code 88 = .ok (.aload_n 0, 1) := by decide +kernel
theorem d11_89 : decode prog_32_method_8_code 89 = .ok (.getfield 87, 3) := by decide +kernel
theorem d11_92 : decode prog_32_method_8_code 92 = .ok (.iload 6, 2) := by decide +kernel
theorem d11_94 : decode prog_32_method_8_code 94 = .ok (.bipush 8, 2) := by decide +kernel
theorem d11_96 : decode prog_32_method_8_code 96 = .ok (.imul, 1) := by decide +kernel
theorem d11_97 : decode prog_32_method_8_code 97 = .ok (.iadd, 1) := by decide +kernel
theorem d11_98 : decode prog_32_method_8_code 98 = .ok (.putfield 45, 3) := by decide +kernel
theorem d11_101 : decode prog_32_method_8_code 101 = .ok (.aload_n 0, 1) := by decide +kernel
theorem d11_102 : decode prog_32_method_8_code 102 = .ok (.iload_n 2, 1) := by decide +kernel
theorem d11_103 : decode prog_32_method_8_code 103 = .ok (.putfield 42, 3) := by decide +kernel
theorem d11_106 : decode prog_32_method_8_code 106 = .ok (.iconst 0, 1) := by decide +kernel
theorem d11_107 : decode prog_32_method_8_code 107 = .ok (.istore 7, 2) := by decide +kernel
theorem d11_109 : decode prog_32_method_8_code 109 = .ok (.aload_n 0, 1) := by decide +kernel
theorem d11_110 : decode prog_32_method_8_code 110 = .ok (.getfield 93, 3) := by decide +kernel
theorem d11_113 : decode prog_32_method_8_code 113 = .ok (.istore 8, 2) := by decide +kernel
theorem d11_115 : decode prog_32_method_8_code 115 = .ok (.iload 6, 2) := by decide +kernel
theorem d11_117 : decode prog_32_method_8_code 117 = .ok (.aload_n 0, 1) := by decide +kernel
theorem d11_118 : decode prog_32_method_8_code 118 = .ok (.getfield 93, 3) := by decide +kernel
theorem d11_121 : decode prog_32_method_8_code 121 = .ok (.iadd, 1) := by decide +kernel
theorem d11_122 : decode prog_32_method_8_code 122 = .ok (.istore 9, 2) := by decide +kernel
theorem d11_124 : decode prog_32_method_8_code 124 = .ok (.iload 8, 2) := by decide +kernel
theorem d11_126 : decode prog_32_method_8_code 126 = .ok (.iload 9, 2) := by decide +kernel
theorem d11_128 : decode prog_32_method_8_code 128 = .ok (.if_icmp .ge 70, 3) := by decide +kernel
theorem d11_198 : decode prog_32_method_8_code 198 = .ok (.iload 7, 2) := by decide +kernel
theorem d11_200 : decode prog_32_method_8_code 200 = .ok (.ifCond .le 32, 3) := by decide +kernel
theorem d11_232 : decode prog_32_method_8_code 232 = .ok (.return_, 1) := by decide +kernel
theorem pn_11 : plainName "com/example/graphweft/graphweft/RangeMaxTree" = true := by first | (simp [plainName, overriddenIn]; done) | decide +kernel
theorem ef_11 (m : MethodId) (x0 : Addr) (x1 : Int32) (x2 : Int32) (x3 : Int64) : entryFrame m #[(.ref x0), (.int x1), (.int x2), (.long x3)] 10 = mkF m 0 #[.val (.ref x0), .val (.int x1), .val (.int x2), .val (.long x3), .second, .unset, .unset, .unset, .unset, .unset] [] := by first | (simp [entryFrame, mkF, argsToLocals, Value.category]; done) | rfl
def Q_find_0 (Z : State) (a : Addr) (vv : Int64) (b1 : Addr) (b2 : Addr) (b3 : Addr) (b4 : Addr) (b5 : Addr) (b6 : Addr) (b7 : Addr) (sz : Int32) (nc : Int32) (sc : Int32) (te : Int32) (ta : Int32) (se : Int32) (sa : Int32) (pn : Int32) (bd : Int64) (ss : Int32) (bs : Int32) (bc : Int32) (g3 : Nat → Int32) (g4 : Nat → Int32) (g5 : Nat → Int32) (h0 : Heap) (n0 : Nat) (r : Option Value) (h : Heap) (L : List Loc) : Prop := r = none ∧ Fr n0 L ∧ Keep h0 h [a] ∧ Obj Z h a "com/example/graphweft/graphweft/RangeMaxTree" sch_rt [(.ref b1), (.ref b2), (.ref b3), (.ref b4), (.ref b5), (.ref b6), (.ref b7), (.int sz), (.int nc), (.int sc), (.int (0 : Int32)), (.int (0 : Int32)), (.int (0 : Int32)), (.int (0 : Int32)), (.int (0 : Int32)), (.long vv), (.int (0 : Int32)), (.int (0 : Int32)), (.int (0 : Int32))]
set_option maxRecDepth 65536 in
set_option maxHeartbeats 40000000 in
theorem rm_find_0 (l : Launch) (Z : State) (a0 : Array Value) (hw : ∀ d ∈ tables_1, d.before a0 Z = true) (ws : List Jvm.Cond) (a : Addr) (vv : Int64) (b1 : Addr) (b2 : Addr) (b3 : Addr) (b4 : Addr) (b5 : Addr) (b6 : Addr) (b7 : Addr) (sz : Int32) (nc : Int32) (sc : Int32) (te : Int32) (ta : Int32) (se : Int32) (sa : Int32) (pn : Int32) (bd : Int64) (ss : Int32) (bs : Int32) (bc : Int32) (g3 : Nat → Int32) (g4 : Nat → Int32) (g5 : Nat → Int32) (h0 : Heap) (n0 : Nat) (Z0 : n0 ≤ h0.size) (O0 : Obj Z h0 a "com/example/graphweft/graphweft/RangeMaxTree" sch_rt [(.ref b1), (.ref b2), (.ref b3), (.ref b4), (.ref b5), (.ref b6), (.ref b7), (.int sz), (.int nc), (.int sc), (.int te), (.int ta), (.int se), (.int sa), (.int pn), (.long bd), (.int ss), (.int bs), (.int bc)]) (F_b3 : FA Z h0 b3 .int 16 (fun i => .int (g3 i))) (F_b4 : FA Z h0 b4 .int 16 (fun i => .int (g4 i))) (F_b5 : FA Z h0 b5 .int 16 (fun i => .int (g5 i))) (g_a : n0 ≤ a) (hord : @LT.lt Nat instLTNat a b1 ∧ @LT.lt Nat instLTNat b1 b2 ∧ @LT.lt Nat instLTNat b2 b3 ∧ @LT.lt Nat instLTNat b3 b4 ∧ @LT.lt Nat instLTNat b4 b5 ∧ @LT.lt Nat instLTNat b5 b6 ∧ @LT.lt Nat instLTNat b6 b7) (hs : g3 0 = (0 : Int32)) (he : g4 0 = (0 : Int32)) (hbb : g5 0 = (0 : Int32)) :
    MetFree l (⟨"com/example/graphweft/graphweft/RangeMaxTree", "find", "(IIJ)V"⟩ : MethodName) (head1 (Jvm.Cond.code (⟨"com/example/graphweft/graphweft/RangeMaxTree", "find", "(IIJ)V"⟩ : MethodName) prog_32_method_8_code 10 none :: ws) ({ frames := 0, cells := 0, slots := 0, locals := 0 } : Room)) (fun a_ U => a_ = #[(.ref a), (.int (0 : Int32)), (.int (0 : Int32)), (.long vv)] ∧ Z.Warmed39 U.vm ∧ U.heap = h0) (fun _ _ _ _ _ => True) (fun _ U o U' => ∃ v_ L_, o = .returned v_ ∧ Q_find_0 Z a vv b1 b2 b3 b4 b5 b6 b7 sz nc sc te ta se sa pn bd ss bs bc g3 g4 g5 h0 n0 v_ U'.heap L_ ∧ FrameEnd U o U' L_ ({ frames := 0, cells := 0, slots := 0, locals := 0 } : Room).cells ({ frames := 0, cells := 0, slots := 0, locals := 0 } : Room).slots) := by
  refine MetFree.of_bodySF (plainFor_of_name pn_11) hisR ?_
  intro p e s m args below meth c s₁ Bd hml0 hP hK
  obtain ⟨rfl, hZ, hh⟩ := hP
  have hx := Bd.exec
  have hby := Bd.bytes
  have hlk : meth.locks = false := Bd.notSynchronized
  have hml : c.maxLocals = 10 := hml0
  have hown : s.vm.findClass "com/example/graphweft/graphweft/RangeMaxTree" = some m.cls := findClass_of_methodNamed Bd.named
  have hnm := (name_of_methodNamed Bd.named Bd.method).1
  have X0 : Stand p l e ({ frames := 0, cells := 0, slots := 0, locals := 0 } : Room) s m #[(.ref a), (.int (0 : Int32)), (.int (0 : Int32)), (.long vv)] below meth c s₁ [] 0 0 := Stand.of_body Bd
  have e0 : s₁.heap = h0 := by rw [← hh, Bd.state]; rfl
  have N0 := Fr.nil n0
  have K0 : Keep h0 h0 [a] := Keep.refl _ _
  show OEnds p e below s (Q_find_0 Z a vv b1 b2 b3 b4 b5 b6 b7 sz nc sc te ta se sa pn bd ss bs bc g3 g4 g5 h0 n0) _ _ _
  refine own_by (fun t k => castTop (ef_11 m a (0 : Int32) (0 : Int32) vv) k) ?_
  show OEnds p e below s _ _ _ (s₁.setTop (mkF m 0 #[.val (.ref a), .val (.int (0 : Int32)), .val (.int (0 : Int32)), .val (.long vv), .second, .unset, .unset, .unset, .unset, .unset] []))
  refine own_by (fun _ k => XS.aloadN X0.here hx rfl (hb hby d11_0) rfl rfl k) ?_
  show OEnds p e below s _ _ _ (s₁.setTop (mkF m 1 #[.val (.ref a), .val (.int (0 : Int32)), .val (.int (0 : Int32)), .val (.long vv), .second, .unset, .unset, .unset, .unset, .unset] [(.ref a)]))
  refine own_by (fun _ k => XS.lloadN X0.here hx rfl (hb hby d11_1) rfl k) ?_
  show OEnds p e below s _ _ _ (s₁.setTop (mkF m 2 #[.val (.ref a), .val (.int (0 : Int32)), .val (.int (0 : Int32)), .val (.long vv), .second, .unset, .unset, .unset, .unset, .unset] [(.long vv), (.ref a)]))
  obtain ⟨T1, h1, X1, e1, W1, st1⟩ := putF X0 hx hZ hown (host := "") (Or.inl (hw _ (List.mem_of_getElem? (i := 85) rfl))) Via.refl e0 (O0.fld 15 rfl rfl) O0.exa (Or.inl (hw _ (List.mem_of_getElem? (i := 86) rfl))) (hw _ (List.mem_of_getElem? (i := 2) rfl)) (ty := .long) (by decide) rfl rfl (g := (mkF m 2 #[.val (.ref a), .val (.int (0 : Int32)), .val (.int (0 : Int32)), .val (.long vv), .second, .unset, .unset, .unset, .unset, .unset] [(.long vv), (.ref a)])) rfl rfl (hb hby d11_2)
  refine own_by (st1) ?_
  have O1 : Obj Z h1 a "com/example/graphweft/graphweft/RangeMaxTree" sch_rt [(.ref b1), (.ref b2), (.ref b3), (.ref b4), (.ref b5), (.ref b6), (.ref b7), (.int sz), (.int nc), (.int sc), (.int te), (.int ta), (.int se), (.int sa), (.int pn), (.long vv), (.int ss), (.int bs), (.int bc)] := O0.set (so_sch_rt hw) W1 15 rfl (Nat.le_of_ble_eq_true rfl)
  have N1 := Fr.snoc X1 N0 g_a
  have Z1 : n0 ≤ h1.size := Nat.le_trans Z0 (Keep.of_wr W1).1
  have K1 : Keep h0 h1 [a] := K0.wr W1 (Or.inl (List.mem_of_getElem? (i := 0) rfl))
  show OEnds p e below s _ _ _ (T1.setTop (mkF m 5 #[.val (.ref a), .val (.int (0 : Int32)), .val (.int (0 : Int32)), .val (.long vv), .second, .unset, .unset, .unset, .unset, .unset] []))
  refine own_by (fun _ k => XS.aloadN X1.here hx rfl (hb hby d11_5) rfl rfl k) ?_
  show OEnds p e below s _ _ _ (T1.setTop (mkF m 6 #[.val (.ref a), .val (.int (0 : Int32)), .val (.int (0 : Int32)), .val (.long vv), .second, .unset, .unset, .unset, .unset, .unset] [(.ref a)]))
  refine own_by (fun _ k => XS.aloadN X1.here hx rfl (hb hby d11_6) rfl rfl k) ?_
  show OEnds p e below s _ _ _ (T1.setTop (mkF m 7 #[.val (.ref a), .val (.int (0 : Int32)), .val (.int (0 : Int32)), .val (.long vv), .second, .unset, .unset, .unset, .unset, .unset] [(.ref a), (.ref a)]))
  obtain ⟨T2, X2, e2, st2⟩ := getF X1 hx hZ hown (host := "") (Or.inl (hw _ (List.mem_of_getElem? (i := 16) rfl))) Via.refl e1 (O1.fld 2 rfl rfl) (g := (mkF m 7 #[.val (.ref a), .val (.int (0 : Int32)), .val (.int (0 : Int32)), .val (.long vv), .second, .unset, .unset, .unset, .unset, .unset] [(.ref a), (.ref a)])) rfl rfl (hb hby d11_7)
  refine own_by (st2) ?_
  show OEnds p e below s _ _ _ (T2.setTop (mkF m 10 #[.val (.ref a), .val (.int (0 : Int32)), .val (.int (0 : Int32)), .val (.long vv), .second, .unset, .unset, .unset, .unset, .unset] [(.ref b3), (.ref a)]))
  refine own_by (fun _ k => XS.iloadN X2.here hx rfl (hb hby d11_10) rfl k) ?_
  show OEnds p e below s _ _ _ (T2.setTop (mkF m 11 #[.val (.ref a), .val (.int (0 : Int32)), .val (.int (0 : Int32)), .val (.long vv), .second, .unset, .unset, .unset, .unset, .unset] [(.int (0 : Int32)), (.ref b3), (.ref a)]))
  have F3 : FA Z h1 b3 .int 16 (fun i => .int (g3 i)) := (F_b3.other W1 (Ne.symm (Nat.ne_of_lt (by omega))))
  refine own_by (own_iaload X2 hx hZ e2 F3 0 (by decide) (by decide) (congrArg Value.int hs) (g := (mkF m 11 #[.val (.ref a), .val (.int (0 : Int32)), .val (.int (0 : Int32)), .val (.long vv), .second, .unset, .unset, .unset, .unset, .unset] [(.int (0 : Int32)), (.ref b3), (.ref a)])) rfl rfl (hb hby d11_11)) ?_
  show OEnds p e below s _ _ _ (T2.setTop (mkF m 12 #[.val (.ref a), .val (.int (0 : Int32)), .val (.int (0 : Int32)), .val (.long vv), .second, .unset, .unset, .unset, .unset, .unset] [(.int (0 : Int32)), (.ref a)]))
  obtain ⟨T4, h4, X4, e4, W4, st4⟩ := putF X2 hx hZ hown (host := "") (Or.inl (hw _ (List.mem_of_getElem? (i := 87) rfl))) Via.refl e2 (O1.fld 16 rfl rfl) O1.exa (Or.inl (hw _ (List.mem_of_getElem? (i := 88) rfl))) (hw _ (List.mem_of_getElem? (i := 2) rfl)) (ty := .int) (by decide) rfl rfl (g := (mkF m 12 #[.val (.ref a), .val (.int (0 : Int32)), .val (.int (0 : Int32)), .val (.long vv), .second, .unset, .unset, .unset, .unset, .unset] [(.int (0 : Int32)), (.ref a)])) rfl rfl (hb hby d11_12)
  refine own_by (st4) ?_
  have O4 : Obj Z h4 a "com/example/graphweft/graphweft/RangeMaxTree" sch_rt [(.ref b1), (.ref b2), (.ref b3), (.ref b4), (.ref b5), (.ref b6), (.ref b7), (.int sz), (.int nc), (.int sc), (.int te), (.int ta), (.int se), (.int sa), (.int pn), (.long vv), (.int (0 : Int32)), (.int bs), (.int bc)] := O1.set (so_sch_rt hw) W4 16 rfl (Nat.le_of_ble_eq_true rfl)
  have N4 := Fr.snoc X4 N1 g_a
  have Z4 : n0 ≤ h4.size := Nat.le_trans Z1 (Keep.of_wr W4).1
  have K4 : Keep h0 h4 [a] := K1.wr W4 (Or.inl (List.mem_of_getElem? (i := 0) rfl))
  show OEnds p e below s _ _ _ (T4.setTop (mkF m 15 #[.val (.ref a), .val (.int (0 : Int32)), .val (.int (0 : Int32)), .val (.long vv), .second, .unset, .unset, .unset, .unset, .unset] []))
  refine own_by (fun _ k => XS.aloadN X4.here hx rfl (hb hby d11_15) rfl rfl k) ?_
  show OEnds p e below s _ _ _ (T4.setTop (mkF m 16 #[.val (.ref a), .val (.int (0 : Int32)), .val (.int (0 : Int32)), .val (.long vv), .second, .unset, .unset, .unset, .unset, .unset] [(.ref a)]))
  refine own_by (fun _ k => XS.aloadN X4.here hx rfl (hb hby d11_16) rfl rfl k) ?_
  show OEnds p e below s _ _ _ (T4.setTop (mkF m 17 #[.val (.ref a), .val (.int (0 : Int32)), .val (.int (0 : Int32)), .val (.long vv), .second, .unset, .unset, .unset, .unset, .unset] [(.ref a), (.ref a)]))
  obtain ⟨T5, X5, e5, st5⟩ := getF X4 hx hZ hown (host := "") (Or.inl (hw _ (List.mem_of_getElem? (i := 20) rfl))) Via.refl e4 (O4.fld 4 rfl rfl) (g := (mkF m 17 #[.val (.ref a), .val (.int (0 : Int32)), .val (.int (0 : Int32)), .val (.long vv), .second, .unset, .unset, .unset, .unset, .unset] [(.ref a), (.ref a)])) rfl rfl (hb hby d11_17)
  refine own_by (st5) ?_
  show OEnds p e below s _ _ _ (T5.setTop (mkF m 20 #[.val (.ref a), .val (.int (0 : Int32)), .val (.int (0 : Int32)), .val (.long vv), .second, .unset, .unset, .unset, .unset, .unset] [(.ref b5), (.ref a)]))
  refine own_by (fun _ k => XS.iloadN X5.here hx rfl (hb hby d11_20) rfl k) ?_
  show OEnds p e below s _ _ _ (T5.setTop (mkF m 21 #[.val (.ref a), .val (.int (0 : Int32)), .val (.int (0 : Int32)), .val (.long vv), .second, .unset, .unset, .unset, .unset, .unset] [(.int (0 : Int32)), (.ref b5), (.ref a)]))
  have F6 : FA Z h4 b5 .int 16 (fun i => .int (g5 i)) := ((F_b5.other W1 (Ne.symm (Nat.ne_of_lt (by omega)))).other W4 (Ne.symm (Nat.ne_of_lt (by omega))))
  refine own_by (own_iaload X5 hx hZ e5 F6 0 (by decide) (by decide) (congrArg Value.int hbb) (g := (mkF m 21 #[.val (.ref a), .val (.int (0 : Int32)), .val (.int (0 : Int32)), .val (.long vv), .second, .unset, .unset, .unset, .unset, .unset] [(.int (0 : Int32)), (.ref b5), (.ref a)])) rfl rfl (hb hby d11_21)) ?_
  show OEnds p e below s _ _ _ (T5.setTop (mkF m 22 #[.val (.ref a), .val (.int (0 : Int32)), .val (.int (0 : Int32)), .val (.long vv), .second, .unset, .unset, .unset, .unset, .unset] [(.int (0 : Int32)), (.ref a)]))
  obtain ⟨T7, h7, X7, e7, W7, st7⟩ := putF X5 hx hZ hown (host := "") (Or.inl (hw _ (List.mem_of_getElem? (i := 89) rfl))) Via.refl e5 (O4.fld 17 rfl rfl) O4.exa (Or.inl (hw _ (List.mem_of_getElem? (i := 90) rfl))) (hw _ (List.mem_of_getElem? (i := 2) rfl)) (ty := .int) (by decide) rfl rfl (g := (mkF m 22 #[.val (.ref a), .val (.int (0 : Int32)), .val (.int (0 : Int32)), .val (.long vv), .second, .unset, .unset, .unset, .unset, .unset] [(.int (0 : Int32)), (.ref a)])) rfl rfl (hb hby d11_22)
  refine own_by (st7) ?_
  have O7 : Obj Z h7 a "com/example/graphweft/graphweft/RangeMaxTree" sch_rt [(.ref b1), (.ref b2), (.ref b3), (.ref b4), (.ref b5), (.ref b6), (.ref b7), (.int sz), (.int nc), (.int sc), (.int te), (.int ta), (.int se), (.int sa), (.int pn), (.long vv), (.int (0 : Int32)), (.int (0 : Int32)), (.int bc)] := O4.set (so_sch_rt hw) W7 17 rfl (Nat.le_of_ble_eq_true rfl)
  have N7 := Fr.snoc X7 N4 g_a
  have Z7 : n0 ≤ h7.size := Nat.le_trans Z4 (Keep.of_wr W7).1
  have K7 : Keep h0 h7 [a] := K4.wr W7 (Or.inl (List.mem_of_getElem? (i := 0) rfl))
  show OEnds p e below s _ _ _ (T7.setTop (mkF m 25 #[.val (.ref a), .val (.int (0 : Int32)), .val (.int (0 : Int32)), .val (.long vv), .second, .unset, .unset, .unset, .unset, .unset] []))
  refine own_by (fun _ k => XS.aloadN X7.here hx rfl (hb hby d11_25) rfl rfl k) ?_
  show OEnds p e below s _ _ _ (T7.setTop (mkF m 26 #[.val (.ref a), .val (.int (0 : Int32)), .val (.int (0 : Int32)), .val (.long vv), .second, .unset, .unset, .unset, .unset, .unset] [(.ref a)]))
  obtain ⟨T8, X8, e8, st8⟩ := getF X7 hx hZ hown (host := "") (Or.inl (hw _ (List.mem_of_getElem? (i := 18) rfl))) Via.refl e7 (O7.fld 3 rfl rfl) (g := (mkF m 26 #[.val (.ref a), .val (.int (0 : Int32)), .val (.int (0 : Int32)), .val (.long vv), .second, .unset, .unset, .unset, .unset, .unset] [(.ref a)])) rfl rfl (hb hby d11_26)
  refine own_by (st8) ?_
  show OEnds p e below s _ _ _ (T8.setTop (mkF m 29 #[.val (.ref a), .val (.int (0 : Int32)), .val (.int (0 : Int32)), .val (.long vv), .second, .unset, .unset, .unset, .unset, .unset] [(.ref b4)]))
  refine own_by (fun _ k => XS.iloadN X8.here hx rfl (hb hby d11_29) rfl k) ?_
  show OEnds p e below s _ _ _ (T8.setTop (mkF m 30 #[.val (.ref a), .val (.int (0 : Int32)), .val (.int (0 : Int32)), .val (.long vv), .second, .unset, .unset, .unset, .unset, .unset] [(.int (0 : Int32)), (.ref b4)]))
  have F9 : FA Z h7 b4 .int 16 (fun i => .int (g4 i)) := (((F_b4.other W1 (Ne.symm (Nat.ne_of_lt (by omega)))).other W4 (Ne.symm (Nat.ne_of_lt (by omega)))).other W7 (Ne.symm (Nat.ne_of_lt (by omega))))
  refine own_by (own_iaload X8 hx hZ e8 F9 0 (by decide) (by decide) (congrArg Value.int he) (g := (mkF m 30 #[.val (.ref a), .val (.int (0 : Int32)), .val (.int (0 : Int32)), .val (.long vv), .second, .unset, .unset, .unset, .unset, .unset] [(.int (0 : Int32)), (.ref b4)])) rfl rfl (hb hby d11_30)) ?_
  show OEnds p e below s _ _ _ (T8.setTop (mkF m 31 #[.val (.ref a), .val (.int (0 : Int32)), .val (.int (0 : Int32)), .val (.long vv), .second, .unset, .unset, .unset, .unset, .unset] [(.int (0 : Int32))]))
  refine own_by (fun _ k => XS.aloadN X8.here hx rfl (hb hby d11_31) rfl rfl k) ?_
  show OEnds p e below s _ _ _ (T8.setTop (mkF m 32 #[.val (.ref a), .val (.int (0 : Int32)), .val (.int (0 : Int32)), .val (.long vv), .second, .unset, .unset, .unset, .unset, .unset] [(.ref a), (.int (0 : Int32))]))
  obtain ⟨T10, X10, e10, st10⟩ := getF X8 hx hZ hown (host := "") (Or.inl (hw _ (List.mem_of_getElem? (i := 87) rfl))) Via.refl e8 (O7.fld 16 rfl rfl) (g := (mkF m 32 #[.val (.ref a), .val (.int (0 : Int32)), .val (.int (0 : Int32)), .val (.long vv), .second, .unset, .unset, .unset, .unset, .unset] [(.ref a), (.int (0 : Int32))])) rfl rfl (hb hby d11_32)
  refine own_by (st10) ?_
  show OEnds p e below s _ _ _ (T10.setTop (mkF m 35 #[.val (.ref a), .val (.int (0 : Int32)), .val (.int (0 : Int32)), .val (.long vv), .second, .unset, .unset, .unset, .unset, .unset] [(.int (0 : Int32)), (.int (0 : Int32))]))
  refine own_by (fun _ k => XS.isub X10.here hx rfl (hb hby d11_35) rfl k) ?_
  show OEnds p e below s _ _ _ (T10.setTop (mkF m 36 #[.val (.ref a), .val (.int (0 : Int32)), .val (.int (0 : Int32)), .val (.long vv), .second, .unset, .unset, .unset, .unset, .unset] [(.int (0 : Int32))]))
  refine own_by (fun _ k => XS.istore X10.here hx rfl (hb hby d11_36) rfl (l' := #[.val (.ref a), .val (.int (0 : Int32)), .val (.int (0 : Int32)), .val (.long vv), .second, .val (.int (0 : Int32)), .unset, .unset, .unset, .unset]) rfl k) ?_
  show OEnds p e below s _ _ _ (T10.setTop (mkF m 38 #[.val (.ref a), .val (.int (0 : Int32)), .val (.int (0 : Int32)), .val (.long vv), .second, .val (.int (0 : Int32)), .unset, .unset, .unset, .unset] []))
  refine own_by (fun _ k => XS.aloadN X10.here hx rfl (hb hby d11_38) rfl rfl k) ?_
  show OEnds p e below s _ _ _ (T10.setTop (mkF m 39 #[.val (.ref a), .val (.int (0 : Int32)), .val (.int (0 : Int32)), .val (.long vv), .second, .val (.int (0 : Int32)), .unset, .unset, .unset, .unset] [(.ref a)]))
  refine own_by (fun _ k => XS.iload X10.here hx rfl (hb hby d11_39) rfl k) ?_
  show OEnds p e below s _ _ _ (T10.setTop (mkF m 41 #[.val (.ref a), .val (.int (0 : Int32)), .val (.int (0 : Int32)), .val (.long vv), .second, .val (.int (0 : Int32)), .unset, .unset, .unset, .unset] [(.int (0 : Int32)), (.ref a)]))
  refine own_by (fun _ k => XS.bipush X10.here hx rfl (hb hby d11_41) k) ?_
  show OEnds p e below s _ _ _ (T10.setTop (mkF m 43 #[.val (.ref a), .val (.int (0 : Int32)), .val (.int (0 : Int32)), .val (.long vv), .second, .val (.int (0 : Int32)), .unset, .unset, .unset, .unset] [(.int (8 : Int32)), (.int (0 : Int32)), (.ref a)]))
  refine own_by (fun _ k => XS.idiv X10.here hx rfl (hb hby d11_43) rfl (by decide) k) ?_
  show OEnds p e below s _ _ _ (T10.setTop (mkF m 44 #[.val (.ref a), .val (.int (0 : Int32)), .val (.int (0 : Int32)), .val (.long vv), .second, .val (.int (0 : Int32)), .unset, .unset, .unset, .unset] [(.int (0 : Int32)), (.ref a)]))
  refine own_by (fun _ k => XS.iload X10.here hx rfl (hb hby d11_44) rfl k) ?_
  show OEnds p e below s _ _ _ (T10.setTop (mkF m 46 #[.val (.ref a), .val (.int (0 : Int32)), .val (.int (0 : Int32)), .val (.long vv), .second, .val (.int (0 : Int32)), .unset, .unset, .unset, .unset] [(.int (0 : Int32)), (.int (0 : Int32)), (.ref a)]))
  refine own_by (fun _ k => XS.bipush X10.here hx rfl (hb hby d11_46) k) ?_
  show OEnds p e below s _ _ _ (T10.setTop (mkF m 48 #[.val (.ref a), .val (.int (0 : Int32)), .val (.int (0 : Int32)), .val (.long vv), .second, .val (.int (0 : Int32)), .unset, .unset, .unset, .unset] [(.int (8 : Int32)), (.int (0 : Int32)), (.int (0 : Int32)), (.ref a)]))
  refine own_by (fun _ k => iremM X10 hx rfl (hb hby d11_48) rfl (by decide) k) ?_
  show OEnds p e below s _ _ _ (T10.setTop (mkF m 49 #[.val (.ref a), .val (.int (0 : Int32)), .val (.int (0 : Int32)), .val (.long vv), .second, .val (.int (0 : Int32)), .unset, .unset, .unset, .unset] [(.int (0 : Int32)), (.int (0 : Int32)), (.ref a)]))
  refine own_by (fun _ k => XS.ifNo X10.here hx rfl (hb hby d11_49) rfl ((if0 _ _).trans (teq (by decide : (0 : Int32) = (0 : Int32))).2) k) ?_
  show OEnds p e below s _ _ _ (T10.setTop (mkF m 52 #[.val (.ref a), .val (.int (0 : Int32)), .val (.int (0 : Int32)), .val (.long vv), .second, .val (.int (0 : Int32)), .unset, .unset, .unset, .unset] [(.int (0 : Int32)), (.ref a)]))
  refine own_by (fun _ k => XS.iconst X10.here hx rfl (hb hby d11_52) k) ?_
  show OEnds p e below s _ _ _ (T10.setTop (mkF m 53 #[.val (.ref a), .val (.int (0 : Int32)), .val (.int (0 : Int32)), .val (.long vv), .second, .val (.int (0 : Int32)), .unset, .unset, .unset, .unset] [(.int (0 : Int32)), (.int (0 : Int32)), (.ref a)]))
  refine own_by (fun _ k => XS.goto X10.here hx rfl (pc0 := 53) (pc' := 57) rfl (hb hby d11_53) (by decide) (by decide) k) ?_
  show OEnds p e below s _ _ _ (T10.setTop (mkF m 57 #[.val (.ref a), .val (.int (0 : Int32)), .val (.int (0 : Int32)), .val (.long vv), .second, .val (.int (0 : Int32)), .unset, .unset, .unset, .unset] [(.int (0 : Int32)), (.int (0 : Int32)), (.ref a)]))
  refine own_by (fun _ k => XS.iadd X10.here hx rfl (hb hby d11_57) rfl k) ?_
  show OEnds p e below s _ _ _ (T10.setTop (mkF m 58 #[.val (.ref a), .val (.int (0 : Int32)), .val (.int (0 : Int32)), .val (.long vv), .second, .val (.int (0 : Int32)), .unset, .unset, .unset, .unset] [(.int (0 : Int32)), (.ref a)]))
  obtain ⟨T11, h11, X11, e11, W11, st11⟩ := putF X10 hx hZ hown (host := "") (Or.inl (hw _ (List.mem_of_getElem? (i := 91) rfl))) Via.refl e10 (O7.fld 18 rfl rfl) O7.exa (Or.inl (hw _ (List.mem_of_getElem? (i := 92) rfl))) (hw _ (List.mem_of_getElem? (i := 2) rfl)) (ty := .int) (by decide) rfl rfl (g := (mkF m 58 #[.val (.ref a), .val (.int (0 : Int32)), .val (.int (0 : Int32)), .val (.long vv), .second, .val (.int (0 : Int32)), .unset, .unset, .unset, .unset] [(.int (0 : Int32)), (.ref a)])) rfl rfl (hb hby d11_58)
  refine own_by (st11) ?_
  have O11 : Obj Z h11 a "com/example/graphweft/graphweft/RangeMaxTree" sch_rt [(.ref b1), (.ref b2), (.ref b3), (.ref b4), (.ref b5), (.ref b6), (.ref b7), (.int sz), (.int nc), (.int sc), (.int te), (.int ta), (.int se), (.int sa), (.int pn), (.long vv), (.int (0 : Int32)), (.int (0 : Int32)), (.int (0 : Int32))] := O7.set (so_sch_rt hw) W11 18 rfl (Nat.le_of_ble_eq_true rfl)
  have N11 := Fr.snoc X11 N7 g_a
  have Z11 : n0 ≤ h11.size := Nat.le_trans Z7 (Keep.of_wr W11).1
  have K11 : Keep h0 h11 [a] := K7.wr W11 (Or.inl (List.mem_of_getElem? (i := 0) rfl))
  show OEnds p e below s _ _ _ (T11.setTop (mkF m 61 #[.val (.ref a), .val (.int (0 : Int32)), .val (.int (0 : Int32)), .val (.long vv), .second, .val (.int (0 : Int32)), .unset, .unset, .unset, .unset] []))
  refine own_by (fun _ k => XS.aloadN X11.here hx rfl (hb hby d11_61) rfl rfl k) ?_
  show OEnds p e below s _ _ _ (T11.setTop (mkF m 62 #[.val (.ref a), .val (.int (0 : Int32)), .val (.int (0 : Int32)), .val (.long vv), .second, .val (.int (0 : Int32)), .unset, .unset, .unset, .unset] [(.ref a)]))
  refine own_by (fun _ k => XS.iconst X11.here hx rfl (hb hby d11_62) k) ?_
  show OEnds p e below s _ _ _ (T11.setTop (mkF m 63 #[.val (.ref a), .val (.int (0 : Int32)), .val (.int (0 : Int32)), .val (.long vv), .second, .val (.int (0 : Int32)), .unset, .unset, .unset, .unset] [(.int (0 : Int32)), (.ref a)]))
  obtain ⟨T12, h12, X12, e12, W12, st12⟩ := putF X11 hx hZ hown (host := "") (Or.inl (hw _ (List.mem_of_getElem? (i := 45) rfl))) Via.refl e11 (O11.fld 14 rfl rfl) O11.exa (Or.inl (hw _ (List.mem_of_getElem? (i := 46) rfl))) (hw _ (List.mem_of_getElem? (i := 2) rfl)) (ty := .int) (by decide) rfl rfl (g := (mkF m 63 #[.val (.ref a), .val (.int (0 : Int32)), .val (.int (0 : Int32)), .val (.long vv), .second, .val (.int (0 : Int32)), .unset, .unset, .unset, .unset] [(.int (0 : Int32)), (.ref a)])) rfl rfl (hb hby d11_63)
  refine own_by (st12) ?_
  have O12 : Obj Z h12 a "com/example/graphweft/graphweft/RangeMaxTree" sch_rt [(.ref b1), (.ref b2), (.ref b3), (.ref b4), (.ref b5), (.ref b6), (.ref b7), (.int sz), (.int nc), (.int sc), (.int te), (.int ta), (.int se), (.int sa), (.int (0 : Int32)), (.long vv), (.int (0 : Int32)), (.int (0 : Int32)), (.int (0 : Int32))] := O11.set (so_sch_rt hw) W12 14 rfl (Nat.le_of_ble_eq_true rfl)
  have N12 := Fr.snoc X12 N11 g_a
  have Z12 : n0 ≤ h12.size := Nat.le_trans Z11 (Keep.of_wr W12).1
  have K12 : Keep h0 h12 [a] := K11.wr W12 (Or.inl (List.mem_of_getElem? (i := 0) rfl))
  show OEnds p e below s _ _ _ (T12.setTop (mkF m 66 #[.val (.ref a), .val (.int (0 : Int32)), .val (.int (0 : Int32)), .val (.long vv), .second, .val (.int (0 : Int32)), .unset, .unset, .unset, .unset] []))
  refine own_by (fun _ k => XS.aloadN X12.here hx rfl (hb hby d11_66) rfl rfl k) ?_
  show OEnds p e below s _ _ _ (T12.setTop (mkF m 67 #[.val (.ref a), .val (.int (0 : Int32)), .val (.int (0 : Int32)), .val (.long vv), .second, .val (.int (0 : Int32)), .unset, .unset, .unset, .unset] [(.ref a)]))
  refine own_by (fun _ k => XS.aloadN X12.here hx rfl (hb hby d11_67) rfl rfl k) ?_
  show OEnds p e below s _ _ _ (T12.setTop (mkF m 68 #[.val (.ref a), .val (.int (0 : Int32)), .val (.int (0 : Int32)), .val (.long vv), .second, .val (.int (0 : Int32)), .unset, .unset, .unset, .unset] [(.ref a), (.ref a)]))
  refine own_by (fun _ k => XS.iconst X12.here hx rfl (hb hby d11_68) k) ?_
  show OEnds p e below s _ _ _ (T12.setTop (mkF m 69 #[.val (.ref a), .val (.int (0 : Int32)), .val (.int (0 : Int32)), .val (.long vv), .second, .val (.int (0 : Int32)), .unset, .unset, .unset, .unset] [(.int (0 : Int32)), (.ref a), (.ref a)]))
  refine own_by (fun _ k => XS.dupX1 X12.here hx rfl (hb hby d11_69) rfl rfl rfl k) ?_
  show OEnds p e below s _ _ _ (T12.setTop (mkF m 70 #[.val (.ref a), .val (.int (0 : Int32)), .val (.int (0 : Int32)), .val (.long vv), .second, .val (.int (0 : Int32)), .unset, .unset, .unset, .unset] [(.int (0 : Int32)), (.ref a), (.int (0 : Int32)), (.ref a)]))
  obtain ⟨T13, h13, X13, e13, W13, st13⟩ := putF X12 hx hZ hown (host := "") (Or.inl (hw _ (List.mem_of_getElem? (i := 41) rfl))) Via.refl e12 (O12.fld 12 rfl rfl) O12.exa (Or.inl (hw _ (List.mem_of_getElem? (i := 42) rfl))) (hw _ (List.mem_of_getElem? (i := 2) rfl)) (ty := .int) (by decide) rfl rfl (g := (mkF m 70 #[.val (.ref a), .val (.int (0 : Int32)), .val (.int (0 : Int32)), .val (.long vv), .second, .val (.int (0 : Int32)), .unset, .unset, .unset, .unset] [(.int (0 : Int32)), (.ref a), (.int (0 : Int32)), (.ref a)])) rfl rfl (hb hby d11_70)
  refine own_by (st13) ?_
  have O13 : Obj Z h13 a "com/example/graphweft/graphweft/RangeMaxTree" sch_rt [(.ref b1), (.ref b2), (.ref b3), (.ref b4), (.ref b5), (.ref b6), (.ref b7), (.int sz), (.int nc), (.int sc), (.int te), (.int ta), (.int (0 : Int32)), (.int sa), (.int (0 : Int32)), (.long vv), (.int (0 : Int32)), (.int (0 : Int32)), (.int (0 : Int32))] := O12.set (so_sch_rt hw) W13 12 rfl (Nat.le_of_ble_eq_true rfl)
  have N13 := Fr.snoc X13 N12 g_a
  have Z13 : n0 ≤ h13.size := Nat.le_trans Z12 (Keep.of_wr W13).1
  have K13 : Keep h0 h13 [a] := K12.wr W13 (Or.inl (List.mem_of_getElem? (i := 0) rfl))
  show OEnds p e below s _ _ _ (T13.setTop (mkF m 73 #[.val (.ref a), .val (.int (0 : Int32)), .val (.int (0 : Int32)), .val (.long vv), .second, .val (.int (0 : Int32)), .unset, .unset, .unset, .unset] [(.int (0 : Int32)), (.ref a)]))
  obtain ⟨T14, h14, X14, e14, W14, st14⟩ := putF X13 hx hZ hown (host := "") (Or.inl (hw _ (List.mem_of_getElem? (i := 43) rfl))) Via.refl e13 (O13.fld 13 rfl rfl) O13.exa (Or.inl (hw _ (List.mem_of_getElem? (i := 44) rfl))) (hw _ (List.mem_of_getElem? (i := 2) rfl)) (ty := .int) (by decide) rfl rfl (g := (mkF m 73 #[.val (.ref a), .val (.int (0 : Int32)), .val (.int (0 : Int32)), .val (.long vv), .second, .val (.int (0 : Int32)), .unset, .unset, .unset, .unset] [(.int (0 : Int32)), (.ref a)])) rfl rfl (hb hby d11_73)
  refine own_by (st14) ?_
  have O14 : Obj Z h14 a "com/example/graphweft/graphweft/RangeMaxTree" sch_rt [(.ref b1), (.ref b2), (.ref b3), (.ref b4), (.ref b5), (.ref b6), (.ref b7), (.int sz), (.int nc), (.int sc), (.int te), (.int ta), (.int (0 : Int32)), (.int (0 : Int32)), (.int (0 : Int32)), (.long vv), (.int (0 : Int32)), (.int (0 : Int32)), (.int (0 : Int32))] := O13.set (so_sch_rt hw) W14 13 rfl (Nat.le_of_ble_eq_true rfl)
  have N14 := Fr.snoc X14 N13 g_a
  have Z14 : n0 ≤ h14.size := Nat.le_trans Z13 (Keep.of_wr W14).1
  have K14 : Keep h0 h14 [a] := K13.wr W14 (Or.inl (List.mem_of_getElem? (i := 0) rfl))
  show OEnds p e below s _ _ _ (T14.setTop (mkF m 76 #[.val (.ref a), .val (.int (0 : Int32)), .val (.int (0 : Int32)), .val (.long vv), .second, .val (.int (0 : Int32)), .unset, .unset, .unset, .unset] []))
  refine own_by (fun _ k => XS.iloadN X14.here hx rfl (hb hby d11_76) rfl k) ?_
  show OEnds p e below s _ _ _ (T14.setTop (mkF m 77 #[.val (.ref a), .val (.int (0 : Int32)), .val (.int (0 : Int32)), .val (.long vv), .second, .val (.int (0 : Int32)), .unset, .unset, .unset, .unset] [(.int (0 : Int32))]))
  refine own_by (fun _ k => XS.aloadN X14.here hx rfl (hb hby d11_77) rfl rfl k) ?_
  show OEnds p e below s _ _ _ (T14.setTop (mkF m 78 #[.val (.ref a), .val (.int (0 : Int32)), .val (.int (0 : Int32)), .val (.long vv), .second, .val (.int (0 : Int32)), .unset, .unset, .unset, .unset] [(.ref a), (.int (0 : Int32))]))
  obtain ⟨T15, X15, e15, st15⟩ := getF X14 hx hZ hown (host := "") (Or.inl (hw _ (List.mem_of_getElem? (i := 87) rfl))) Via.refl e14 (O14.fld 16 rfl rfl) (g := (mkF m 78 #[.val (.ref a), .val (.int (0 : Int32)), .val (.int (0 : Int32)), .val (.long vv), .second, .val (.int (0 : Int32)), .unset, .unset, .unset, .unset] [(.ref a), (.int (0 : Int32))])) rfl rfl (hb hby d11_78)
  refine own_by (st15) ?_
  show OEnds p e below s _ _ _ (T15.setTop (mkF m 81 #[.val (.ref a), .val (.int (0 : Int32)), .val (.int (0 : Int32)), .val (.long vv), .second, .val (.int (0 : Int32)), .unset, .unset, .unset, .unset] [(.int (0 : Int32)), (.int (0 : Int32))]))
  refine own_by (fun _ k => XS.isub X15.here hx rfl (hb hby d11_81) rfl k) ?_
  show OEnds p e below s _ _ _ (T15.setTop (mkF m 82 #[.val (.ref a), .val (.int (0 : Int32)), .val (.int (0 : Int32)), .val (.long vv), .second, .val (.int (0 : Int32)), .unset, .unset, .unset, .unset] [(.int (0 : Int32))]))
  refine own_by (fun _ k => XS.bipush X15.here hx rfl (hb hby d11_82) k) ?_
  show OEnds p e below s _ _ _ (T15.setTop (mkF m 84 #[.val (.ref a), .val (.int (0 : Int32)), .val (.int (0 : Int32)), .val (.long vv), .second, .val (.int (0 : Int32)), .unset, .unset, .unset, .unset] [(.int (8 : Int32)), (.int (0 : Int32))]))
  refine own_by (fun _ k => XS.idiv X15.here hx rfl (hb hby d11_84) rfl (by decide) k) ?_
  show OEnds p e below s _ _ _ (T15.setTop (mkF m 85 #[.val (.ref a), .val (.int (0 : Int32)), .val (.int (0 : Int32)), .val (.long vv), .second, .val (.int (0 : Int32)), .unset, .unset, .unset, .unset] [(.int (0 : Int32))]))
  refine own_by (fun _ k => XS.istore X15.here hx rfl (hb hby d11_85) rfl (l' := #[.val (.ref a), .val (.int (0 : Int32)), .val (.int (0 : Int32)), .val (.long vv), .second, .val (.int (0 : Int32)), .val (.int (0 : Int32)), .unset, .unset, .unset]) rfl k) ?_
  show OEnds p e below s _ _ _ (T15.setTop (mkF m 87 #[.val (.ref a), .val (.int (0 : Int32)), .val (.int (0 : Int32)), .val (.long vv), .second, .val (.int (0 : Int32)), .val (.int (0 : Int32)), .unset, .unset, .unset] []))
  refine own_by (fun _ k => XS.aloadN X15.here hx rfl (hb hby d11_87) rfl rfl k) ?_
  show OEnds p e below s _ _ _ (T15.setTop (mkF m 88 #[.val (.ref a), .val (.int (0 : Int32)), .val (.int (0 : Int32)), .val (.long vv), .second, .val (.int (0 : Int32)), .val (.int (0 : Int32)), .unset, .unset, .unset] [(.ref a)]))
  refine own_by (fun _ k => XS.aloadN X15.here hx rfl (hb hby d11_88) rfl rfl k) ?_
  show OEnds p e below s _ _ _ (T15.setTop (mkF m 89 #[.val (.ref a), .val (.int (0 : Int32)), .val (.int (0 : Int32)), .val (.long vv), .second, .val (.int (0 : Int32)), .val (.int (0 : Int32)), .unset, .unset, .unset] [(.ref a), (.ref a)]))
  obtain ⟨T16, X16, e16, st16⟩ := getF X15 hx hZ hown (host := "") (Or.inl (hw _ (List.mem_of_getElem? (i := 87) rfl))) Via.refl e15 (O14.fld 16 rfl rfl) (g := (mkF m 89 #[.val (.ref a), .val (.int (0 : Int32)), .val (.int (0 : Int32)), .val (.long vv), .second, .val (.int (0 : Int32)), .val (.int (0 : Int32)), .unset, .unset, .unset] [(.ref a), (.ref a)])) rfl rfl (hb hby d11_89)
  refine own_by (st16) ?_
  show OEnds p e below s _ _ _ (T16.setTop (mkF m 92 #[.val (.ref a), .val (.int (0 : Int32)), .val (.int (0 : Int32)), .val (.long vv), .second, .val (.int (0 : Int32)), .val (.int (0 : Int32)), .unset, .unset, .unset] [(.int (0 : Int32)), (.ref a)]))
  refine own_by (fun _ k => XS.iload X16.here hx rfl (hb hby d11_92) rfl k) ?_
  show OEnds p e below s _ _ _ (T16.setTop (mkF m 94 #[.val (.ref a), .val (.int (0 : Int32)), .val (.int (0 : Int32)), .val (.long vv), .second, .val (.int (0 : Int32)), .val (.int (0 : Int32)), .unset, .unset, .unset] [(.int (0 : Int32)), (.int (0 : Int32)), (.ref a)]))
  refine own_by (fun _ k => XS.bipush X16.here hx rfl (hb hby d11_94) k) ?_
  show OEnds p e below s _ _ _ (T16.setTop (mkF m 96 #[.val (.ref a), .val (.int (0 : Int32)), .val (.int (0 : Int32)), .val (.long vv), .second, .val (.int (0 : Int32)), .val (.int (0 : Int32)), .unset, .unset, .unset] [(.int (8 : Int32)), (.int (0 : Int32)), (.int (0 : Int32)), (.ref a)]))
  refine own_by (fun _ k => XS.imul X16.here hx rfl (hb hby d11_96) rfl k) ?_
  show OEnds p e below s _ _ _ (T16.setTop (mkF m 97 #[.val (.ref a), .val (.int (0 : Int32)), .val (.int (0 : Int32)), .val (.long vv), .second, .val (.int (0 : Int32)), .val (.int (0 : Int32)), .unset, .unset, .unset] [(.int (0 : Int32)), (.int (0 : Int32)), (.ref a)]))
  refine own_by (fun _ k => XS.iadd X16.here hx rfl (hb hby d11_97) rfl k) ?_
  show OEnds p e below s _ _ _ (T16.setTop (mkF m 98 #[.val (.ref a), .val (.int (0 : Int32)), .val (.int (0 : Int32)), .val (.long vv), .second, .val (.int (0 : Int32)), .val (.int (0 : Int32)), .unset, .unset, .unset] [(.int (0 : Int32)), (.ref a)]))
  obtain ⟨T17, h17, X17, e17, W17, st17⟩ := putF X16 hx hZ hown (host := "") (Or.inl (hw _ (List.mem_of_getElem? (i := 39) rfl))) Via.refl e16 (O14.fld 11 rfl rfl) O14.exa (Or.inl (hw _ (List.mem_of_getElem? (i := 40) rfl))) (hw _ (List.mem_of_getElem? (i := 2) rfl)) (ty := .int) (by decide) rfl rfl (g := (mkF m 98 #[.val (.ref a), .val (.int (0 : Int32)), .val (.int (0 : Int32)), .val (.long vv), .second, .val (.int (0 : Int32)), .val (.int (0 : Int32)), .unset, .unset, .unset] [(.int (0 : Int32)), (.ref a)])) rfl rfl (hb hby d11_98)
  refine own_by (st17) ?_
  have O17 : Obj Z h17 a "com/example/graphweft/graphweft/RangeMaxTree" sch_rt [(.ref b1), (.ref b2), (.ref b3), (.ref b4), (.ref b5), (.ref b6), (.ref b7), (.int sz), (.int nc), (.int sc), (.int te), (.int (0 : Int32)), (.int (0 : Int32)), (.int (0 : Int32)), (.int (0 : Int32)), (.long vv), (.int (0 : Int32)), (.int (0 : Int32)), (.int (0 : Int32))] := O14.set (so_sch_rt hw) W17 11 rfl (Nat.le_of_ble_eq_true rfl)
  have N17 := Fr.snoc X17 N14 g_a
  have Z17 : n0 ≤ h17.size := Nat.le_trans Z14 (Keep.of_wr W17).1
  have K17 : Keep h0 h17 [a] := K14.wr W17 (Or.inl (List.mem_of_getElem? (i := 0) rfl))
  show OEnds p e below s _ _ _ (T17.setTop (mkF m 101 #[.val (.ref a), .val (.int (0 : Int32)), .val (.int (0 : Int32)), .val (.long vv), .second, .val (.int (0 : Int32)), .val (.int (0 : Int32)), .unset, .unset, .unset] []))
  refine own_by (fun _ k => XS.aloadN X17.here hx rfl (hb hby d11_101) rfl rfl k) ?_
  show OEnds p e below s _ _ _ (T17.setTop (mkF m 102 #[.val (.ref a), .val (.int (0 : Int32)), .val (.int (0 : Int32)), .val (.long vv), .second, .val (.int (0 : Int32)), .val (.int (0 : Int32)), .unset, .unset, .unset] [(.ref a)]))
  refine own_by (fun _ k => XS.iloadN X17.here hx rfl (hb hby d11_102) rfl k) ?_
  show OEnds p e below s _ _ _ (T17.setTop (mkF m 103 #[.val (.ref a), .val (.int (0 : Int32)), .val (.int (0 : Int32)), .val (.long vv), .second, .val (.int (0 : Int32)), .val (.int (0 : Int32)), .unset, .unset, .unset] [(.int (0 : Int32)), (.ref a)]))
  obtain ⟨T18, h18, X18, e18, W18, st18⟩ := putF X17 hx hZ hown (host := "") (Or.inl (hw _ (List.mem_of_getElem? (i := 37) rfl))) Via.refl e17 (O17.fld 10 rfl rfl) O17.exa (Or.inl (hw _ (List.mem_of_getElem? (i := 38) rfl))) (hw _ (List.mem_of_getElem? (i := 2) rfl)) (ty := .int) (by decide) rfl rfl (g := (mkF m 103 #[.val (.ref a), .val (.int (0 : Int32)), .val (.int (0 : Int32)), .val (.long vv), .second, .val (.int (0 : Int32)), .val (.int (0 : Int32)), .unset, .unset, .unset] [(.int (0 : Int32)), (.ref a)])) rfl rfl (hb hby d11_103)
  refine own_by (st18) ?_
  have O18 : Obj Z h18 a "com/example/graphweft/graphweft/RangeMaxTree" sch_rt [(.ref b1), (.ref b2), (.ref b3), (.ref b4), (.ref b5), (.ref b6), (.ref b7), (.int sz), (.int nc), (.int sc), (.int (0 : Int32)), (.int (0 : Int32)), (.int (0 : Int32)), (.int (0 : Int32)), (.int (0 : Int32)), (.long vv), (.int (0 : Int32)), (.int (0 : Int32)), (.int (0 : Int32))] := O17.set (so_sch_rt hw) W18 10 rfl (Nat.le_of_ble_eq_true rfl)
  have N18 := Fr.snoc X18 N17 g_a
  have Z18 : n0 ≤ h18.size := Nat.le_trans Z17 (Keep.of_wr W18).1
  have K18 : Keep h0 h18 [a] := K17.wr W18 (Or.inl (List.mem_of_getElem? (i := 0) rfl))
  show OEnds p e below s _ _ _ (T18.setTop (mkF m 106 #[.val (.ref a), .val (.int (0 : Int32)), .val (.int (0 : Int32)), .val (.long vv), .second, .val (.int (0 : Int32)), .val (.int (0 : Int32)), .unset, .unset, .unset] []))
  refine own_by (fun _ k => XS.iconst X18.here hx rfl (hb hby d11_106) k) ?_
  show OEnds p e below s _ _ _ (T18.setTop (mkF m 107 #[.val (.ref a), .val (.int (0 : Int32)), .val (.int (0 : Int32)), .val (.long vv), .second, .val (.int (0 : Int32)), .val (.int (0 : Int32)), .unset, .unset, .unset] [(.int (0 : Int32))]))
  refine own_by (fun _ k => XS.istore X18.here hx rfl (hb hby d11_107) rfl (l' := #[.val (.ref a), .val (.int (0 : Int32)), .val (.int (0 : Int32)), .val (.long vv), .second, .val (.int (0 : Int32)), .val (.int (0 : Int32)), .val (.int (0 : Int32)), .unset, .unset]) rfl k) ?_
  show OEnds p e below s _ _ _ (T18.setTop (mkF m 109 #[.val (.ref a), .val (.int (0 : Int32)), .val (.int (0 : Int32)), .val (.long vv), .second, .val (.int (0 : Int32)), .val (.int (0 : Int32)), .val (.int (0 : Int32)), .unset, .unset] []))
  refine own_by (fun _ k => XS.aloadN X18.here hx rfl (hb hby d11_109) rfl rfl k) ?_
  show OEnds p e below s _ _ _ (T18.setTop (mkF m 110 #[.val (.ref a), .val (.int (0 : Int32)), .val (.int (0 : Int32)), .val (.long vv), .second, .val (.int (0 : Int32)), .val (.int (0 : Int32)), .val (.int (0 : Int32)), .unset, .unset] [(.ref a)]))
  obtain ⟨T19, X19, e19, st19⟩ := getF X18 hx hZ hown (host := "") (Or.inl (hw _ (List.mem_of_getElem? (i := 91) rfl))) Via.refl e18 (O18.fld 18 rfl rfl) (g := (mkF m 110 #[.val (.ref a), .val (.int (0 : Int32)), .val (.int (0 : Int32)), .val (.long vv), .second, .val (.int (0 : Int32)), .val (.int (0 : Int32)), .val (.int (0 : Int32)), .unset, .unset] [(.ref a)])) rfl rfl (hb hby d11_110)
  refine own_by (st19) ?_
  show OEnds p e below s _ _ _ (T19.setTop (mkF m 113 #[.val (.ref a), .val (.int (0 : Int32)), .val (.int (0 : Int32)), .val (.long vv), .second, .val (.int (0 : Int32)), .val (.int (0 : Int32)), .val (.int (0 : Int32)), .unset, .unset] [(.int (0 : Int32))]))
  refine own_by (fun _ k => XS.istore X19.here hx rfl (hb hby d11_113) rfl (l' := #[.val (.ref a), .val (.int (0 : Int32)), .val (.int (0 : Int32)), .val (.long vv), .second, .val (.int (0 : Int32)), .val (.int (0 : Int32)), .val (.int (0 : Int32)), .val (.int (0 : Int32)), .unset]) rfl k) ?_
  show OEnds p e below s _ _ _ (T19.setTop (mkF m 115 #[.val (.ref a), .val (.int (0 : Int32)), .val (.int (0 : Int32)), .val (.long vv), .second, .val (.int (0 : Int32)), .val (.int (0 : Int32)), .val (.int (0 : Int32)), .val (.int (0 : Int32)), .unset] []))
  refine own_by (fun _ k => XS.iload X19.here hx rfl (hb hby d11_115) rfl k) ?_
  show OEnds p e below s _ _ _ (T19.setTop (mkF m 117 #[.val (.ref a), .val (.int (0 : Int32)), .val (.int (0 : Int32)), .val (.long vv), .second, .val (.int (0 : Int32)), .val (.int (0 : Int32)), .val (.int (0 : Int32)), .val (.int (0 : Int32)), .unset] [(.int (0 : Int32))]))
  refine own_by (fun _ k => XS.aloadN X19.here hx rfl (hb hby d11_117) rfl rfl k) ?_
  show OEnds p e below s _ _ _ (T19.setTop (mkF m 118 #[.val (.ref a), .val (.int (0 : Int32)), .val (.int (0 : Int32)), .val (.long vv), .second, .val (.int (0 : Int32)), .val (.int (0 : Int32)), .val (.int (0 : Int32)), .val (.int (0 : Int32)), .unset] [(.ref a), (.int (0 : Int32))]))
  obtain ⟨T20, X20, e20, st20⟩ := getF X19 hx hZ hown (host := "") (Or.inl (hw _ (List.mem_of_getElem? (i := 91) rfl))) Via.refl e19 (O18.fld 18 rfl rfl) (g := (mkF m 118 #[.val (.ref a), .val (.int (0 : Int32)), .val (.int (0 : Int32)), .val (.long vv), .second, .val (.int (0 : Int32)), .val (.int (0 : Int32)), .val (.int (0 : Int32)), .val (.int (0 : Int32)), .unset] [(.ref a), (.int (0 : Int32))])) rfl rfl (hb hby d11_118)
  refine own_by (st20) ?_
  show OEnds p e below s _ _ _ (T20.setTop (mkF m 121 #[.val (.ref a), .val (.int (0 : Int32)), .val (.int (0 : Int32)), .val (.long vv), .second, .val (.int (0 : Int32)), .val (.int (0 : Int32)), .val (.int (0 : Int32)), .val (.int (0 : Int32)), .unset] [(.int (0 : Int32)), (.int (0 : Int32))]))
  refine own_by (fun _ k => XS.iadd X20.here hx rfl (hb hby d11_121) rfl k) ?_
  show OEnds p e below s _ _ _ (T20.setTop (mkF m 122 #[.val (.ref a), .val (.int (0 : Int32)), .val (.int (0 : Int32)), .val (.long vv), .second, .val (.int (0 : Int32)), .val (.int (0 : Int32)), .val (.int (0 : Int32)), .val (.int (0 : Int32)), .unset] [(.int (0 : Int32))]))
  refine own_by (fun _ k => XS.istore X20.here hx rfl (hb hby d11_122) rfl (l' := #[.val (.ref a), .val (.int (0 : Int32)), .val (.int (0 : Int32)), .val (.long vv), .second, .val (.int (0 : Int32)), .val (.int (0 : Int32)), .val (.int (0 : Int32)), .val (.int (0 : Int32)), .val (.int (0 : Int32))]) rfl k) ?_
  show OEnds p e below s _ _ _ (T20.setTop (mkF m 124 #[.val (.ref a), .val (.int (0 : Int32)), .val (.int (0 : Int32)), .val (.long vv), .second, .val (.int (0 : Int32)), .val (.int (0 : Int32)), .val (.int (0 : Int32)), .val (.int (0 : Int32)), .val (.int (0 : Int32))] []))
  refine own_by (fun _ k => XS.iload X20.here hx rfl (hb hby d11_124) rfl k) ?_
  show OEnds p e below s _ _ _ (T20.setTop (mkF m 126 #[.val (.ref a), .val (.int (0 : Int32)), .val (.int (0 : Int32)), .val (.long vv), .second, .val (.int (0 : Int32)), .val (.int (0 : Int32)), .val (.int (0 : Int32)), .val (.int (0 : Int32)), .val (.int (0 : Int32))] [(.int (0 : Int32))]))
  refine own_by (fun _ k => XS.iload X20.here hx rfl (hb hby d11_126) rfl k) ?_
  show OEnds p e below s _ _ _ (T20.setTop (mkF m 128 #[.val (.ref a), .val (.int (0 : Int32)), .val (.int (0 : Int32)), .val (.long vv), .second, .val (.int (0 : Int32)), .val (.int (0 : Int32)), .val (.int (0 : Int32)), .val (.int (0 : Int32)), .val (.int (0 : Int32))] [(.int (0 : Int32)), (.int (0 : Int32))]))
  refine own_by (fun _ k => XS.icmpYes X20.here hx rfl (pc0 := 128) (pc' := 198) rfl (hb hby d11_128) rfl (flt (by decide : ¬ ((0 : Int32) < (0 : Int32)))).2.1 (by decide) (by decide) k) ?_
  show OEnds p e below s _ _ _ (T20.setTop (mkF m 198 #[.val (.ref a), .val (.int (0 : Int32)), .val (.int (0 : Int32)), .val (.long vv), .second, .val (.int (0 : Int32)), .val (.int (0 : Int32)), .val (.int (0 : Int32)), .val (.int (0 : Int32)), .val (.int (0 : Int32))] []))
  refine own_by (fun _ k => XS.iload X20.here hx rfl (hb hby d11_198) rfl k) ?_
  show OEnds p e below s _ _ _ (T20.setTop (mkF m 200 #[.val (.ref a), .val (.int (0 : Int32)), .val (.int (0 : Int32)), .val (.long vv), .second, .val (.int (0 : Int32)), .val (.int (0 : Int32)), .val (.int (0 : Int32)), .val (.int (0 : Int32)), .val (.int (0 : Int32))] [(.int (0 : Int32))]))
  refine own_by (fun _ k => XS.ifYes X20.here hx rfl (pc0 := 200) (pc' := 232) rfl (hb hby d11_200) rfl ((if0 _ _).trans (flt (by decide : ¬ ((0 : Int32) < (0 : Int32)))).2.2.2) (by decide) (by decide) k) ?_
  show OEnds p e below s _ _ _ (T20.setTop (mkF m 232 #[.val (.ref a), .val (.int (0 : Int32)), .val (.int (0 : Int32)), .val (.long vv), .second, .val (.int (0 : Int32)), .val (.int (0 : Int32)), .val (.int (0 : Int32)), .val (.int (0 : Int32)), .val (.int (0 : Int32))] []))
  exact own_retV X20 hx hlk Bd.returns (hb hby d11_232) (by rw [e20]; exact ⟨rfl, N18, K18, O18⟩) (by decide) (by decide)
theorem d11_56 : decode prog_32_method_8_code 56 = .ok (.iconst 1, 1) := by decide +kernel
def Q_find_1 (Z : State) (a : Addr) (vv : Int64) (b1 : Addr) (b2 : Addr) (b3 : Addr) (b4 : Addr) (b5 : Addr) (b6 : Addr) (b7 : Addr) (sz : Int32) (nc : Int32) (sc : Int32) (te : Int32) (ta : Int32) (se : Int32) (sa : Int32) (pn : Int32) (bd : Int64) (ss : Int32) (bs : Int32) (bc : Int32) (g3 : Nat → Int32) (g4 : Nat → Int32) (g5 : Nat → Int32) (h0 : Heap) (n0 : Nat) (r : Option Value) (h : Heap) (L : List Loc) : Prop := r = none ∧ Fr n0 L ∧ Keep h0 h [a] ∧ Obj Z h a "com/example/graphweft/graphweft/RangeMaxTree" sch_rt [(.ref b1), (.ref b2), (.ref b3), (.ref b4), (.ref b5), (.ref b6), (.ref b7), (.int sz), (.int nc), (.int sc), (.int (1 : Int32)), (.int (0 : Int32)), (.int (0 : Int32)), (.int (0 : Int32)), (.int (0 : Int32)), (.long vv), (.int (0 : Int32)), (.int (0 : Int32)), (.int (1 : Int32))]
set_option maxRecDepth 65536 in
set_option maxHeartbeats 40000000 in
theorem rm_find_1 (l : Launch) (Z : State) (a0 : Array Value) (hw : ∀ d ∈ tables_1, d.before a0 Z = true) (ws : List Jvm.Cond) (a : Addr) (vv : Int64) (b1 : Addr) (b2 : Addr) (b3 : Addr) (b4 : Addr) (b5 : Addr) (b6 : Addr) (b7 : Addr) (sz : Int32) (nc : Int32) (sc : Int32) (te : Int32) (ta : Int32) (se : Int32) (sa : Int32) (pn : Int32) (bd : Int64) (ss : Int32) (bs : Int32) (bc : Int32) (g3 : Nat → Int32) (g4 : Nat → Int32) (g5 : Nat → Int32) (h0 : Heap) (n0 : Nat) (Z0 : n0 ≤ h0.size) (O0 : Obj Z h0 a "com/example/graphweft/graphweft/RangeMaxTree" sch_rt [(.ref b1), (.ref b2), (.ref b3), (.ref b4), (.ref b5), (.ref b6), (.ref b7), (.int sz), (.int nc), (.int sc), (.int te), (.int ta), (.int se), (.int sa), (.int pn), (.long bd), (.int ss), (.int bs), (.int bc)]) (F_b3 : FA Z h0 b3 .int 16 (fun i => .int (g3 i))) (F_b4 : FA Z h0 b4 .int 16 (fun i => .int (g4 i))) (F_b5 : FA Z h0 b5 .int 16 (fun i => .int (g5 i))) (g_a : n0 ≤ a) (hord : @LT.lt Nat instLTNat a b1 ∧ @LT.lt Nat instLTNat b1 b2 ∧ @LT.lt Nat instLTNat b2 b3 ∧ @LT.lt Nat instLTNat b3 b4 ∧ @LT.lt Nat instLTNat b4 b5 ∧ @LT.lt Nat instLTNat b5 b6 ∧ @LT.lt Nat instLTNat b6 b7) (hs : g3 0 = (0 : Int32)) (he : g4 0 = (1 : Int32)) (hbb : g5 0 = (0 : Int32)) :
    MetFree l (⟨"com/example/graphweft/graphweft/RangeMaxTree", "find", "(IIJ)V"⟩ : MethodName) (head1 (Jvm.Cond.code (⟨"com/example/graphweft/graphweft/RangeMaxTree", "find", "(IIJ)V"⟩ : MethodName) prog_32_method_8_code 10 none :: ws) ({ frames := 0, cells := 0, slots := 0, locals := 0 } : Room)) (fun a_ U => a_ = #[(.ref a), (.int (0 : Int32)), (.int (1 : Int32)), (.long vv)] ∧ Z.Warmed39 U.vm ∧ U.heap = h0) (fun _ _ _ _ _ => True) (fun _ U o U' => ∃ v_ L_, o = .returned v_ ∧ Q_find_1 Z a vv b1 b2 b3 b4 b5 b6 b7 sz nc sc te ta se sa pn bd ss bs bc g3 g4 g5 h0 n0 v_ U'.heap L_ ∧ FrameEnd U o U' L_ ({ frames := 0, cells := 0, slots := 0, locals := 0 } : Room).cells ({ frames := 0, cells := 0, slots := 0, locals := 0 } : Room).slots) := by
  refine MetFree.of_bodySF (plainFor_of_name pn_11) hisR ?_
  intro p e s m args below meth c s₁ Bd hml0 hP hK
  obtain ⟨rfl, hZ, hh⟩ := hP
  have hx := Bd.exec
  have hby := Bd.bytes
  have hlk : meth.locks = false := Bd.notSynchronized
  have hml : c.maxLocals = 10 := hml0
  have hown : s.vm.findClass "com/example/graphweft/graphweft/RangeMaxTree" = some m.cls := findClass_of_methodNamed Bd.named
  have hnm := (name_of_methodNamed Bd.named Bd.method).1
  have X0 : Stand p l e ({ frames := 0, cells := 0, slots := 0, locals := 0 } : Room) s m #[(.ref a), (.int (0 : Int32)), (.int (1 : Int32)), (.long vv)] below meth c s₁ [] 0 0 := Stand.of_body Bd
  have e0 : s₁.heap = h0 := by rw [← hh, Bd.state]; rfl
  have N0 := Fr.nil n0
  have K0 : Keep h0 h0 [a] := Keep.refl _ _
  show OEnds p e below s (Q_find_1 Z a vv b1 b2 b3 b4 b5 b6 b7 sz nc sc te ta se sa pn bd ss bs bc g3 g4 g5 h0 n0) _ _ _
  refine own_by (fun t k => castTop (ef_11 m a (0 : Int32) (1 : Int32) vv) k) ?_
  show OEnds p e below s _ _ _ (s₁.setTop (mkF m 0 #[.val (.ref a), .val (.int (0 : Int32)), .val (.int (1 : Int32)), .val (.long vv), .second, .unset, .unset, .unset, .unset, .unset] []))
  refine own_by (fun _ k => XS.aloadN X0.here hx rfl (hb hby d11_0) rfl rfl k) ?_
  show OEnds p e below s _ _ _ (s₁.setTop (mkF m 1 #[.val (.ref a), .val (.int (0 : Int32)), .val (.int (1 : Int32)), .val (.long vv), .second, .unset, .unset, .unset, .unset, .unset] [(.ref a)]))
  refine own_by (fun _ k => XS.lloadN X0.here hx rfl (hb hby d11_1) rfl k) ?_
  show OEnds p e below s _ _ _ (s₁.setTop (mkF m 2 #[.val (.ref a), .val (.int (0 : Int32)), .val (.int (1 : Int32)), .val (.long vv), .second, .unset, .unset, .unset, .unset, .unset] [(.long vv), (.ref a)]))
  obtain ⟨T1, h1, X1, e1, W1, st1⟩ := putF X0 hx hZ hown (host := "") (Or.inl (hw _ (List.mem_of_getElem? (i := 85) rfl))) Via.refl e0 (O0.fld 15 rfl rfl) O0.exa (Or.inl (hw _ (List.mem_of_getElem? (i := 86) rfl))) (hw _ (List.mem_of_getElem? (i := 2) rfl)) (ty := .long) (by decide) rfl rfl (g := (mkF m 2 #[.val (.ref a), .val (.int (0 : Int32)), .val (.int (1 : Int32)), .val (.long vv), .second, .unset, .unset, .unset, .unset, .unset] [(.long vv), (.ref a)])) rfl rfl (hb hby d11_2)
  refine own_by (st1) ?_
  have O1 : Obj Z h1 a "com/example/graphweft/graphweft/RangeMaxTree" sch_rt [(.ref b1), (.ref b2), (.ref b3), (.ref b4), (.ref b5), (.ref b6), (.ref b7), (.int sz), (.int nc), (.int sc), (.int te), (.int ta), (.int se), (.int sa), (.int pn), (.long vv), (.int ss), (.int bs), (.int bc)] := O0.set (so_sch_rt hw) W1 15 rfl (Nat.le_of_ble_eq_true rfl)
  have N1 := Fr.snoc X1 N0 g_a
  have Z1 : n0 ≤ h1.size := Nat.le_trans Z0 (Keep.of_wr W1).1
  have K1 : Keep h0 h1 [a] := K0.wr W1 (Or.inl (List.mem_of_getElem? (i := 0) rfl))
  show OEnds p e below s _ _ _ (T1.setTop (mkF m 5 #[.val (.ref a), .val (.int (0 : Int32)), .val (.int (1 : Int32)), .val (.long vv), .second, .unset, .unset, .unset, .unset, .unset] []))
  refine own_by (fun _ k => XS.aloadN X1.here hx rfl (hb hby d11_5) rfl rfl k) ?_
  show OEnds p e below s _ _ _ (T1.setTop (mkF m 6 #[.val (.ref a), .val (.int (0 : Int32)), .val (.int (1 : Int32)), .val (.long vv), .second, .unset, .unset, .unset, .unset, .unset] [(.ref a)]))
  refine own_by (fun _ k => XS.aloadN X1.here hx rfl (hb hby d11_6) rfl rfl k) ?_
  show OEnds p e below s _ _ _ (T1.setTop (mkF m 7 #[.val (.ref a), .val (.int (0 : Int32)), .val (.int (1 : Int32)), .val (.long vv), .second, .unset, .unset, .unset, .unset, .unset] [(.ref a), (.ref a)]))
  obtain ⟨T2, X2, e2, st2⟩ := getF X1 hx hZ hown (host := "") (Or.inl (hw _ (List.mem_of_getElem? (i := 16) rfl))) Via.refl e1 (O1.fld 2 rfl rfl) (g := (mkF m 7 #[.val (.ref a), .val (.int (0 : Int32)), .val (.int (1 : Int32)), .val (.long vv), .second, .unset, .unset, .unset, .unset, .unset] [(.ref a), (.ref a)])) rfl rfl (hb hby d11_7)
  refine own_by (st2) ?_
  show OEnds p e below s _ _ _ (T2.setTop (mkF m 10 #[.val (.ref a), .val (.int (0 : Int32)), .val (.int (1 : Int32)), .val (.long vv), .second, .unset, .unset, .unset, .unset, .unset] [(.ref b3), (.ref a)]))
  refine own_by (fun _ k => XS.iloadN X2.here hx rfl (hb hby d11_10) rfl k) ?_
  show OEnds p e below s _ _ _ (T2.setTop (mkF m 11 #[.val (.ref a), .val (.int (0 : Int32)), .val (.int (1 : Int32)), .val (.long vv), .second, .unset, .unset, .unset, .unset, .unset] [(.int (0 : Int32)), (.ref b3), (.ref a)]))
  have F3 : FA Z h1 b3 .int 16 (fun i => .int (g3 i)) := (F_b3.other W1 (Ne.symm (Nat.ne_of_lt (by omega))))
  refine own_by (own_iaload X2 hx hZ e2 F3 0 (by decide) (by decide) (congrArg Value.int hs) (g := (mkF m 11 #[.val (.ref a), .val (.int (0 : Int32)), .val (.int (1 : Int32)), .val (.long vv), .second, .unset, .unset, .unset, .unset, .unset] [(.int (0 : Int32)), (.ref b3), (.ref a)])) rfl rfl (hb hby d11_11)) ?_
  show OEnds p e below s _ _ _ (T2.setTop (mkF m 12 #[.val (.ref a), .val (.int (0 : Int32)), .val (.int (1 : Int32)), .val (.long vv), .second, .unset, .unset, .unset, .unset, .unset] [(.int (0 : Int32)), (.ref a)]))
  obtain ⟨T4, h4, X4, e4, W4, st4⟩ := putF X2 hx hZ hown (host := "") (Or.inl (hw _ (List.mem_of_getElem? (i := 87) rfl))) Via.refl e2 (O1.fld 16 rfl rfl) O1.exa (Or.inl (hw _ (List.mem_of_getElem? (i := 88) rfl))) (hw _ (List.mem_of_getElem? (i := 2) rfl)) (ty := .int) (by decide) rfl rfl (g := (mkF m 12 #[.val (.ref a), .val (.int (0 : Int32)), .val (.int (1 : Int32)), .val (.long vv), .second, .unset, .unset, .unset, .unset, .unset] [(.int (0 : Int32)), (.ref a)])) rfl rfl (hb hby d11_12)
  refine own_by (st4) ?_
  have O4 : Obj Z h4 a "com/example/graphweft/graphweft/RangeMaxTree" sch_rt [(.ref b1), (.ref b2), (.ref b3), (.ref b4), (.ref b5), (.ref b6), (.ref b7), (.int sz), (.int nc), (.int sc), (.int te), (.int ta), (.int se), (.int sa), (.int pn), (.long vv), (.int (0 : Int32)), (.int bs), (.int bc)] := O1.set (so_sch_rt hw) W4 16 rfl (Nat.le_of_ble_eq_true rfl)
  have N4 := Fr.snoc X4 N1 g_a
  have Z4 : n0 ≤ h4.size := Nat.le_trans Z1 (Keep.of_wr W4).1
  have K4 : Keep h0 h4 [a] := K1.wr W4 (Or.inl (List.mem_of_getElem? (i := 0) rfl))
  show OEnds p e below s _ _ _ (T4.setTop (mkF m 15 #[.val (.ref a), .val (.int (0 : Int32)), .val (.int (1 : Int32)), .val (.long vv), .second, .unset, .unset, .unset, .unset, .unset] []))
  refine own_by (fun _ k => XS.aloadN X4.here hx rfl (hb hby d11_15) rfl rfl k) ?_
  show OEnds p e below s _ _ _ (T4.setTop (mkF m 16 #[.val (.ref a), .val (.int (0 : Int32)), .val (.int (1 : Int32)), .val (.long vv), .second, .unset, .unset, .unset, .unset, .unset] [(.ref a)]))
  refine own_by (fun _ k => XS.aloadN X4.here hx rfl (hb hby d11_16) rfl rfl k) ?_
  show OEnds p e below s _ _ _ (T4.setTop (mkF m 17 #[.val (.ref a), .val (.int (0 : Int32)), .val (.int (1 : Int32)), .val (.long vv), .second, .unset, .unset, .unset, .unset, .unset] [(.ref a), (.ref a)]))
  obtain ⟨T5, X5, e5, st5⟩ := getF X4 hx hZ hown (host := "") (Or.inl (hw _ (List.mem_of_getElem? (i := 20) rfl))) Via.refl e4 (O4.fld 4 rfl rfl) (g := (mkF m 17 #[.val (.ref a), .val (.int (0 : Int32)), .val (.int (1 : Int32)), .val (.long vv), .second, .unset, .unset, .unset, .unset, .unset] [(.ref a), (.ref a)])) rfl rfl (hb hby d11_17)
  refine own_by (st5) ?_
  show OEnds p e below s _ _ _ (T5.setTop (mkF m 20 #[.val (.ref a), .val (.int (0 : Int32)), .val (.int (1 : Int32)), .val (.long vv), .second, .unset, .unset, .unset, .unset, .unset] [(.ref b5), (.ref a)]))
  refine own_by (fun _ k => XS.iloadN X5.here hx rfl (hb hby d11_20) rfl k) ?_
  show OEnds p e below s _ _ _ (T5.setTop (mkF m 21 #[.val (.ref a), .val (.int (0 : Int32)), .val (.int (1 : Int32)), .val (.long vv), .second, .unset, .unset, .unset, .unset, .unset] [(.int (0 : Int32)), (.ref b5), (.ref a)]))
  have F6 : FA Z h4 b5 .int 16 (fun i => .int (g5 i)) := ((F_b5.other W1 (Ne.symm (Nat.ne_of_lt (by omega)))).other W4 (Ne.symm (Nat.ne_of_lt (by omega))))
  refine own_by (own_iaload X5 hx hZ e5 F6 0 (by decide) (by decide) (congrArg Value.int hbb) (g := (mkF m 21 #[.val (.ref a), .val (.int (0 : Int32)), .val (.int (1 : Int32)), .val (.long vv), .second, .unset, .unset, .unset, .unset, .unset] [(.int (0 : Int32)), (.ref b5), (.ref a)])) rfl rfl (hb hby d11_21)) ?_
  show OEnds p e below s _ _ _ (T5.setTop (mkF m 22 #[.val (.ref a), .val (.int (0 : Int32)), .val (.int (1 : Int32)), .val (.long vv), .second, .unset, .unset, .unset, .unset, .unset] [(.int (0 : Int32)), (.ref a)]))
  obtain ⟨T7, h7, X7, e7, W7, st7⟩ := putF X5 hx hZ hown (host := "") (Or.inl (hw _ (List.mem_of_getElem? (i := 89) rfl))) Via.refl e5 (O4.fld 17 rfl rfl) O4.exa (Or.inl (hw _ (List.mem_of_getElem? (i := 90) rfl))) (hw _ (List.mem_of_getElem? (i := 2) rfl)) (ty := .int) (by decide) rfl rfl (g := (mkF m 22 #[.val (.ref a), .val (.int (0 : Int32)), .val (.int (1 : Int32)), .val (.long vv), .second, .unset, .unset, .unset, .unset, .unset] [(.int (0 : Int32)), (.ref a)])) rfl rfl (hb hby d11_22)
  refine own_by (st7) ?_
  have O7 : Obj Z h7 a "com/example/graphweft/graphweft/RangeMaxTree" sch_rt [(.ref b1), (.ref b2), (.ref b3), (.ref b4), (.ref b5), (.ref b6), (.ref b7), (.int sz), (.int nc), (.int sc), (.int te), (.int ta), (.int se), (.int sa), (.int pn), (.long vv), (.int (0 : Int32)), (.int (0 : Int32)), (.int bc)] := O4.set (so_sch_rt hw) W7 17 rfl (Nat.le_of_ble_eq_true rfl)
  have N7 := Fr.snoc X7 N4 g_a
  have Z7 : n0 ≤ h7.size := Nat.le_trans Z4 (Keep.of_wr W7).1
  have K7 : Keep h0 h7 [a] := K4.wr W7 (Or.inl (List.mem_of_getElem? (i := 0) rfl))
  show OEnds p e below s _ _ _ (T7.setTop (mkF m 25 #[.val (.ref a), .val (.int (0 : Int32)), .val (.int (1 : Int32)), .val (.long vv), .second, .unset, .unset, .unset, .unset, .unset] []))
  refine own_by (fun _ k => XS.aloadN X7.here hx rfl (hb hby d11_25) rfl rfl k) ?_
  show OEnds p e below s _ _ _ (T7.setTop (mkF m 26 #[.val (.ref a), .val (.int (0 : Int32)), .val (.int (1 : Int32)), .val (.long vv), .second, .unset, .unset, .unset, .unset, .unset] [(.ref a)]))
  obtain ⟨T8, X8, e8, st8⟩ := getF X7 hx hZ hown (host := "") (Or.inl (hw _ (List.mem_of_getElem? (i := 18) rfl))) Via.refl e7 (O7.fld 3 rfl rfl) (g := (mkF m 26 #[.val (.ref a), .val (.int (0 : Int32)), .val (.int (1 : Int32)), .val (.long vv), .second, .unset, .unset, .unset, .unset, .unset] [(.ref a)])) rfl rfl (hb hby d11_26)
  refine own_by (st8) ?_
  show OEnds p e below s _ _ _ (T8.setTop (mkF m 29 #[.val (.ref a), .val (.int (0 : Int32)), .val (.int (1 : Int32)), .val (.long vv), .second, .unset, .unset, .unset, .unset, .unset] [(.ref b4)]))
  refine own_by (fun _ k => XS.iloadN X8.here hx rfl (hb hby d11_29) rfl k) ?_
  show OEnds p e below s _ _ _ (T8.setTop (mkF m 30 #[.val (.ref a), .val (.int (0 : Int32)), .val (.int (1 : Int32)), .val (.long vv), .second, .unset, .unset, .unset, .unset, .unset] [(.int (0 : Int32)), (.ref b4)]))
  have F9 : FA Z h7 b4 .int 16 (fun i => .int (g4 i)) := (((F_b4.other W1 (Ne.symm (Nat.ne_of_lt (by omega)))).other W4 (Ne.symm (Nat.ne_of_lt (by omega)))).other W7 (Ne.symm (Nat.ne_of_lt (by omega))))
  refine own_by (own_iaload X8 hx hZ e8 F9 0 (by decide) (by decide) (congrArg Value.int he) (g := (mkF m 30 #[.val (.ref a), .val (.int (0 : Int32)), .val (.int (1 : Int32)), .val (.long vv), .second, .unset, .unset, .unset, .unset, .unset] [(.int (0 : Int32)), (.ref b4)])) rfl rfl (hb hby d11_30)) ?_
  show OEnds p e below s _ _ _ (T8.setTop (mkF m 31 #[.val (.ref a), .val (.int (0 : Int32)), .val (.int (1 : Int32)), .val (.long vv), .second, .unset, .unset, .unset, .unset, .unset] [(.int (1 : Int32))]))
  refine own_by (fun _ k => XS.aloadN X8.here hx rfl (hb hby d11_31) rfl rfl k) ?_
  show OEnds p e below s _ _ _ (T8.setTop (mkF m 32 #[.val (.ref a), .val (.int (0 : Int32)), .val (.int (1 : Int32)), .val (.long vv), .second, .unset, .unset, .unset, .unset, .unset] [(.ref a), (.int (1 : Int32))]))
  obtain ⟨T10, X10, e10, st10⟩ := getF X8 hx hZ hown (host := "") (Or.inl (hw _ (List.mem_of_getElem? (i := 87) rfl))) Via.refl e8 (O7.fld 16 rfl rfl) (g := (mkF m 32 #[.val (.ref a), .val (.int (0 : Int32)), .val (.int (1 : Int32)), .val (.long vv), .second, .unset, .unset, .unset, .unset, .unset] [(.ref a), (.int (1 : Int32))])) rfl rfl (hb hby d11_32)
  refine own_by (st10) ?_
  show OEnds p e below s _ _ _ (T10.setTop (mkF m 35 #[.val (.ref a), .val (.int (0 : Int32)), .val (.int (1 : Int32)), .val (.long vv), .second, .unset, .unset, .unset, .unset, .unset] [(.int (0 : Int32)), (.int (1 : Int32))]))
  refine own_by (fun _ k => XS.isub X10.here hx rfl (hb hby d11_35) rfl k) ?_
  show OEnds p e below s _ _ _ (T10.setTop (mkF m 36 #[.val (.ref a), .val (.int (0 : Int32)), .val (.int (1 : Int32)), .val (.long vv), .second, .unset, .unset, .unset, .unset, .unset] [(.int (1 : Int32))]))
  refine own_by (fun _ k => XS.istore X10.here hx rfl (hb hby d11_36) rfl (l' := #[.val (.ref a), .val (.int (0 : Int32)), .val (.int (1 : Int32)), .val (.long vv), .second, .val (.int (1 : Int32)), .unset, .unset, .unset, .unset]) rfl k) ?_
  show OEnds p e below s _ _ _ (T10.setTop (mkF m 38 #[.val (.ref a), .val (.int (0 : Int32)), .val (.int (1 : Int32)), .val (.long vv), .second, .val (.int (1 : Int32)), .unset, .unset, .unset, .unset] []))
  refine own_by (fun _ k => XS.aloadN X10.here hx rfl (hb hby d11_38) rfl rfl k) ?_
  show OEnds p e below s _ _ _ (T10.setTop (mkF m 39 #[.val (.ref a), .val (.int (0 : Int32)), .val (.int (1 : Int32)), .val (.long vv), .second, .val (.int (1 : Int32)), .unset, .unset, .unset, .unset] [(.ref a)]))
  refine own_by (fun _ k => XS.iload X10.here hx rfl (hb hby d11_39) rfl k) ?_
  show OEnds p e below s _ _ _ (T10.setTop (mkF m 41 #[.val (.ref a), .val (.int (0 : Int32)), .val (.int (1 : Int32)), .val (.long vv), .second, .val (.int (1 : Int32)), .unset, .unset, .unset, .unset] [(.int (1 : Int32)), (.ref a)]))
  refine own_by (fun _ k => XS.bipush X10.here hx rfl (hb hby d11_41) k) ?_
  show OEnds p e below s _ _ _ (T10.setTop (mkF m 43 #[.val (.ref a), .val (.int (0 : Int32)), .val (.int (1 : Int32)), .val (.long vv), .second, .val (.int (1 : Int32)), .unset, .unset, .unset, .unset] [(.int (8 : Int32)), (.int (1 : Int32)), (.ref a)]))
  refine own_by (fun _ k => XS.idiv X10.here hx rfl (hb hby d11_43) rfl (by decide) k) ?_
  show OEnds p e below s _ _ _ (T10.setTop (mkF m 44 #[.val (.ref a), .val (.int (0 : Int32)), .val (.int (1 : Int32)), .val (.long vv), .second, .val (.int (1 : Int32)), .unset, .unset, .unset, .unset] [(.int (0 : Int32)), (.ref a)]))
  refine own_by (fun _ k => XS.iload X10.here hx rfl (hb hby d11_44) rfl k) ?_
  show OEnds p e below s _ _ _ (T10.setTop (mkF m 46 #[.val (.ref a), .val (.int (0 : Int32)), .val (.int (1 : Int32)), .val (.long vv), .second, .val (.int (1 : Int32)), .unset, .unset, .unset, .unset] [(.int (1 : Int32)), (.int (0 : Int32)), (.ref a)]))
  refine own_by (fun _ k => XS.bipush X10.here hx rfl (hb hby d11_46) k) ?_
  show OEnds p e below s _ _ _ (T10.setTop (mkF m 48 #[.val (.ref a), .val (.int (0 : Int32)), .val (.int (1 : Int32)), .val (.long vv), .second, .val (.int (1 : Int32)), .unset, .unset, .unset, .unset] [(.int (8 : Int32)), (.int (1 : Int32)), (.int (0 : Int32)), (.ref a)]))
  refine own_by (fun _ k => iremM X10 hx rfl (hb hby d11_48) rfl (by decide) k) ?_
  show OEnds p e below s _ _ _ (T10.setTop (mkF m 49 #[.val (.ref a), .val (.int (0 : Int32)), .val (.int (1 : Int32)), .val (.long vv), .second, .val (.int (1 : Int32)), .unset, .unset, .unset, .unset] [(.int (1 : Int32)), (.int (0 : Int32)), (.ref a)]))
  refine own_by (fun _ k => XS.ifYes X10.here hx rfl (pc0 := 49) (pc' := 56) rfl (hb hby d11_49) rfl ((if0 _ _).trans (feq (by decide : ¬ ((1 : Int32) = (0 : Int32)))).2) (by decide) (by decide) k) ?_
  show OEnds p e below s _ _ _ (T10.setTop (mkF m 56 #[.val (.ref a), .val (.int (0 : Int32)), .val (.int (1 : Int32)), .val (.long vv), .second, .val (.int (1 : Int32)), .unset, .unset, .unset, .unset] [(.int (0 : Int32)), (.ref a)]))
  refine own_by (fun _ k => XS.iconst X10.here hx rfl (hb hby d11_56) k) ?_
  show OEnds p e below s _ _ _ (T10.setTop (mkF m 57 #[.val (.ref a), .val (.int (0 : Int32)), .val (.int (1 : Int32)), .val (.long vv), .second, .val (.int (1 : Int32)), .unset, .unset, .unset, .unset] [(.int (1 : Int32)), (.int (0 : Int32)), (.ref a)]))
  refine own_by (fun _ k => XS.iadd X10.here hx rfl (hb hby d11_57) rfl k) ?_
  show OEnds p e below s _ _ _ (T10.setTop (mkF m 58 #[.val (.ref a), .val (.int (0 : Int32)), .val (.int (1 : Int32)), .val (.long vv), .second, .val (.int (1 : Int32)), .unset, .unset, .unset, .unset] [(.int (1 : Int32)), (.ref a)]))
  obtain ⟨T11, h11, X11, e11, W11, st11⟩ := putF X10 hx hZ hown (host := "") (Or.inl (hw _ (List.mem_of_getElem? (i := 91) rfl))) Via.refl e10 (O7.fld 18 rfl rfl) O7.exa (Or.inl (hw _ (List.mem_of_getElem? (i := 92) rfl))) (hw _ (List.mem_of_getElem? (i := 2) rfl)) (ty := .int) (by decide) rfl rfl (g := (mkF m 58 #[.val (.ref a), .val (.int (0 : Int32)), .val (.int (1 : Int32)), .val (.long vv), .second, .val (.int (1 : Int32)), .unset, .unset, .unset, .unset] [(.int (1 : Int32)), (.ref a)])) rfl rfl (hb hby d11_58)
  refine own_by (st11) ?_
  have O11 : Obj Z h11 a "com/example/graphweft/graphweft/RangeMaxTree" sch_rt [(.ref b1), (.ref b2), (.ref b3), (.ref b4), (.ref b5), (.ref b6), (.ref b7), (.int sz), (.int nc), (.int sc), (.int te), (.int ta), (.int se), (.int sa), (.int pn), (.long vv), (.int (0 : Int32)), (.int (0 : Int32)), (.int (1 : Int32))] := O7.set (so_sch_rt hw) W11 18 rfl (Nat.le_of_ble_eq_true rfl)
  have N11 := Fr.snoc X11 N7 g_a
  have Z11 : n0 ≤ h11.size := Nat.le_trans Z7 (Keep.of_wr W11).1
  have K11 : Keep h0 h11 [a] := K7.wr W11 (Or.inl (List.mem_of_getElem? (i := 0) rfl))
  show OEnds p e below s _ _ _ (T11.setTop (mkF m 61 #[.val (.ref a), .val (.int (0 : Int32)), .val (.int (1 : Int32)), .val (.long vv), .second, .val (.int (1 : Int32)), .unset, .unset, .unset, .unset] []))
  refine own_by (fun _ k => XS.aloadN X11.here hx rfl (hb hby d11_61) rfl rfl k) ?_
  show OEnds p e below s _ _ _ (T11.setTop (mkF m 62 #[.val (.ref a), .val (.int (0 : Int32)), .val (.int (1 : Int32)), .val (.long vv), .second, .val (.int (1 : Int32)), .unset, .unset, .unset, .unset] [(.ref a)]))
  refine own_by (fun _ k => XS.iconst X11.here hx rfl (hb hby d11_62) k) ?_
  show OEnds p e below s _ _ _ (T11.setTop (mkF m 63 #[.val (.ref a), .val (.int (0 : Int32)), .val (.int (1 : Int32)), .val (.long vv), .second, .val (.int (1 : Int32)), .unset, .unset, .unset, .unset] [(.int (0 : Int32)), (.ref a)]))
  obtain ⟨T12, h12, X12, e12, W12, st12⟩ := putF X11 hx hZ hown (host := "") (Or.inl (hw _ (List.mem_of_getElem? (i := 45) rfl))) Via.refl e11 (O11.fld 14 rfl rfl) O11.exa (Or.inl (hw _ (List.mem_of_getElem? (i := 46) rfl))) (hw _ (List.mem_of_getElem? (i := 2) rfl)) (ty := .int) (by decide) rfl rfl (g := (mkF m 63 #[.val (.ref a), .val (.int (0 : Int32)), .val (.int (1 : Int32)), .val (.long vv), .second, .val (.int (1 : Int32)), .unset, .unset, .unset, .unset] [(.int (0 : Int32)), (.ref a)])) rfl rfl (hb hby d11_63)
  refine own_by (st12) ?_
  have O12 : Obj Z h12 a "com/example/graphweft/graphweft/RangeMaxTree" sch_rt [(.ref b1), (.ref b2), (.ref b3), (.ref b4), (.ref b5), (.ref b6), (.ref b7), (.int sz), (.int nc), (.int sc), (.int te), (.int ta), (.int se), (.int sa), (.int (0 : Int32)), (.long vv), (.int (0 : Int32)), (.int (0 : Int32)), (.int (1 : Int32))] := O11.set (so_sch_rt hw) W12 14 rfl (Nat.le_of_ble_eq_true rfl)
  have N12 := Fr.snoc X12 N11 g_a
  have Z12 : n0 ≤ h12.size := Nat.le_trans Z11 (Keep.of_wr W12).1
  have K12 : Keep h0 h12 [a] := K11.wr W12 (Or.inl (List.mem_of_getElem? (i := 0) rfl))
  show OEnds p e below s _ _ _ (T12.setTop (mkF m 66 #[.val (.ref a), .val (.int (0 : Int32)), .val (.int (1 : Int32)), .val (.long vv), .second, .val (.int (1 : Int32)), .unset, .unset, .unset, .unset] []))
  refine own_by (fun _ k => XS.aloadN X12.here hx rfl (hb hby d11_66) rfl rfl k) ?_
  show OEnds p e below s _ _ _ (T12.setTop (mkF m 67 #[.val (.ref a), .val (.int (0 : Int32)), .val (.int (1 : Int32)), .val (.long vv), .second, .val (.int (1 : Int32)), .unset, .unset, .unset, .unset] [(.ref a)]))
  refine own_by (fun _ k => XS.aloadN X12.here hx rfl (hb hby d11_67) rfl rfl k) ?_
  show OEnds p e below s _ _ _ (T12.setTop (mkF m 68 #[.val (.ref a), .val (.int (0 : Int32)), .val (.int (1 : Int32)), .val (.long vv), .second, .val (.int (1 : Int32)), .unset, .unset, .unset, .unset] [(.ref a), (.ref a)]))
  refine own_by (fun _ k => XS.iconst X12.here hx rfl (hb hby d11_68) k) ?_
  show OEnds p e below s _ _ _ (T12.setTop (mkF m 69 #[.val (.ref a), .val (.int (0 : Int32)), .val (.int (1 : Int32)), .val (.long vv), .second, .val (.int (1 : Int32)), .unset, .unset, .unset, .unset] [(.int (0 : Int32)), (.ref a), (.ref a)]))
  refine own_by (fun _ k => XS.dupX1 X12.here hx rfl (hb hby d11_69) rfl rfl rfl k) ?_
  show OEnds p e below s _ _ _ (T12.setTop (mkF m 70 #[.val (.ref a), .val (.int (0 : Int32)), .val (.int (1 : Int32)), .val (.long vv), .second, .val (.int (1 : Int32)), .unset, .unset, .unset, .unset] [(.int (0 : Int32)), (.ref a), (.int (0 : Int32)), (.ref a)]))
  obtain ⟨T13, h13, X13, e13, W13, st13⟩ := putF X12 hx hZ hown (host := "") (Or.inl (hw _ (List.mem_of_getElem? (i := 41) rfl))) Via.refl e12 (O12.fld 12 rfl rfl) O12.exa (Or.inl (hw _ (List.mem_of_getElem? (i := 42) rfl))) (hw _ (List.mem_of_getElem? (i := 2) rfl)) (ty := .int) (by decide) rfl rfl (g := (mkF m 70 #[.val (.ref a), .val (.int (0 : Int32)), .val (.int (1 : Int32)), .val (.long vv), .second, .val (.int (1 : Int32)), .unset, .unset, .unset, .unset] [(.int (0 : Int32)), (.ref a), (.int (0 : Int32)), (.ref a)])) rfl rfl (hb hby d11_70)
  refine own_by (st13) ?_
  have O13 : Obj Z h13 a "com/example/graphweft/graphweft/RangeMaxTree" sch_rt [(.ref b1), (.ref b2), (.ref b3), (.ref b4), (.ref b5), (.ref b6), (.ref b7), (.int sz), (.int nc), (.int sc), (.int te), (.int ta), (.int (0 : Int32)), (.int sa), (.int (0 : Int32)), (.long vv), (.int (0 : Int32)), (.int (0 : Int32)), (.int (1 : Int32))] := O12.set (so_sch_rt hw) W13 12 rfl (Nat.le_of_ble_eq_true rfl)
  have N13 := Fr.snoc X13 N12 g_a
  have Z13 : n0 ≤ h13.size := Nat.le_trans Z12 (Keep.of_wr W13).1
  have K13 : Keep h0 h13 [a] := K12.wr W13 (Or.inl (List.mem_of_getElem? (i := 0) rfl))
  show OEnds p e below s _ _ _ (T13.setTop (mkF m 73 #[.val (.ref a), .val (.int (0 : Int32)), .val (.int (1 : Int32)), .val (.long vv), .second, .val (.int (1 : Int32)), .unset, .unset, .unset, .unset] [(.int (0 : Int32)), (.ref a)]))
  obtain ⟨T14, h14, X14, e14, W14, st14⟩ := putF X13 hx hZ hown (host := "") (Or.inl (hw _ (List.mem_of_getElem? (i := 43) rfl))) Via.refl e13 (O13.fld 13 rfl rfl) O13.exa (Or.inl (hw _ (List.mem_of_getElem? (i := 44) rfl))) (hw _ (List.mem_of_getElem? (i := 2) rfl)) (ty := .int) (by decide) rfl rfl (g := (mkF m 73 #[.val (.ref a), .val (.int (0 : Int32)), .val (.int (1 : Int32)), .val (.long vv), .second, .val (.int (1 : Int32)), .unset, .unset, .unset, .unset] [(.int (0 : Int32)), (.ref a)])) rfl rfl (hb hby d11_73)
  refine own_by (st14) ?_
  have O14 : Obj Z h14 a "com/example/graphweft/graphweft/RangeMaxTree" sch_rt [(.ref b1), (.ref b2), (.ref b3), (.ref b4), (.ref b5), (.ref b6), (.ref b7), (.int sz), (.int nc), (.int sc), (.int te), (.int ta), (.int (0 : Int32)), (.int (0 : Int32)), (.int (0 : Int32)), (.long vv), (.int (0 : Int32)), (.int (0 : Int32)), (.int (1 : Int32))] := O13.set (so_sch_rt hw) W14 13 rfl (Nat.le_of_ble_eq_true rfl)
  have N14 := Fr.snoc X14 N13 g_a
  have Z14 : n0 ≤ h14.size := Nat.le_trans Z13 (Keep.of_wr W14).1
  have K14 : Keep h0 h14 [a] := K13.wr W14 (Or.inl (List.mem_of_getElem? (i := 0) rfl))
  show OEnds p e below s _ _ _ (T14.setTop (mkF m 76 #[.val (.ref a), .val (.int (0 : Int32)), .val (.int (1 : Int32)), .val (.long vv), .second, .val (.int (1 : Int32)), .unset, .unset, .unset, .unset] []))
  refine own_by (fun _ k => XS.iloadN X14.here hx rfl (hb hby d11_76) rfl k) ?_
  show OEnds p e below s _ _ _ (T14.setTop (mkF m 77 #[.val (.ref a), .val (.int (0 : Int32)), .val (.int (1 : Int32)), .val (.long vv), .second, .val (.int (1 : Int32)), .unset, .unset, .unset, .unset] [(.int (1 : Int32))]))
  refine own_by (fun _ k => XS.aloadN X14.here hx rfl (hb hby d11_77) rfl rfl k) ?_
  show OEnds p e below s _ _ _ (T14.setTop (mkF m 78 #[.val (.ref a), .val (.int (0 : Int32)), .val (.int (1 : Int32)), .val (.long vv), .second, .val (.int (1 : Int32)), .unset, .unset, .unset, .unset] [(.ref a), (.int (1 : Int32))]))
  obtain ⟨T15, X15, e15, st15⟩ := getF X14 hx hZ hown (host := "") (Or.inl (hw _ (List.mem_of_getElem? (i := 87) rfl))) Via.refl e14 (O14.fld 16 rfl rfl) (g := (mkF m 78 #[.val (.ref a), .val (.int (0 : Int32)), .val (.int (1 : Int32)), .val (.long vv), .second, .val (.int (1 : Int32)), .unset, .unset, .unset, .unset] [(.ref a), (.int (1 : Int32))])) rfl rfl (hb hby d11_78)
  refine own_by (st15) ?_
  show OEnds p e below s _ _ _ (T15.setTop (mkF m 81 #[.val (.ref a), .val (.int (0 : Int32)), .val (.int (1 : Int32)), .val (.long vv), .second, .val (.int (1 : Int32)), .unset, .unset, .unset, .unset] [(.int (0 : Int32)), (.int (1 : Int32))]))
  refine own_by (fun _ k => XS.isub X15.here hx rfl (hb hby d11_81) rfl k) ?_
  show OEnds p e below s _ _ _ (T15.setTop (mkF m 82 #[.val (.ref a), .val (.int (0 : Int32)), .val (.int (1 : Int32)), .val (.long vv), .second, .val (.int (1 : Int32)), .unset, .unset, .unset, .unset] [(.int (1 : Int32))]))
  refine own_by (fun _ k => XS.bipush X15.here hx rfl (hb hby d11_82) k) ?_
  show OEnds p e below s _ _ _ (T15.setTop (mkF m 84 #[.val (.ref a), .val (.int (0 : Int32)), .val (.int (1 : Int32)), .val (.long vv), .second, .val (.int (1 : Int32)), .unset, .unset, .unset, .unset] [(.int (8 : Int32)), (.int (1 : Int32))]))
  refine own_by (fun _ k => XS.idiv X15.here hx rfl (hb hby d11_84) rfl (by decide) k) ?_
  show OEnds p e below s _ _ _ (T15.setTop (mkF m 85 #[.val (.ref a), .val (.int (0 : Int32)), .val (.int (1 : Int32)), .val (.long vv), .second, .val (.int (1 : Int32)), .unset, .unset, .unset, .unset] [(.int (0 : Int32))]))
  refine own_by (fun _ k => XS.istore X15.here hx rfl (hb hby d11_85) rfl (l' := #[.val (.ref a), .val (.int (0 : Int32)), .val (.int (1 : Int32)), .val (.long vv), .second, .val (.int (1 : Int32)), .val (.int (0 : Int32)), .unset, .unset, .unset]) rfl k) ?_
  show OEnds p e below s _ _ _ (T15.setTop (mkF m 87 #[.val (.ref a), .val (.int (0 : Int32)), .val (.int (1 : Int32)), .val (.long vv), .second, .val (.int (1 : Int32)), .val (.int (0 : Int32)), .unset, .unset, .unset] []))
  refine own_by (fun _ k => XS.aloadN X15.here hx rfl (hb hby d11_87) rfl rfl k) ?_
  show OEnds p e below s _ _ _ (T15.setTop (mkF m 88 #[.val (.ref a), .val (.int (0 : Int32)), .val (.int (1 : Int32)), .val (.long vv), .second, .val (.int (1 : Int32)), .val (.int (0 : Int32)), .unset, .unset, .unset] [(.ref a)]))
  refine own_by (fun _ k => XS.aloadN X15.here hx rfl (hb hby d11_88) rfl rfl k) ?_
  show OEnds p e below s _ _ _ (T15.setTop (mkF m 89 #[.val (.ref a), .val (.int (0 : Int32)), .val (.int (1 : Int32)), .val (.long vv), .second, .val (.int (1 : Int32)), .val (.int (0 : Int32)), .unset, .unset, .unset] [(.ref a), (.ref a)]))
  obtain ⟨T16, X16, e16, st16⟩ := getF X15 hx hZ hown (host := "") (Or.inl (hw _ (List.mem_of_getElem? (i := 87) rfl))) Via.refl e15 (O14.fld 16 rfl rfl) (g := (mkF m 89 #[.val (.ref a), .val (.int (0 : Int32)), .val (.int (1 : Int32)), .val (.long vv), .second, .val (.int (1 : Int32)), .val (.int (0 : Int32)), .unset, .unset, .unset] [(.ref a), (.ref a)])) rfl rfl (hb hby d11_89)
  refine own_by (st16) ?_
  show OEnds p e below s _ _ _ (T16.setTop (mkF m 92 #[.val (.ref a), .val (.int (0 : Int32)), .val (.int (1 : Int32)), .val (.long vv), .second, .val (.int (1 : Int32)), .val (.int (0 : Int32)), .unset, .unset, .unset] [(.int (0 : Int32)), (.ref a)]))
  refine own_by (fun _ k => XS.iload X16.here hx rfl (hb hby d11_92) rfl k) ?_
  show OEnds p e below s _ _ _ (T16.setTop (mkF m 94 #[.val (.ref a), .val (.int (0 : Int32)), .val (.int (1 : Int32)), .val (.long vv), .second, .val (.int (1 : Int32)), .val (.int (0 : Int32)), .unset, .unset, .unset] [(.int (0 : Int32)), (.int (0 : Int32)), (.ref a)]))
  refine own_by (fun _ k => XS.bipush X16.here hx rfl (hb hby d11_94) k) ?_
  show OEnds p e below s _ _ _ (T16.setTop (mkF m 96 #[.val (.ref a), .val (.int (0 : Int32)), .val (.int (1 : Int32)), .val (.long vv), .second, .val (.int (1 : Int32)), .val (.int (0 : Int32)), .unset, .unset, .unset] [(.int (8 : Int32)), (.int (0 : Int32)), (.int (0 : Int32)), (.ref a)]))
  refine own_by (fun _ k => XS.imul X16.here hx rfl (hb hby d11_96) rfl k) ?_
  show OEnds p e below s _ _ _ (T16.setTop (mkF m 97 #[.val (.ref a), .val (.int (0 : Int32)), .val (.int (1 : Int32)), .val (.long vv), .second, .val (.int (1 : Int32)), .val (.int (0 : Int32)), .unset, .unset, .unset] [(.int (0 : Int32)), (.int (0 : Int32)), (.ref a)]))
  refine own_by (fun _ k => XS.iadd X16.here hx rfl (hb hby d11_97) rfl k) ?_
  show OEnds p e below s _ _ _ (T16.setTop (mkF m 98 #[.val (.ref a), .val (.int (0 : Int32)), .val (.int (1 : Int32)), .val (.long vv), .second, .val (.int (1 : Int32)), .val (.int (0 : Int32)), .unset, .unset, .unset] [(.int (0 : Int32)), (.ref a)]))
  obtain ⟨T17, h17, X17, e17, W17, st17⟩ := putF X16 hx hZ hown (host := "") (Or.inl (hw _ (List.mem_of_getElem? (i := 39) rfl))) Via.refl e16 (O14.fld 11 rfl rfl) O14.exa (Or.inl (hw _ (List.mem_of_getElem? (i := 40) rfl))) (hw _ (List.mem_of_getElem? (i := 2) rfl)) (ty := .int) (by decide) rfl rfl (g := (mkF m 98 #[.val (.ref a), .val (.int (0 : Int32)), .val (.int (1 : Int32)), .val (.long vv), .second, .val (.int (1 : Int32)), .val (.int (0 : Int32)), .unset, .unset, .unset] [(.int (0 : Int32)), (.ref a)])) rfl rfl (hb hby d11_98)
  refine own_by (st17) ?_
  have O17 : Obj Z h17 a "com/example/graphweft/graphweft/RangeMaxTree" sch_rt [(.ref b1), (.ref b2), (.ref b3), (.ref b4), (.ref b5), (.ref b6), (.ref b7), (.int sz), (.int nc), (.int sc), (.int te), (.int (0 : Int32)), (.int (0 : Int32)), (.int (0 : Int32)), (.int (0 : Int32)), (.long vv), (.int (0 : Int32)), (.int (0 : Int32)), (.int (1 : Int32))] := O14.set (so_sch_rt hw) W17 11 rfl (Nat.le_of_ble_eq_true rfl)
  have N17 := Fr.snoc X17 N14 g_a
  have Z17 : n0 ≤ h17.size := Nat.le_trans Z14 (Keep.of_wr W17).1
  have K17 : Keep h0 h17 [a] := K14.wr W17 (Or.inl (List.mem_of_getElem? (i := 0) rfl))
  show OEnds p e below s _ _ _ (T17.setTop (mkF m 101 #[.val (.ref a), .val (.int (0 : Int32)), .val (.int (1 : Int32)), .val (.long vv), .second, .val (.int (1 : Int32)), .val (.int (0 : Int32)), .unset, .unset, .unset] []))
  refine own_by (fun _ k => XS.aloadN X17.here hx rfl (hb hby d11_101) rfl rfl k) ?_
  show OEnds p e below s _ _ _ (T17.setTop (mkF m 102 #[.val (.ref a), .val (.int (0 : Int32)), .val (.int (1 : Int32)), .val (.long vv), .second, .val (.int (1 : Int32)), .val (.int (0 : Int32)), .unset, .unset, .unset] [(.ref a)]))
  refine own_by (fun _ k => XS.iloadN X17.here hx rfl (hb hby d11_102) rfl k) ?_
  show OEnds p e below s _ _ _ (T17.setTop (mkF m 103 #[.val (.ref a), .val (.int (0 : Int32)), .val (.int (1 : Int32)), .val (.long vv), .second, .val (.int (1 : Int32)), .val (.int (0 : Int32)), .unset, .unset, .unset] [(.int (1 : Int32)), (.ref a)]))
  obtain ⟨T18, h18, X18, e18, W18, st18⟩ := putF X17 hx hZ hown (host := "") (Or.inl (hw _ (List.mem_of_getElem? (i := 37) rfl))) Via.refl e17 (O17.fld 10 rfl rfl) O17.exa (Or.inl (hw _ (List.mem_of_getElem? (i := 38) rfl))) (hw _ (List.mem_of_getElem? (i := 2) rfl)) (ty := .int) (by decide) rfl rfl (g := (mkF m 103 #[.val (.ref a), .val (.int (0 : Int32)), .val (.int (1 : Int32)), .val (.long vv), .second, .val (.int (1 : Int32)), .val (.int (0 : Int32)), .unset, .unset, .unset] [(.int (1 : Int32)), (.ref a)])) rfl rfl (hb hby d11_103)
  refine own_by (st18) ?_
  have O18 : Obj Z h18 a "com/example/graphweft/graphweft/RangeMaxTree" sch_rt [(.ref b1), (.ref b2), (.ref b3), (.ref b4), (.ref b5), (.ref b6), (.ref b7), (.int sz), (.int nc), (.int sc), (.int (1 : Int32)), (.int (0 : Int32)), (.int (0 : Int32)), (.int (0 : Int32)), (.int (0 : Int32)), (.long vv), (.int (0 : Int32)), (.int (0 : Int32)), (.int (1 : Int32))] := O17.set (so_sch_rt hw) W18 10 rfl (Nat.le_of_ble_eq_true rfl)
  have N18 := Fr.snoc X18 N17 g_a
  have Z18 : n0 ≤ h18.size := Nat.le_trans Z17 (Keep.of_wr W18).1
  have K18 : Keep h0 h18 [a] := K17.wr W18 (Or.inl (List.mem_of_getElem? (i := 0) rfl))
  show OEnds p e below s _ _ _ (T18.setTop (mkF m 106 #[.val (.ref a), .val (.int (0 : Int32)), .val (.int (1 : Int32)), .val (.long vv), .second, .val (.int (1 : Int32)), .val (.int (0 : Int32)), .unset, .unset, .unset] []))
  refine own_by (fun _ k => XS.iconst X18.here hx rfl (hb hby d11_106) k) ?_
  show OEnds p e below s _ _ _ (T18.setTop (mkF m 107 #[.val (.ref a), .val (.int (0 : Int32)), .val (.int (1 : Int32)), .val (.long vv), .second, .val (.int (1 : Int32)), .val (.int (0 : Int32)), .unset, .unset, .unset] [(.int (0 : Int32))]))
  refine own_by (fun _ k => XS.istore X18.here hx rfl (hb hby d11_107) rfl (l' := #[.val (.ref a), .val (.int (0 : Int32)), .val (.int (1 : Int32)), .val (.long vv), .second, .val (.int (1 : Int32)), .val (.int (0 : Int32)), .val (.int (0 : Int32)), .unset, .unset]) rfl k) ?_
  show OEnds p e below s _ _ _ (T18.setTop (mkF m 109 #[.val (.ref a), .val (.int (0 : Int32)), .val (.int (1 : Int32)), .val (.long vv), .second, .val (.int (1 : Int32)), .val (.int (0 : Int32)), .val (.int (0 : Int32)), .unset, .unset] []))
  refine own_by (fun _ k => XS.aloadN X18.here hx rfl (hb hby d11_109) rfl rfl k) ?_
  show OEnds p e below s _ _ _ (T18.setTop (mkF m 110 #[.val (.ref a), .val (.int (0 : Int32)), .val (.int (1 : Int32)), .val (.long vv), .second, .val (.int (1 : Int32)), .val (.int (0 : Int32)), .val (.int (0 : Int32)), .unset, .unset] [(.ref a)]))
  obtain ⟨T19, X19, e19, st19⟩ := getF X18 hx hZ hown (host := "") (Or.inl (hw _ (List.mem_of_getElem? (i := 91) rfl))) Via.refl e18 (O18.fld 18 rfl rfl) (g := (mkF m 110 #[.val (.ref a), .val (.int (0 : Int32)), .val (.int (1 : Int32)), .val (.long vv), .second, .val (.int (1 : Int32)), .val (.int (0 : Int32)), .val (.int (0 : Int32)), .unset, .unset] [(.ref a)])) rfl rfl (hb hby d11_110)
  refine own_by (st19) ?_
  show OEnds p e below s _ _ _ (T19.setTop (mkF m 113 #[.val (.ref a), .val (.int (0 : Int32)), .val (.int (1 : Int32)), .val (.long vv), .second, .val (.int (1 : Int32)), .val (.int (0 : Int32)), .val (.int (0 : Int32)), .unset, .unset] [(.int (1 : Int32))]))
  refine own_by (fun _ k => XS.istore X19.here hx rfl (hb hby d11_113) rfl (l' := #[.val (.ref a), .val (.int (0 : Int32)), .val (.int (1 : Int32)), .val (.long vv), .second, .val (.int (1 : Int32)), .val (.int (0 : Int32)), .val (.int (0 : Int32)), .val (.int (1 : Int32)), .unset]) rfl k) ?_
  show OEnds p e below s _ _ _ (T19.setTop (mkF m 115 #[.val (.ref a), .val (.int (0 : Int32)), .val (.int (1 : Int32)), .val (.long vv), .second, .val (.int (1 : Int32)), .val (.int (0 : Int32)), .val (.int (0 : Int32)), .val (.int (1 : Int32)), .unset] []))
  refine own_by (fun _ k => XS.iload X19.here hx rfl (hb hby d11_115) rfl k) ?_
  show OEnds p e below s _ _ _ (T19.setTop (mkF m 117 #[.val (.ref a), .val (.int (0 : Int32)), .val (.int (1 : Int32)), .val (.long vv), .second, .val (.int (1 : Int32)), .val (.int (0 : Int32)), .val (.int (0 : Int32)), .val (.int (1 : Int32)), .unset] [(.int (0 : Int32))]))
  refine own_by (fun _ k => XS.aloadN X19.here hx rfl (hb hby d11_117) rfl rfl k) ?_
  show OEnds p e below s _ _ _ (T19.setTop (mkF m 118 #[.val (.ref a), .val (.int (0 : Int32)), .val (.int (1 : Int32)), .val (.long vv), .second, .val (.int (1 : Int32)), .val (.int (0 : Int32)), .val (.int (0 : Int32)), .val (.int (1 : Int32)), .unset] [(.ref a), (.int (0 : Int32))]))
  obtain ⟨T20, X20, e20, st20⟩ := getF X19 hx hZ hown (host := "") (Or.inl (hw _ (List.mem_of_getElem? (i := 91) rfl))) Via.refl e19 (O18.fld 18 rfl rfl) (g := (mkF m 118 #[.val (.ref a), .val (.int (0 : Int32)), .val (.int (1 : Int32)), .val (.long vv), .second, .val (.int (1 : Int32)), .val (.int (0 : Int32)), .val (.int (0 : Int32)), .val (.int (1 : Int32)), .unset] [(.ref a), (.int (0 : Int32))])) rfl rfl (hb hby d11_118)
  refine own_by (st20) ?_
  show OEnds p e below s _ _ _ (T20.setTop (mkF m 121 #[.val (.ref a), .val (.int (0 : Int32)), .val (.int (1 : Int32)), .val (.long vv), .second, .val (.int (1 : Int32)), .val (.int (0 : Int32)), .val (.int (0 : Int32)), .val (.int (1 : Int32)), .unset] [(.int (1 : Int32)), (.int (0 : Int32))]))
  refine own_by (fun _ k => XS.iadd X20.here hx rfl (hb hby d11_121) rfl k) ?_
  show OEnds p e below s _ _ _ (T20.setTop (mkF m 122 #[.val (.ref a), .val (.int (0 : Int32)), .val (.int (1 : Int32)), .val (.long vv), .second, .val (.int (1 : Int32)), .val (.int (0 : Int32)), .val (.int (0 : Int32)), .val (.int (1 : Int32)), .unset] [(.int (1 : Int32))]))
  refine own_by (fun _ k => XS.istore X20.here hx rfl (hb hby d11_122) rfl (l' := #[.val (.ref a), .val (.int (0 : Int32)), .val (.int (1 : Int32)), .val (.long vv), .second, .val (.int (1 : Int32)), .val (.int (0 : Int32)), .val (.int (0 : Int32)), .val (.int (1 : Int32)), .val (.int (1 : Int32))]) rfl k) ?_
  show OEnds p e below s _ _ _ (T20.setTop (mkF m 124 #[.val (.ref a), .val (.int (0 : Int32)), .val (.int (1 : Int32)), .val (.long vv), .second, .val (.int (1 : Int32)), .val (.int (0 : Int32)), .val (.int (0 : Int32)), .val (.int (1 : Int32)), .val (.int (1 : Int32))] []))
  refine own_by (fun _ k => XS.iload X20.here hx rfl (hb hby d11_124) rfl k) ?_
  show OEnds p e below s _ _ _ (T20.setTop (mkF m 126 #[.val (.ref a), .val (.int (0 : Int32)), .val (.int (1 : Int32)), .val (.long vv), .second, .val (.int (1 : Int32)), .val (.int (0 : Int32)), .val (.int (0 : Int32)), .val (.int (1 : Int32)), .val (.int (1 : Int32))] [(.int (1 : Int32))]))
  refine own_by (fun _ k => XS.iload X20.here hx rfl (hb hby d11_126) rfl k) ?_
  show OEnds p e below s _ _ _ (T20.setTop (mkF m 128 #[.val (.ref a), .val (.int (0 : Int32)), .val (.int (1 : Int32)), .val (.long vv), .second, .val (.int (1 : Int32)), .val (.int (0 : Int32)), .val (.int (0 : Int32)), .val (.int (1 : Int32)), .val (.int (1 : Int32))] [(.int (1 : Int32)), (.int (1 : Int32))]))
  refine own_by (fun _ k => XS.icmpYes X20.here hx rfl (pc0 := 128) (pc' := 198) rfl (hb hby d11_128) rfl (flt (by decide : ¬ ((1 : Int32) < (1 : Int32)))).2.1 (by decide) (by decide) k) ?_
  show OEnds p e below s _ _ _ (T20.setTop (mkF m 198 #[.val (.ref a), .val (.int (0 : Int32)), .val (.int (1 : Int32)), .val (.long vv), .second, .val (.int (1 : Int32)), .val (.int (0 : Int32)), .val (.int (0 : Int32)), .val (.int (1 : Int32)), .val (.int (1 : Int32))] []))
  refine own_by (fun _ k => XS.iload X20.here hx rfl (hb hby d11_198) rfl k) ?_
  show OEnds p e below s _ _ _ (T20.setTop (mkF m 200 #[.val (.ref a), .val (.int (0 : Int32)), .val (.int (1 : Int32)), .val (.long vv), .second, .val (.int (1 : Int32)), .val (.int (0 : Int32)), .val (.int (0 : Int32)), .val (.int (1 : Int32)), .val (.int (1 : Int32))] [(.int (0 : Int32))]))
  refine own_by (fun _ k => XS.ifYes X20.here hx rfl (pc0 := 200) (pc' := 232) rfl (hb hby d11_200) rfl ((if0 _ _).trans (flt (by decide : ¬ ((0 : Int32) < (0 : Int32)))).2.2.2) (by decide) (by decide) k) ?_
  show OEnds p e below s _ _ _ (T20.setTop (mkF m 232 #[.val (.ref a), .val (.int (0 : Int32)), .val (.int (1 : Int32)), .val (.long vv), .second, .val (.int (1 : Int32)), .val (.int (0 : Int32)), .val (.int (0 : Int32)), .val (.int (1 : Int32)), .val (.int (1 : Int32))] []))
  exact own_retV X20 hx hlk Bd.returns (hb hby d11_232) (by rw [e20]; exact ⟨rfl, N18, K18, O18⟩) (by decide) (by decide)
def Q_find_2 (Z : State) (a : Addr) (vv : Int64) (b1 : Addr) (b2 : Addr) (b3 : Addr) (b4 : Addr) (b5 : Addr) (b6 : Addr) (b7 : Addr) (sz : Int32) (nc : Int32) (sc : Int32) (te : Int32) (ta : Int32) (se : Int32) (sa : Int32) (pn : Int32) (bd : Int64) (ss : Int32) (bs : Int32) (bc : Int32) (g3 : Nat → Int32) (g4 : Nat → Int32) (g5 : Nat → Int32) (h0 : Heap) (n0 : Nat) (r : Option Value) (h : Heap) (L : List Loc) : Prop := r = none ∧ Fr n0 L ∧ Keep h0 h [a] ∧ Obj Z h a "com/example/graphweft/graphweft/RangeMaxTree" sch_rt [(.ref b1), (.ref b2), (.ref b3), (.ref b4), (.ref b5), (.ref b6), (.ref b7), (.int sz), (.int nc), (.int sc), (.int (2 : Int32)), (.int (0 : Int32)), (.int (0 : Int32)), (.int (0 : Int32)), (.int (0 : Int32)), (.long vv), (.int (0 : Int32)), (.int (0 : Int32)), (.int (1 : Int32))]
set_option maxRecDepth 65536 in
set_option maxHeartbeats 40000000 in
theorem rm_find_2 (l : Launch) (Z : State) (a0 : Array Value) (hw : ∀ d ∈ tables_1, d.before a0 Z = true) (ws : List Jvm.Cond) (a : Addr) (vv : Int64) (b1 : Addr) (b2 : Addr) (b3 : Addr) (b4 : Addr) (b5 : Addr) (b6 : Addr) (b7 : Addr) (sz : Int32) (nc : Int32) (sc : Int32) (te : Int32) (ta : Int32) (se : Int32) (sa : Int32) (pn : Int32) (bd : Int64) (ss : Int32) (bs : Int32) (bc : Int32) (g3 : Nat → Int32) (g4 : Nat → Int32) (g5 : Nat → Int32) (h0 : Heap) (n0 : Nat) (Z0 : n0 ≤ h0.size) (O0 : Obj Z h0 a "com/example/graphweft/graphweft/RangeMaxTree" sch_rt [(.ref b1), (.ref b2), (.ref b3), (.ref b4), (.ref b5), (.ref b6), (.ref b7), (.int sz), (.int nc), (.int sc), (.int te), (.int ta), (.int se), (.int sa), (.int pn), (.long bd), (.int ss), (.int bs), (.int bc)]) (F_b3 : FA Z h0 b3 .int 16 (fun i => .int (g3 i))) (F_b4 : FA Z h0 b4 .int 16 (fun i => .int (g4 i))) (F_b5 : FA Z h0 b5 .int 16 (fun i => .int (g5 i))) (g_a : n0 ≤ a) (hord : @LT.lt Nat instLTNat a b1 ∧ @LT.lt Nat instLTNat b1 b2 ∧ @LT.lt Nat instLTNat b2 b3 ∧ @LT.lt Nat instLTNat b3 b4 ∧ @LT.lt Nat instLTNat b4 b5 ∧ @LT.lt Nat instLTNat b5 b6 ∧ @LT.lt Nat instLTNat b6 b7) (hs : g3 0 = (0 : Int32)) (he : g4 0 = (2 : Int32)) (hbb : g5 0 = (0 : Int32)) :
    MetFree l (⟨"com/example/graphweft/graphweft/RangeMaxTree", "find", "(IIJ)V"⟩ : MethodName) (head1 (Jvm.Cond.code (⟨"com/example/graphweft/graphweft/RangeMaxTree", "find", "(IIJ)V"⟩ : MethodName) prog_32_method_8_code 10 none :: ws) ({ frames := 0, cells := 0, slots := 0, locals := 0 } : Room)) (fun a_ U => a_ = #[(.ref a), (.int (0 : Int32)), (.int (2 : Int32)), (.long vv)] ∧ Z.Warmed39 U.vm ∧ U.heap = h0) (fun _ _ _ _ _ => True) (fun _ U o U' => ∃ v_ L_, o = .returned v_ ∧ Q_find_2 Z a vv b1 b2 b3 b4 b5 b6 b7 sz nc sc te ta se sa pn bd ss bs bc g3 g4 g5 h0 n0 v_ U'.heap L_ ∧ FrameEnd U o U' L_ ({ frames := 0, cells := 0, slots := 0, locals := 0 } : Room).cells ({ frames := 0, cells := 0, slots := 0, locals := 0 } : Room).slots) := by
  refine MetFree.of_bodySF (plainFor_of_name pn_11) hisR ?_
  intro p e s m args below meth c s₁ Bd hml0 hP hK
  obtain ⟨rfl, hZ, hh⟩ := hP
  have hx := Bd.exec
  have hby := Bd.bytes
  have hlk : meth.locks = false := Bd.notSynchronized
  have hml : c.maxLocals = 10 := hml0
  have hown : s.vm.findClass "com/example/graphweft/graphweft/RangeMaxTree" = some m.cls := findClass_of_methodNamed Bd.named
  have hnm := (name_of_methodNamed Bd.named Bd.method).1
  have X0 : Stand p l e ({ frames := 0, cells := 0, slots := 0, locals := 0 } : Room) s m #[(.ref a), (.int (0 : Int32)), (.int (2 : Int32)), (.long vv)] below meth c s₁ [] 0 0 := Stand.of_body Bd
  have e0 : s₁.heap = h0 := by rw [← hh, Bd.state]; rfl
  have N0 := Fr.nil n0
  have K0 : Keep h0 h0 [a] := Keep.refl _ _
  show OEnds p e below s (Q_find_2 Z a vv b1 b2 b3 b4 b5 b6 b7 sz nc sc te ta se sa pn bd ss bs bc g3 g4 g5 h0 n0) _ _ _
  refine own_by (fun t k => castTop (ef_11 m a (0 : Int32) (2 : Int32) vv) k) ?_
  show OEnds p e below s _ _ _ (s₁.setTop (mkF m 0 #[.val (.ref a), .val (.int (0 : Int32)), .val (.int (2 : Int32)), .val (.long vv), .second, .unset, .unset, .unset, .unset, .unset] []))
  refine own_by (fun _ k => XS.aloadN X0.here hx rfl (hb hby d11_0) rfl rfl k) ?_
  show OEnds p e below s _ _ _ (s₁.setTop (mkF m 1 #[.val (.ref a), .val (.int (0 : Int32)), .val (.int (2 : Int32)), .val (.long vv), .second, .unset, .unset, .unset, .unset, .unset] [(.ref a)]))
  refine own_by (fun _ k => XS.lloadN X0.here hx rfl (hb hby d11_1) rfl k) ?_
  show OEnds p e below s _ _ _ (s₁.setTop (mkF m 2 #[.val (.ref a), .val (.int (0 : Int32)), .val (.int (2 : Int32)), .val (.long vv), .second, .unset, .unset, .unset, .unset, .unset] [(.long vv), (.ref a)]))
  obtain ⟨T1, h1, X1, e1, W1, st1⟩ := putF X0 hx hZ hown (host := "") (Or.inl (hw _ (List.mem_of_getElem? (i := 85) rfl))) Via.refl e0 (O0.fld 15 rfl rfl) O0.exa (Or.inl (hw _ (List.mem_of_getElem? (i := 86) rfl))) (hw _ (List.mem_of_getElem? (i := 2) rfl)) (ty := .long) (by decide) rfl rfl (g := (mkF m 2 #[.val (.ref a), .val (.int (0 : Int32)), .val (.int (2 : Int32)), .val (.long vv), .second, .unset, .unset, .unset, .unset, .unset] [(.long vv), (.ref a)])) rfl rfl (hb hby d11_2)
  refine own_by (st1) ?_
  have O1 : Obj Z h1 a "com/example/graphweft/graphweft/RangeMaxTree" sch_rt [(.ref b1), (.ref b2), (.ref b3), (.ref b4), (.ref b5), (.ref b6), (.ref b7), (.int sz), (.int nc), (.int sc), (.int te), (.int ta), (.int se), (.int sa), (.int pn), (.long vv), (.int ss), (.int bs), (.int bc)] := O0.set (so_sch_rt hw) W1 15 rfl (Nat.le_of_ble_eq_true rfl)
  have N1 := Fr.snoc X1 N0 g_a
  have Z1 : n0 ≤ h1.size := Nat.le_trans Z0 (Keep.of_wr W1).1
  have K1 : Keep h0 h1 [a] := K0.wr W1 (Or.inl (List.mem_of_getElem? (i := 0) rfl))
  show OEnds p e below s _ _ _ (T1.setTop (mkF m 5 #[.val (.ref a), .val (.int (0 : Int32)), .val (.int (2 : Int32)), .val (.long vv), .second, .unset, .unset, .unset, .unset, .unset] []))
  refine own_by (fun _ k => XS.aloadN X1.here hx rfl (hb hby d11_5) rfl rfl k) ?_
  show OEnds p e below s _ _ _ (T1.setTop (mkF m 6 #[.val (.ref a), .val (.int (0 : Int32)), .val (.int (2 : Int32)), .val (.long vv), .second, .unset, .unset, .unset, .unset, .unset] [(.ref a)]))
  refine own_by (fun _ k => XS.aloadN X1.here hx rfl (hb hby d11_6) rfl rfl k) ?_
  show OEnds p e below s _ _ _ (T1.setTop (mkF m 7 #[.val (.ref a), .val (.int (0 : Int32)), .val (.int (2 : Int32)), .val (.long vv), .second, .unset, .unset, .unset, .unset, .unset] [(.ref a), (.ref a)]))
  obtain ⟨T2, X2, e2, st2⟩ := getF X1 hx hZ hown (host := "") (Or.inl (hw _ (List.mem_of_getElem? (i := 16) rfl))) Via.refl e1 (O1.fld 2 rfl rfl) (g := (mkF m 7 #[.val (.ref a), .val (.int (0 : Int32)), .val (.int (2 : Int32)), .val (.long vv), .second, .unset, .unset, .unset, .unset, .unset] [(.ref a), (.ref a)])) rfl rfl (hb hby d11_7)
  refine own_by (st2) ?_
  show OEnds p e below s _ _ _ (T2.setTop (mkF m 10 #[.val (.ref a), .val (.int (0 : Int32)), .val (.int (2 : Int32)), .val (.long vv), .second, .unset, .unset, .unset, .unset, .unset] [(.ref b3), (.ref a)]))
  refine own_by (fun _ k => XS.iloadN X2.here hx rfl (hb hby d11_10) rfl k) ?_
  show OEnds p e below s _ _ _ (T2.setTop (mkF m 11 #[.val (.ref a), .val (.int (0 : Int32)), .val (.int (2 : Int32)), .val (.long vv), .second, .unset, .unset, .unset, .unset, .unset] [(.int (0 : Int32)), (.ref b3), (.ref a)]))
  have F3 : FA Z h1 b3 .int 16 (fun i => .int (g3 i)) := (F_b3.other W1 (Ne.symm (Nat.ne_of_lt (by omega))))
  refine own_by (own_iaload X2 hx hZ e2 F3 0 (by decide) (by decide) (congrArg Value.int hs) (g := (mkF m 11 #[.val (.ref a), .val (.int (0 : Int32)), .val (.int (2 : Int32)), .val (.long vv), .second, .unset, .unset, .unset, .unset, .unset] [(.int (0 : Int32)), (.ref b3), (.ref a)])) rfl rfl (hb hby d11_11)) ?_
  show OEnds p e below s _ _ _ (T2.setTop (mkF m 12 #[.val (.ref a), .val (.int (0 : Int32)), .val (.int (2 : Int32)), .val (.long vv), .second, .unset, .unset, .unset, .unset, .unset] [(.int (0 : Int32)), (.ref a)]))
  obtain ⟨T4, h4, X4, e4, W4, st4⟩ := putF X2 hx hZ hown (host := "") (Or.inl (hw _ (List.mem_of_getElem? (i := 87) rfl))) Via.refl e2 (O1.fld 16 rfl rfl) O1.exa (Or.inl (hw _ (List.mem_of_getElem? (i := 88) rfl))) (hw _ (List.mem_of_getElem? (i := 2) rfl)) (ty := .int) (by decide) rfl rfl (g := (mkF m 12 #[.val (.ref a), .val (.int (0 : Int32)), .val (.int (2 : Int32)), .val (.long vv), .second, .unset, .unset, .unset, .unset, .unset] [(.int (0 : Int32)), (.ref a)])) rfl rfl (hb hby d11_12)
  refine own_by (st4) ?_
  have O4 : Obj Z h4 a "com/example/graphweft/graphweft/RangeMaxTree" sch_rt [(.ref b1), (.ref b2), (.ref b3), (.ref b4), (.ref b5), (.ref b6), (.ref b7), (.int sz), (.int nc), (.int sc), (.int te), (.int ta), (.int se), (.int sa), (.int pn), (.long vv), (.int (0 : Int32)), (.int bs), (.int bc)] := O1.set (so_sch_rt hw) W4 16 rfl (Nat.le_of_ble_eq_true rfl)
  have N4 := Fr.snoc X4 N1 g_a
  have Z4 : n0 ≤ h4.size := Nat.le_trans Z1 (Keep.of_wr W4).1
  have K4 : Keep h0 h4 [a] := K1.wr W4 (Or.inl (List.mem_of_getElem? (i := 0) rfl))
  show OEnds p e below s _ _ _ (T4.setTop (mkF m 15 #[.val (.ref a), .val (.int (0 : Int32)), .val (.int (2 : Int32)), .val (.long vv), .second, .unset, .unset, .unset, .unset, .unset] []))
  refine own_by (fun _ k => XS.aloadN X4.here hx rfl (hb hby d11_15) rfl rfl k) ?_
  show OEnds p e below s _ _ _ (T4.setTop (mkF m 16 #[.val (.ref a), .val (.int (0 : Int32)), .val (.int (2 : Int32)), .val (.long vv), .second, .unset, .unset, .unset, .unset, .unset] [(.ref a)]))
  refine own_by (fun _ k => XS.aloadN X4.here hx rfl (hb hby d11_16) rfl rfl k) ?_
  show OEnds p e below s _ _ _ (T4.setTop (mkF m 17 #[.val (.ref a), .val (.int (0 : Int32)), .val (.int (2 : Int32)), .val (.long vv), .second, .unset, .unset, .unset, .unset, .unset] [(.ref a), (.ref a)]))
  obtain ⟨T5, X5, e5, st5⟩ := getF X4 hx hZ hown (host := "") (Or.inl (hw _ (List.mem_of_getElem? (i := 20) rfl))) Via.refl e4 (O4.fld 4 rfl rfl) (g := (mkF m 17 #[.val (.ref a), .val (.int (0 : Int32)), .val (.int (2 : Int32)), .val (.long vv), .second, .unset, .unset, .unset, .unset, .unset] [(.ref a), (.ref a)])) rfl rfl (hb hby d11_17)
  refine own_by (st5) ?_
  show OEnds p e below s _ _ _ (T5.setTop (mkF m 20 #[.val (.ref a), .val (.int (0 : Int32)), .val (.int (2 : Int32)), .val (.long vv), .second, .unset, .unset, .unset, .unset, .unset] [(.ref b5), (.ref a)]))
  refine own_by (fun _ k => XS.iloadN X5.here hx rfl (hb hby d11_20) rfl k) ?_
  show OEnds p e below s _ _ _ (T5.setTop (mkF m 21 #[.val (.ref a), .val (.int (0 : Int32)), .val (.int (2 : Int32)), .val (.long vv), .second, .unset, .unset, .unset, .unset, .unset] [(.int (0 : Int32)), (.ref b5), (.ref a)]))
  have F6 : FA Z h4 b5 .int 16 (fun i => .int (g5 i)) := ((F_b5.other W1 (Ne.symm (Nat.ne_of_lt (by omega)))).other W4 (Ne.symm (Nat.ne_of_lt (by omega))))
  refine own_by (own_iaload X5 hx hZ e5 F6 0 (by decide) (by decide) (congrArg Value.int hbb) (g := (mkF m 21 #[.val (.ref a), .val (.int (0 : Int32)), .val (.int (2 : Int32)), .val (.long vv), .second, .unset, .unset, .unset, .unset, .unset] [(.int (0 : Int32)), (.ref b5), (.ref a)])) rfl rfl (hb hby d11_21)) ?_
  show OEnds p e below s _ _ _ (T5.setTop (mkF m 22 #[.val (.ref a), .val (.int (0 : Int32)), .val (.int (2 : Int32)), .val (.long vv), .second, .unset, .unset, .unset, .unset, .unset] [(.int (0 : Int32)), (.ref a)]))
  obtain ⟨T7, h7, X7, e7, W7, st7⟩ := putF X5 hx hZ hown (host := "") (Or.inl (hw _ (List.mem_of_getElem? (i := 89) rfl))) Via.refl e5 (O4.fld 17 rfl rfl) O4.exa (Or.inl (hw _ (List.mem_of_getElem? (i := 90) rfl))) (hw _ (List.mem_of_getElem? (i := 2) rfl)) (ty := .int) (by decide) rfl rfl (g := (mkF m 22 #[.val (.ref a), .val (.int (0 : Int32)), .val (.int (2 : Int32)), .val (.long vv), .second, .unset, .unset, .unset, .unset, .unset] [(.int (0 : Int32)), (.ref a)])) rfl rfl (hb hby d11_22)
  refine own_by (st7) ?_
  have O7 : Obj Z h7 a "com/example/graphweft/graphweft/RangeMaxTree" sch_rt [(.ref b1), (.ref b2), (.ref b3), (.ref b4), (.ref b5), (.ref b6), (.ref b7), (.int sz), (.int nc), (.int sc), (.int te), (.int ta), (.int se), (.int sa), (.int pn), (.long vv), (.int (0 : Int32)), (.int (0 : Int32)), (.int bc)] := O4.set (so_sch_rt hw) W7 17 rfl (Nat.le_of_ble_eq_true rfl)
  have N7 := Fr.snoc X7 N4 g_a
  have Z7 : n0 ≤ h7.size := Nat.le_trans Z4 (Keep.of_wr W7).1
  have K7 : Keep h0 h7 [a] := K4.wr W7 (Or.inl (List.mem_of_getElem? (i := 0) rfl))
  show OEnds p e below s _ _ _ (T7.setTop (mkF m 25 #[.val (.ref a), .val (.int (0 : Int32)), .val (.int (2 : Int32)), .val (.long vv), .second, .unset, .unset, .unset, .unset, .unset] []))
  refine own_by (fun _ k => XS.aloadN X7.here hx rfl (hb hby d11_25) rfl rfl k) ?_
  show OEnds p e below s _ _ _ (T7.setTop (mkF m 26 #[.val (.ref a), .val (.int (0 : Int32)), .val (.int (2 : Int32)), .val (.long vv), .second, .unset, .unset, .unset, .unset, .unset] [(.ref a)]))
  obtain ⟨T8, X8, e8, st8⟩ := getF X7 hx hZ hown (host := "") (Or.inl (hw _ (List.mem_of_getElem? (i := 18) rfl))) Via.refl e7 (O7.fld 3 rfl rfl) (g := (mkF m 26 #[.val (.ref a), .val (.int (0 : Int32)), .val (.int (2 : Int32)), .val (.long vv), .second, .unset, .unset, .unset, .unset, .unset] [(.ref a)])) rfl rfl (hb hby d11_26)
  refine own_by (st8) ?_
  show OEnds p e below s _ _ _ (T8.setTop (mkF m 29 #[.val (.ref a), .val (.int (0 : Int32)), .val (.int (2 : Int32)), .val (.long vv), .second, .unset, .unset, .unset, .unset, .unset] [(.ref b4)]))
  refine own_by (fun _ k => XS.iloadN X8.here hx rfl (hb hby d11_29) rfl k) ?_
  show OEnds p e below s _ _ _ (T8.setTop (mkF m 30 #[.val (.ref a), .val (.int (0 : Int32)), .val (.int (2 : Int32)), .val (.long vv), .second, .unset, .unset, .unset, .unset, .unset] [(.int (0 : Int32)), (.ref b4)]))
  have F9 : FA Z h7 b4 .int 16 (fun i => .int (g4 i)) := (((F_b4.other W1 (Ne.symm (Nat.ne_of_lt (by omega)))).other W4 (Ne.symm (Nat.ne_of_lt (by omega)))).other W7 (Ne.symm (Nat.ne_of_lt (by omega))))
  refine own_by (own_iaload X8 hx hZ e8 F9 0 (by decide) (by decide) (congrArg Value.int he) (g := (mkF m 30 #[.val (.ref a), .val (.int (0 : Int32)), .val (.int (2 : Int32)), .val (.long vv), .second, .unset, .unset, .unset, .unset, .unset] [(.int (0 : Int32)), (.ref b4)])) rfl rfl (hb hby d11_30)) ?_
  show OEnds p e below s _ _ _ (T8.setTop (mkF m 31 #[.val (.ref a), .val (.int (0 : Int32)), .val (.int (2 : Int32)), .val (.long vv), .second, .unset, .unset, .unset, .unset, .unset] [(.int (2 : Int32))]))
  refine own_by (fun _ k => XS.aloadN X8.here hx rfl (hb hby d11_31) rfl rfl k) ?_
  show OEnds p e below s _ _ _ (T8.setTop (mkF m 32 #[.val (.ref a), .val (.int (0 : Int32)), .val (.int (2 : Int32)), .val (.long vv), .second, .unset, .unset, .unset, .unset, .unset] [(.ref a), (.int (2 : Int32))]))
  obtain ⟨T10, X10, e10, st10⟩ := getF X8 hx hZ hown (host := "") (Or.inl (hw _ (List.mem_of_getElem? (i := 87) rfl))) Via.refl e8 (O7.fld 16 rfl rfl) (g := (mkF m 32 #[.val (.ref a), .val (.int (0 : Int32)), .val (.int (2 : Int32)), .val (.long vv), .second, .unset, .unset, .unset, .unset, .unset] [(.ref a), (.int (2 : Int32))])) rfl rfl (hb hby d11_32)
  refine own_by (st10) ?_
  show OEnds p e below s _ _ _ (T10.setTop (mkF m 35 #[.val (.ref a), .val (.int (0 : Int32)), .val (.int (2 : Int32)), .val (.long vv), .second, .unset, .unset, .unset, .unset, .unset] [(.int (0 : Int32)), (.int (2 : Int32))]))
  refine own_by (fun _ k => XS.isub X10.here hx rfl (hb hby d11_35) rfl k) ?_
  show OEnds p e below s _ _ _ (T10.setTop (mkF m 36 #[.val (.ref a), .val (.int (0 : Int32)), .val (.int (2 : Int32)), .val (.long vv), .second, .unset, .unset, .unset, .unset, .unset] [(.int (2 : Int32))]))
  refine own_by (fun _ k => XS.istore X10.here hx rfl (hb hby d11_36) rfl (l' := #[.val (.ref a), .val (.int (0 : Int32)), .val (.int (2 : Int32)), .val (.long vv), .second, .val (.int (2 : Int32)), .unset, .unset, .unset, .unset]) rfl k) ?_
  show OEnds p e below s _ _ _ (T10.setTop (mkF m 38 #[.val (.ref a), .val (.int (0 : Int32)), .val (.int (2 : Int32)), .val (.long vv), .second, .val (.int (2 : Int32)), .unset, .unset, .unset, .unset] []))
  refine own_by (fun _ k => XS.aloadN X10.here hx rfl (hb hby d11_38) rfl rfl k) ?_
  show OEnds p e below s _ _ _ (T10.setTop (mkF m 39 #[.val (.ref a), .val (.int (0 : Int32)), .val (.int (2 : Int32)), .val (.long vv), .second, .val (.int (2 : Int32)), .unset, .unset, .unset, .unset] [(.ref a)]))
  refine own_by (fun _ k => XS.iload X10.here hx rfl (hb hby d11_39) rfl k) ?_
  show OEnds p e below s _ _ _ (T10.setTop (mkF m 41 #[.val (.ref a), .val (.int (0 : Int32)), .val (.int (2 : Int32)), .val (.long vv), .second, .val (.int (2 : Int32)), .unset, .unset, .unset, .unset] [(.int (2 : Int32)), (.ref a)]))
  refine own_by (fun _ k => XS.bipush X10.here hx rfl (hb hby d11_41) k) ?_
  show OEnds p e below s _ _ _ (T10.setTop (mkF m 43 #[.val (.ref a), .val (.int (0 : Int32)), .val (.int (2 : Int32)), .val (.long vv), .second, .val (.int (2 : Int32)), .unset, .unset, .unset, .unset] [(.int (8 : Int32)), (.int (2 : Int32)), (.ref a)]))
  refine own_by (fun _ k => XS.idiv X10.here hx rfl (hb hby d11_43) rfl (by decide) k) ?_
  show OEnds p e below s _ _ _ (T10.setTop (mkF m 44 #[.val (.ref a), .val (.int (0 : Int32)), .val (.int (2 : Int32)), .val (.long vv), .second, .val (.int (2 : Int32)), .unset, .unset, .unset, .unset] [(.int (0 : Int32)), (.ref a)]))
  refine own_by (fun _ k => XS.iload X10.here hx rfl (hb hby d11_44) rfl k) ?_
  show OEnds p e below s _ _ _ (T10.setTop (mkF m 46 #[.val (.ref a), .val (.int (0 : Int32)), .val (.int (2 : Int32)), .val (.long vv), .second, .val (.int (2 : Int32)), .unset, .unset, .unset, .unset] [(.int (2 : Int32)), (.int (0 : Int32)), (.ref a)]))
  refine own_by (fun _ k => XS.bipush X10.here hx rfl (hb hby d11_46) k) ?_
  show OEnds p e below s _ _ _ (T10.setTop (mkF m 48 #[.val (.ref a), .val (.int (0 : Int32)), .val (.int (2 : Int32)), .val (.long vv), .second, .val (.int (2 : Int32)), .unset, .unset, .unset, .unset] [(.int (8 : Int32)), (.int (2 : Int32)), (.int (0 : Int32)), (.ref a)]))
  refine own_by (fun _ k => iremM X10 hx rfl (hb hby d11_48) rfl (by decide) k) ?_
  show OEnds p e below s _ _ _ (T10.setTop (mkF m 49 #[.val (.ref a), .val (.int (0 : Int32)), .val (.int (2 : Int32)), .val (.long vv), .second, .val (.int (2 : Int32)), .unset, .unset, .unset, .unset] [(.int (2 : Int32)), (.int (0 : Int32)), (.ref a)]))
  refine own_by (fun _ k => XS.ifYes X10.here hx rfl (pc0 := 49) (pc' := 56) rfl (hb hby d11_49) rfl ((if0 _ _).trans (feq (by decide : ¬ ((2 : Int32) = (0 : Int32)))).2) (by decide) (by decide) k) ?_
  show OEnds p e below s _ _ _ (T10.setTop (mkF m 56 #[.val (.ref a), .val (.int (0 : Int32)), .val (.int (2 : Int32)), .val (.long vv), .second, .val (.int (2 : Int32)), .unset, .unset, .unset, .unset] [(.int (0 : Int32)), (.ref a)]))
  refine own_by (fun _ k => XS.iconst X10.here hx rfl (hb hby d11_56) k) ?_
  show OEnds p e below s _ _ _ (T10.setTop (mkF m 57 #[.val (.ref a), .val (.int (0 : Int32)), .val (.int (2 : Int32)), .val (.long vv), .second, .val (.int (2 : Int32)), .unset, .unset, .unset, .unset] [(.int (1 : Int32)), (.int (0 : Int32)), (.ref a)]))
  refine own_by (fun _ k => XS.iadd X10.here hx rfl (hb hby d11_57) rfl k) ?_
  show OEnds p e below s _ _ _ (T10.setTop (mkF m 58 #[.val (.ref a), .val (.int (0 : Int32)), .val (.int (2 : Int32)), .val (.long vv), .second, .val (.int (2 : Int32)), .unset, .unset, .unset, .unset] [(.int (1 : Int32)), (.ref a)]))
  obtain ⟨T11, h11, X11, e11, W11, st11⟩ := putF X10 hx hZ hown (host := "") (Or.inl (hw _ (List.mem_of_getElem? (i := 91) rfl))) Via.refl e10 (O7.fld 18 rfl rfl) O7.exa (Or.inl (hw _ (List.mem_of_getElem? (i := 92) rfl))) (hw _ (List.mem_of_getElem? (i := 2) rfl)) (ty := .int) (by decide) rfl rfl (g := (mkF m 58 #[.val (.ref a), .val (.int (0 : Int32)), .val (.int (2 : Int32)), .val (.long vv), .second, .val (.int (2 : Int32)), .unset, .unset, .unset, .unset] [(.int (1 : Int32)), (.ref a)])) rfl rfl (hb hby d11_58)
  refine own_by (st11) ?_
  have O11 : Obj Z h11 a "com/example/graphweft/graphweft/RangeMaxTree" sch_rt [(.ref b1), (.ref b2), (.ref b3), (.ref b4), (.ref b5), (.ref b6), (.ref b7), (.int sz), (.int nc), (.int sc), (.int te), (.int ta), (.int se), (.int sa), (.int pn), (.long vv), (.int (0 : Int32)), (.int (0 : Int32)), (.int (1 : Int32))] := O7.set (so_sch_rt hw) W11 18 rfl (Nat.le_of_ble_eq_true rfl)
  have N11 := Fr.snoc X11 N7 g_a
  have Z11 : n0 ≤ h11.size := Nat.le_trans Z7 (Keep.of_wr W11).1
  have K11 : Keep h0 h11 [a] := K7.wr W11 (Or.inl (List.mem_of_getElem? (i := 0) rfl))
  show OEnds p e below s _ _ _ (T11.setTop (mkF m 61 #[.val (.ref a), .val (.int (0 : Int32)), .val (.int (2 : Int32)), .val (.long vv), .second, .val (.int (2 : Int32)), .unset, .unset, .unset, .unset] []))
  refine own_by (fun _ k => XS.aloadN X11.here hx rfl (hb hby d11_61) rfl rfl k) ?_
  show OEnds p e below s _ _ _ (T11.setTop (mkF m 62 #[.val (.ref a), .val (.int (0 : Int32)), .val (.int (2 : Int32)), .val (.long vv), .second, .val (.int (2 : Int32)), .unset, .unset, .unset, .unset] [(.ref a)]))
  refine own_by (fun _ k => XS.iconst X11.here hx rfl (hb hby d11_62) k) ?_
  show OEnds p e below s _ _ _ (T11.setTop (mkF m 63 #[.val (.ref a), .val (.int (0 : Int32)), .val (.int (2 : Int32)), .val (.long vv), .second, .val (.int (2 : Int32)), .unset, .unset, .unset, .unset] [(.int (0 : Int32)), (.ref a)]))
  obtain ⟨T12, h12, X12, e12, W12, st12⟩ := putF X11 hx hZ hown (host := "") (Or.inl (hw _ (List.mem_of_getElem? (i := 45) rfl))) Via.refl e11 (O11.fld 14 rfl rfl) O11.exa (Or.inl (hw _ (List.mem_of_getElem? (i := 46) rfl))) (hw _ (List.mem_of_getElem? (i := 2) rfl)) (ty := .int) (by decide) rfl rfl (g := (mkF m 63 #[.val (.ref a), .val (.int (0 : Int32)), .val (.int (2 : Int32)), .val (.long vv), .second, .val (.int (2 : Int32)), .unset, .unset, .unset, .unset] [(.int (0 : Int32)), (.ref a)])) rfl rfl (hb hby d11_63)
  refine own_by (st12) ?_
  have O12 : Obj Z h12 a "com/example/graphweft/graphweft/RangeMaxTree" sch_rt [(.ref b1), (.ref b2), (.ref b3), (.ref b4), (.ref b5), (.ref b6), (.ref b7), (.int sz), (.int nc), (.int sc), (.int te), (.int ta), (.int se), (.int sa), (.int (0 : Int32)), (.long vv), (.int (0 : Int32)), (.int (0 : Int32)), (.int (1 : Int32))] := O11.set (so_sch_rt hw) W12 14 rfl (Nat.le_of_ble_eq_true rfl)
  have N12 := Fr.snoc X12 N11 g_a
  have Z12 : n0 ≤ h12.size := Nat.le_trans Z11 (Keep.of_wr W12).1
  have K12 : Keep h0 h12 [a] := K11.wr W12 (Or.inl (List.mem_of_getElem? (i := 0) rfl))
  show OEnds p e below s _ _ _ (T12.setTop (mkF m 66 #[.val (.ref a), .val (.int (0 : Int32)), .val (.int (2 : Int32)), .val (.long vv), .second, .val (.int (2 : Int32)), .unset, .unset, .unset, .unset] []))
  refine own_by (fun _ k => XS.aloadN X12.here hx rfl (hb hby d11_66) rfl rfl k) ?_
  show OEnds p e below s _ _ _ (T12.setTop (mkF m 67 #[.val (.ref a), .val (.int (0 : Int32)), .val (.int (2 : Int32)), .val (.long vv), .second, .val (.int (2 : Int32)), .unset, .unset, .unset, .unset] [(.ref a)]))
  refine own_by (fun _ k => XS.aloadN X12.here hx rfl (hb hby d11_67) rfl rfl k) ?_
  show OEnds p e below s _ _ _ (T12.setTop (mkF m 68 #[.val (.ref a), .val (.int (0 : Int32)), .val (.int (2 : Int32)), .val (.long vv), .second, .val (.int (2 : Int32)), .unset, .unset, .unset, .unset] [(.ref a), (.ref a)]))
  refine own_by (fun _ k => XS.iconst X12.here hx rfl (hb hby d11_68) k) ?_
  show OEnds p e below s _ _ _ (T12.setTop (mkF m 69 #[.val (.ref a), .val (.int (0 : Int32)), .val (.int (2 : Int32)), .val (.long vv), .second, .val (.int (2 : Int32)), .unset, .unset, .unset, .unset] [(.int (0 : Int32)), (.ref a), (.ref a)]))
  refine own_by (fun _ k => XS.dupX1 X12.here hx rfl (hb hby d11_69) rfl rfl rfl k) ?_
  show OEnds p e below s _ _ _ (T12.setTop (mkF m 70 #[.val (.ref a), .val (.int (0 : Int32)), .val (.int (2 : Int32)), .val (.long vv), .second, .val (.int (2 : Int32)), .unset, .unset, .unset, .unset] [(.int (0 : Int32)), (.ref a), (.int (0 : Int32)), (.ref a)]))
  obtain ⟨T13, h13, X13, e13, W13, st13⟩ := putF X12 hx hZ hown (host := "") (Or.inl (hw _ (List.mem_of_getElem? (i := 41) rfl))) Via.refl e12 (O12.fld 12 rfl rfl) O12.exa (Or.inl (hw _ (List.mem_of_getElem? (i := 42) rfl))) (hw _ (List.mem_of_getElem? (i := 2) rfl)) (ty := .int) (by decide) rfl rfl (g := (mkF m 70 #[.val (.ref a), .val (.int (0 : Int32)), .val (.int (2 : Int32)), .val (.long vv), .second, .val (.int (2 : Int32)), .unset, .unset, .unset, .unset] [(.int (0 : Int32)), (.ref a), (.int (0 : Int32)), (.ref a)])) rfl rfl (hb hby d11_70)
  refine own_by (st13) ?_
  have O13 : Obj Z h13 a "com/example/graphweft/graphweft/RangeMaxTree" sch_rt [(.ref b1), (.ref b2), (.ref b3), (.ref b4), (.ref b5), (.ref b6), (.ref b7), (.int sz), (.int nc), (.int sc), (.int te), (.int ta), (.int (0 : Int32)), (.int sa), (.int (0 : Int32)), (.long vv), (.int (0 : Int32)), (.int (0 : Int32)), (.int (1 : Int32))] := O12.set (so_sch_rt hw) W13 12 rfl (Nat.le_of_ble_eq_true rfl)
  have N13 := Fr.snoc X13 N12 g_a
  have Z13 : n0 ≤ h13.size := Nat.le_trans Z12 (Keep.of_wr W13).1
  have K13 : Keep h0 h13 [a] := K12.wr W13 (Or.inl (List.mem_of_getElem? (i := 0) rfl))
  show OEnds p e below s _ _ _ (T13.setTop (mkF m 73 #[.val (.ref a), .val (.int (0 : Int32)), .val (.int (2 : Int32)), .val (.long vv), .second, .val (.int (2 : Int32)), .unset, .unset, .unset, .unset] [(.int (0 : Int32)), (.ref a)]))
  obtain ⟨T14, h14, X14, e14, W14, st14⟩ := putF X13 hx hZ hown (host := "") (Or.inl (hw _ (List.mem_of_getElem? (i := 43) rfl))) Via.refl e13 (O13.fld 13 rfl rfl) O13.exa (Or.inl (hw _ (List.mem_of_getElem? (i := 44) rfl))) (hw _ (List.mem_of_getElem? (i := 2) rfl)) (ty := .int) (by decide) rfl rfl (g := (mkF m 73 #[.val (.ref a), .val (.int (0 : Int32)), .val (.int (2 : Int32)), .val (.long vv), .second, .val (.int (2 : Int32)), .unset, .unset, .unset, .unset] [(.int (0 : Int32)), (.ref a)])) rfl rfl (hb hby d11_73)
  refine own_by (st14) ?_
  have O14 : Obj Z h14 a "com/example/graphweft/graphweft/RangeMaxTree" sch_rt [(.ref b1), (.ref b2), (.ref b3), (.ref b4), (.ref b5), (.ref b6), (.ref b7), (.int sz), (.int nc), (.int sc), (.int te), (.int ta), (.int (0 : Int32)), (.int (0 : Int32)), (.int (0 : Int32)), (.long vv), (.int (0 : Int32)), (.int (0 : Int32)), (.int (1 : Int32))] := O13.set (so_sch_rt hw) W14 13 rfl (Nat.le_of_ble_eq_true rfl)
  have N14 := Fr.snoc X14 N13 g_a
  have Z14 : n0 ≤ h14.size := Nat.le_trans Z13 (Keep.of_wr W14).1
  have K14 : Keep h0 h14 [a] := K13.wr W14 (Or.inl (List.mem_of_getElem? (i := 0) rfl))
  show OEnds p e below s _ _ _ (T14.setTop (mkF m 76 #[.val (.ref a), .val (.int (0 : Int32)), .val (.int (2 : Int32)), .val (.long vv), .second, .val (.int (2 : Int32)), .unset, .unset, .unset, .unset] []))
  refine own_by (fun _ k => XS.iloadN X14.here hx rfl (hb hby d11_76) rfl k) ?_
  show OEnds p e below s _ _ _ (T14.setTop (mkF m 77 #[.val (.ref a), .val (.int (0 : Int32)), .val (.int (2 : Int32)), .val (.long vv), .second, .val (.int (2 : Int32)), .unset, .unset, .unset, .unset] [(.int (2 : Int32))]))
  refine own_by (fun _ k => XS.aloadN X14.here hx rfl (hb hby d11_77) rfl rfl k) ?_
  show OEnds p e below s _ _ _ (T14.setTop (mkF m 78 #[.val (.ref a), .val (.int (0 : Int32)), .val (.int (2 : Int32)), .val (.long vv), .second, .val (.int (2 : Int32)), .unset, .unset, .unset, .unset] [(.ref a), (.int (2 : Int32))]))
  obtain ⟨T15, X15, e15, st15⟩ := getF X14 hx hZ hown (host := "") (Or.inl (hw _ (List.mem_of_getElem? (i := 87) rfl))) Via.refl e14 (O14.fld 16 rfl rfl) (g := (mkF m 78 #[.val (.ref a), .val (.int (0 : Int32)), .val (.int (2 : Int32)), .val (.long vv), .second, .val (.int (2 : Int32)), .unset, .unset, .unset, .unset] [(.ref a), (.int (2 : Int32))])) rfl rfl (hb hby d11_78)
  refine own_by (st15) ?_
  show OEnds p e below s _ _ _ (T15.setTop (mkF m 81 #[.val (.ref a), .val (.int (0 : Int32)), .val (.int (2 : Int32)), .val (.long vv), .second, .val (.int (2 : Int32)), .unset, .unset, .unset, .unset] [(.int (0 : Int32)), (.int (2 : Int32))]))
  refine own_by (fun _ k => XS.isub X15.here hx rfl (hb hby d11_81) rfl k) ?_
  show OEnds p e below s _ _ _ (T15.setTop (mkF m 82 #[.val (.ref a), .val (.int (0 : Int32)), .val (.int (2 : Int32)), .val (.long vv), .second, .val (.int (2 : Int32)), .unset, .unset, .unset, .unset] [(.int (2 : Int32))]))
  refine own_by (fun _ k => XS.bipush X15.here hx rfl (hb hby d11_82) k) ?_
  show OEnds p e below s _ _ _ (T15.setTop (mkF m 84 #[.val (.ref a), .val (.int (0 : Int32)), .val (.int (2 : Int32)), .val (.long vv), .second, .val (.int (2 : Int32)), .unset, .unset, .unset, .unset] [(.int (8 : Int32)), (.int (2 : Int32))]))
  refine own_by (fun _ k => XS.idiv X15.here hx rfl (hb hby d11_84) rfl (by decide) k) ?_
  show OEnds p e below s _ _ _ (T15.setTop (mkF m 85 #[.val (.ref a), .val (.int (0 : Int32)), .val (.int (2 : Int32)), .val (.long vv), .second, .val (.int (2 : Int32)), .unset, .unset, .unset, .unset] [(.int (0 : Int32))]))
  refine own_by (fun _ k => XS.istore X15.here hx rfl (hb hby d11_85) rfl (l' := #[.val (.ref a), .val (.int (0 : Int32)), .val (.int (2 : Int32)), .val (.long vv), .second, .val (.int (2 : Int32)), .val (.int (0 : Int32)), .unset, .unset, .unset]) rfl k) ?_
  show OEnds p e below s _ _ _ (T15.setTop (mkF m 87 #[.val (.ref a), .val (.int (0 : Int32)), .val (.int (2 : Int32)), .val (.long vv), .second, .val (.int (2 : Int32)), .val (.int (0 : Int32)), .unset, .unset, .unset] []))
  refine own_by (fun _ k => XS.aloadN X15.here hx rfl (hb hby d11_87) rfl rfl k) ?_
  show OEnds p e below s _ _ _ (T15.setTop (mkF m 88 #[.val (.ref a), .val (.int (0 : Int32)), .val (.int (2 : Int32)), .val (.long vv), .second, .val (.int (2 : Int32)), .val (.int (0 : Int32)), .unset, .unset, .unset] [(.ref a)]))
  refine own_by (fun _ k => XS.aloadN X15.here hx rfl (hb hby d11_88) rfl rfl k) ?_
  show OEnds p e below s _ _ _ (T15.setTop (mkF m 89 #[.val (.ref a), .val (.int (0 : Int32)), .val (.int (2 : Int32)), .val (.long vv), .second, .val (.int (2 : Int32)), .val (.int (0 : Int32)), .unset, .unset, .unset] [(.ref a), (.ref a)]))
  obtain ⟨T16, X16, e16, st16⟩ := getF X15 hx hZ hown (host := "") (Or.inl (hw _ (List.mem_of_getElem? (i := 87) rfl))) Via.refl e15 (O14.fld 16 rfl rfl) (g := (mkF m 89 #[.val (.ref a), .val (.int (0 : Int32)), .val (.int (2 : Int32)), .val (.long vv), .second, .val (.int (2 : Int32)), .val (.int (0 : Int32)), .unset, .unset, .unset] [(.ref a), (.ref a)])) rfl rfl (hb hby d11_89)
  refine own_by (st16) ?_
  show OEnds p e below s _ _ _ (T16.setTop (mkF m 92 #[.val (.ref a), .val (.int (0 : Int32)), .val (.int (2 : Int32)), .val (.long vv), .second, .val (.int (2 : Int32)), .val (.int (0 : Int32)), .unset, .unset, .unset] [(.int (0 : Int32)), (.ref a)]))
  refine own_by (fun _ k => XS.iload X16.here hx rfl (hb hby d11_92) rfl k) ?_
  show OEnds p e below s _ _ _ (T16.setTop (mkF m 94 #[.val (.ref a), .val (.int (0 : Int32)), .val (.int (2 : Int32)), .val (.long vv), .second, .val (.int (2 : Int32)), .val (.int (0 : Int32)), .unset, .unset, .unset] [(.int (0 : Int32)), (.int (0 : Int32)), (.ref a)]))
  refine own_by (fun _ k => XS.bipush X16.here hx rfl (hb hby d11_94) k) ?_
  show OEnds p e below s _ _ _ (T16.setTop (mkF m 96 #[.val (.ref a), .val (.int (0 : Int32)), .val (.int (2 : Int32)), .val (.long vv), .second, .val (.int (2 : Int32)), .val (.int (0 : Int32)), .unset, .unset, .unset] [(.int (8 : Int32)), (.int (0 : Int32)), (.int (0 : Int32)), (.ref a)]))
  refine own_by (fun _ k => XS.imul X16.here hx rfl (hb hby d11_96) rfl k) ?_
  show OEnds p e below s _ _ _ (T16.setTop (mkF m 97 #[.val (.ref a), .val (.int (0 : Int32)), .val (.int (2 : Int32)), .val (.long vv), .second, .val (.int (2 : Int32)), .val (.int (0 : Int32)), .unset, .unset, .unset] [(.int (0 : Int32)), (.int (0 : Int32)), (.ref a)]))
  refine own_by (fun _ k => XS.iadd X16.here hx rfl (hb hby d11_97) rfl k) ?_
  show OEnds p e below s _ _ _ (T16.setTop (mkF m 98 #[.val (.ref a), .val (.int (0 : Int32)), .val (.int (2 : Int32)), .val (.long vv), .second, .val (.int (2 : Int32)), .val (.int (0 : Int32)), .unset, .unset, .unset] [(.int (0 : Int32)), (.ref a)]))
  obtain ⟨T17, h17, X17, e17, W17, st17⟩ := putF X16 hx hZ hown (host := "") (Or.inl (hw _ (List.mem_of_getElem? (i := 39) rfl))) Via.refl e16 (O14.fld 11 rfl rfl) O14.exa (Or.inl (hw _ (List.mem_of_getElem? (i := 40) rfl))) (hw _ (List.mem_of_getElem? (i := 2) rfl)) (ty := .int) (by decide) rfl rfl (g := (mkF m 98 #[.val (.ref a), .val (.int (0 : Int32)), .val (.int (2 : Int32)), .val (.long vv), .second, .val (.int (2 : Int32)), .val (.int (0 : Int32)), .unset, .unset, .unset] [(.int (0 : Int32)), (.ref a)])) rfl rfl (hb hby d11_98)
  refine own_by (st17) ?_
  have O17 : Obj Z h17 a "com/example/graphweft/graphweft/RangeMaxTree" sch_rt [(.ref b1), (.ref b2), (.ref b3), (.ref b4), (.ref b5), (.ref b6), (.ref b7), (.int sz), (.int nc), (.int sc), (.int te), (.int (0 : Int32)), (.int (0 : Int32)), (.int (0 : Int32)), (.int (0 : Int32)), (.long vv), (.int (0 : Int32)), (.int (0 : Int32)), (.int (1 : Int32))] := O14.set (so_sch_rt hw) W17 11 rfl (Nat.le_of_ble_eq_true rfl)
  have N17 := Fr.snoc X17 N14 g_a
  have Z17 : n0 ≤ h17.size := Nat.le_trans Z14 (Keep.of_wr W17).1
  have K17 : Keep h0 h17 [a] := K14.wr W17 (Or.inl (List.mem_of_getElem? (i := 0) rfl))
  show OEnds p e below s _ _ _ (T17.setTop (mkF m 101 #[.val (.ref a), .val (.int (0 : Int32)), .val (.int (2 : Int32)), .val (.long vv), .second, .val (.int (2 : Int32)), .val (.int (0 : Int32)), .unset, .unset, .unset] []))
  refine own_by (fun _ k => XS.aloadN X17.here hx rfl (hb hby d11_101) rfl rfl k) ?_
  show OEnds p e below s _ _ _ (T17.setTop (mkF m 102 #[.val (.ref a), .val (.int (0 : Int32)), .val (.int (2 : Int32)), .val (.long vv), .second, .val (.int (2 : Int32)), .val (.int (0 : Int32)), .unset, .unset, .unset] [(.ref a)]))
  refine own_by (fun _ k => XS.iloadN X17.here hx rfl (hb hby d11_102) rfl k) ?_
  show OEnds p e below s _ _ _ (T17.setTop (mkF m 103 #[.val (.ref a), .val (.int (0 : Int32)), .val (.int (2 : Int32)), .val (.long vv), .second, .val (.int (2 : Int32)), .val (.int (0 : Int32)), .unset, .unset, .unset] [(.int (2 : Int32)), (.ref a)]))
  obtain ⟨T18, h18, X18, e18, W18, st18⟩ := putF X17 hx hZ hown (host := "") (Or.inl (hw _ (List.mem_of_getElem? (i := 37) rfl))) Via.refl e17 (O17.fld 10 rfl rfl) O17.exa (Or.inl (hw _ (List.mem_of_getElem? (i := 38) rfl))) (hw _ (List.mem_of_getElem? (i := 2) rfl)) (ty := .int) (by decide) rfl rfl (g := (mkF m 103 #[.val (.ref a), .val (.int (0 : Int32)), .val (.int (2 : Int32)), .val (.long vv), .second, .val (.int (2 : Int32)), .val (.int (0 : Int32)), .unset, .unset, .unset] [(.int (2 : Int32)), (.ref a)])) rfl rfl (hb hby d11_103)
  refine own_by (st18) ?_
  have O18 : Obj Z h18 a "com/example/graphweft/graphweft/RangeMaxTree" sch_rt [(.ref b1), (.ref b2), (.ref b3), (.ref b4), (.ref b5), (.ref b6), (.ref b7), (.int sz), (.int nc), (.int sc), (.int (2 : Int32)), (.int (0 : Int32)), (.int (0 : Int32)), (.int (0 : Int32)), (.int (0 : Int32)), (.long vv), (.int (0 : Int32)), (.int (0 : Int32)), (.int (1 : Int32))] := O17.set (so_sch_rt hw) W18 10 rfl (Nat.le_of_ble_eq_true rfl)
  have N18 := Fr.snoc X18 N17 g_a
  have Z18 : n0 ≤ h18.size := Nat.le_trans Z17 (Keep.of_wr W18).1
  have K18 : Keep h0 h18 [a] := K17.wr W18 (Or.inl (List.mem_of_getElem? (i := 0) rfl))
  show OEnds p e below s _ _ _ (T18.setTop (mkF m 106 #[.val (.ref a), .val (.int (0 : Int32)), .val (.int (2 : Int32)), .val (.long vv), .second, .val (.int (2 : Int32)), .val (.int (0 : Int32)), .unset, .unset, .unset] []))
  refine own_by (fun _ k => XS.iconst X18.here hx rfl (hb hby d11_106) k) ?_
  show OEnds p e below s _ _ _ (T18.setTop (mkF m 107 #[.val (.ref a), .val (.int (0 : Int32)), .val (.int (2 : Int32)), .val (.long vv), .second, .val (.int (2 : Int32)), .val (.int (0 : Int32)), .unset, .unset, .unset] [(.int (0 : Int32))]))
  refine own_by (fun _ k => XS.istore X18.here hx rfl (hb hby d11_107) rfl (l' := #[.val (.ref a), .val (.int (0 : Int32)), .val (.int (2 : Int32)), .val (.long vv), .second, .val (.int (2 : Int32)), .val (.int (0 : Int32)), .val (.int (0 : Int32)), .unset, .unset]) rfl k) ?_
  show OEnds p e below s _ _ _ (T18.setTop (mkF m 109 #[.val (.ref a), .val (.int (0 : Int32)), .val (.int (2 : Int32)), .val (.long vv), .second, .val (.int (2 : Int32)), .val (.int (0 : Int32)), .val (.int (0 : Int32)), .unset, .unset] []))
  refine own_by (fun _ k => XS.aloadN X18.here hx rfl (hb hby d11_109) rfl rfl k) ?_
  show OEnds p e below s _ _ _ (T18.setTop (mkF m 110 #[.val (.ref a), .val (.int (0 : Int32)), .val (.int (2 : Int32)), .val (.long vv), .second, .val (.int (2 : Int32)), .val (.int (0 : Int32)), .val (.int (0 : Int32)), .unset, .unset] [(.ref a)]))
  obtain ⟨T19, X19, e19, st19⟩ := getF X18 hx hZ hown (host := "") (Or.inl (hw _ (List.mem_of_getElem? (i := 91) rfl))) Via.refl e18 (O18.fld 18 rfl rfl) (g := (mkF m 110 #[.val (.ref a), .val (.int (0 : Int32)), .val (.int (2 : Int32)), .val (.long vv), .second, .val (.int (2 : Int32)), .val (.int (0 : Int32)), .val (.int (0 : Int32)), .unset, .unset] [(.ref a)])) rfl rfl (hb hby d11_110)
  refine own_by (st19) ?_
  show OEnds p e below s _ _ _ (T19.setTop (mkF m 113 #[.val (.ref a), .val (.int (0 : Int32)), .val (.int (2 : Int32)), .val (.long vv), .second, .val (.int (2 : Int32)), .val (.int (0 : Int32)), .val (.int (0 : Int32)), .unset, .unset] [(.int (1 : Int32))]))
  refine own_by (fun _ k => XS.istore X19.here hx rfl (hb hby d11_113) rfl (l' := #[.val (.ref a), .val (.int (0 : Int32)), .val (.int (2 : Int32)), .val (.long vv), .second, .val (.int (2 : Int32)), .val (.int (0 : Int32)), .val (.int (0 : Int32)), .val (.int (1 : Int32)), .unset]) rfl k) ?_
  show OEnds p e below s _ _ _ (T19.setTop (mkF m 115 #[.val (.ref a), .val (.int (0 : Int32)), .val (.int (2 : Int32)), .val (.long vv), .second, .val (.int (2 : Int32)), .val (.int (0 : Int32)), .val (.int (0 : Int32)), .val (.int (1 : Int32)), .unset] []))
  refine own_by (fun _ k => XS.iload X19.here hx rfl (hb hby d11_115) rfl k) ?_
  show OEnds p e below s _ _ _ (T19.setTop (mkF m 117 #[.val (.ref a), .val (.int (0 : Int32)), .val (.int (2 : Int32)), .val (.long vv), .second, .val (.int (2 : Int32)), .val (.int (0 : Int32)), .val (.int (0 : Int32)), .val (.int (1 : Int32)), .unset] [(.int (0 : Int32))]))
  refine own_by (fun _ k => XS.aloadN X19.here hx rfl (hb hby d11_117) rfl rfl k) ?_
  show OEnds p e below s _ _ _ (T19.setTop (mkF m 118 #[.val (.ref a), .val (.int (0 : Int32)), .val (.int (2 : Int32)), .val (.long vv), .second, .val (.int (2 : Int32)), .val (.int (0 : Int32)), .val (.int (0 : Int32)), .val (.int (1 : Int32)), .unset] [(.ref a), (.int (0 : Int32))]))
  obtain ⟨T20, X20, e20, st20⟩ := getF X19 hx hZ hown (host := "") (Or.inl (hw _ (List.mem_of_getElem? (i := 91) rfl))) Via.refl e19 (O18.fld 18 rfl rfl) (g := (mkF m 118 #[.val (.ref a), .val (.int (0 : Int32)), .val (.int (2 : Int32)), .val (.long vv), .second, .val (.int (2 : Int32)), .val (.int (0 : Int32)), .val (.int (0 : Int32)), .val (.int (1 : Int32)), .unset] [(.ref a), (.int (0 : Int32))])) rfl rfl (hb hby d11_118)
  refine own_by (st20) ?_
  show OEnds p e below s _ _ _ (T20.setTop (mkF m 121 #[.val (.ref a), .val (.int (0 : Int32)), .val (.int (2 : Int32)), .val (.long vv), .second, .val (.int (2 : Int32)), .val (.int (0 : Int32)), .val (.int (0 : Int32)), .val (.int (1 : Int32)), .unset] [(.int (1 : Int32)), (.int (0 : Int32))]))
  refine own_by (fun _ k => XS.iadd X20.here hx rfl (hb hby d11_121) rfl k) ?_
  show OEnds p e below s _ _ _ (T20.setTop (mkF m 122 #[.val (.ref a), .val (.int (0 : Int32)), .val (.int (2 : Int32)), .val (.long vv), .second, .val (.int (2 : Int32)), .val (.int (0 : Int32)), .val (.int (0 : Int32)), .val (.int (1 : Int32)), .unset] [(.int (1 : Int32))]))
  refine own_by (fun _ k => XS.istore X20.here hx rfl (hb hby d11_122) rfl (l' := #[.val (.ref a), .val (.int (0 : Int32)), .val (.int (2 : Int32)), .val (.long vv), .second, .val (.int (2 : Int32)), .val (.int (0 : Int32)), .val (.int (0 : Int32)), .val (.int (1 : Int32)), .val (.int (1 : Int32))]) rfl k) ?_
  show OEnds p e below s _ _ _ (T20.setTop (mkF m 124 #[.val (.ref a), .val (.int (0 : Int32)), .val (.int (2 : Int32)), .val (.long vv), .second, .val (.int (2 : Int32)), .val (.int (0 : Int32)), .val (.int (0 : Int32)), .val (.int (1 : Int32)), .val (.int (1 : Int32))] []))
  refine own_by (fun _ k => XS.iload X20.here hx rfl (hb hby d11_124) rfl k) ?_
  show OEnds p e below s _ _ _ (T20.setTop (mkF m 126 #[.val (.ref a), .val (.int (0 : Int32)), .val (.int (2 : Int32)), .val (.long vv), .second, .val (.int (2 : Int32)), .val (.int (0 : Int32)), .val (.int (0 : Int32)), .val (.int (1 : Int32)), .val (.int (1 : Int32))] [(.int (1 : Int32))]))
  refine own_by (fun _ k => XS.iload X20.here hx rfl (hb hby d11_126) rfl k) ?_
  show OEnds p e below s _ _ _ (T20.setTop (mkF m 128 #[.val (.ref a), .val (.int (0 : Int32)), .val (.int (2 : Int32)), .val (.long vv), .second, .val (.int (2 : Int32)), .val (.int (0 : Int32)), .val (.int (0 : Int32)), .val (.int (1 : Int32)), .val (.int (1 : Int32))] [(.int (1 : Int32)), (.int (1 : Int32))]))
  refine own_by (fun _ k => XS.icmpYes X20.here hx rfl (pc0 := 128) (pc' := 198) rfl (hb hby d11_128) rfl (flt (by decide : ¬ ((1 : Int32) < (1 : Int32)))).2.1 (by decide) (by decide) k) ?_
  show OEnds p e below s _ _ _ (T20.setTop (mkF m 198 #[.val (.ref a), .val (.int (0 : Int32)), .val (.int (2 : Int32)), .val (.long vv), .second, .val (.int (2 : Int32)), .val (.int (0 : Int32)), .val (.int (0 : Int32)), .val (.int (1 : Int32)), .val (.int (1 : Int32))] []))
  refine own_by (fun _ k => XS.iload X20.here hx rfl (hb hby d11_198) rfl k) ?_
  show OEnds p e below s _ _ _ (T20.setTop (mkF m 200 #[.val (.ref a), .val (.int (0 : Int32)), .val (.int (2 : Int32)), .val (.long vv), .second, .val (.int (2 : Int32)), .val (.int (0 : Int32)), .val (.int (0 : Int32)), .val (.int (1 : Int32)), .val (.int (1 : Int32))] [(.int (0 : Int32))]))
  refine own_by (fun _ k => XS.ifYes X20.here hx rfl (pc0 := 200) (pc' := 232) rfl (hb hby d11_200) rfl ((if0 _ _).trans (flt (by decide : ¬ ((0 : Int32) < (0 : Int32)))).2.2.2) (by decide) (by decide) k) ?_
  show OEnds p e below s _ _ _ (T20.setTop (mkF m 232 #[.val (.ref a), .val (.int (0 : Int32)), .val (.int (2 : Int32)), .val (.long vv), .second, .val (.int (2 : Int32)), .val (.int (0 : Int32)), .val (.int (0 : Int32)), .val (.int (1 : Int32)), .val (.int (1 : Int32))] []))
  exact own_retV X20 hx hlk Bd.returns (hb hby d11_232) (by rw [e20]; exact ⟨rfl, N18, K18, O18⟩) (by decide) (by decide)
theorem d5_0 : decode prog_32_method_9_code 0 = .ok (.aload_n 0, 1) := by decide +kernel
theorem d5_1 : decode prog_32_method_9_code 1 = .ok (.getfield 51, 3) := by decide +kernel
theorem d5_4 : decode prog_32_method_9_code 4 = .ok (.aload_n 0, 1) := by decide +kernel
theorem d5_5 : decode prog_32_method_9_code 5 = .ok (.getfield 48, 3) := by decide +kernel
theorem d5_8 : decode prog_32_method_9_code 8 = .ok (.if_icmp .ge 34, 3) := by decide +kernel
theorem d5_42 : decode prog_32_method_9_code 42 = .ok (.aload_n 0, 1) := by decide +kernel
theorem d5_43 : decode prog_32_method_9_code 43 = .ok (.getfield 54, 3) := by decide +kernel
theorem d5_46 : decode prog_32_method_9_code 46 = .ok (.ifCond .le 26, 3) := by decide +kernel
theorem d5_72 : decode prog_32_method_9_code 72 = .ok (.aload_n 0, 1) := by decide +kernel
theorem d5_73 : decode prog_32_method_9_code 73 = .ok (.getfield 45, 3) := by decide +kernel
theorem d5_76 : decode prog_32_method_9_code 76 = .ok (.aload_n 0, 1) := by decide +kernel
theorem d5_77 : decode prog_32_method_9_code 77 = .ok (.getfield 42, 3) := by decide +kernel
theorem d5_80 : decode prog_32_method_9_code 80 = .ok (.if_icmp .ge 30, 3) := by decide +kernel
theorem d5_110 : decode prog_32_method_9_code 110 = .ok (.iconst (-1), 1) := by decide +kernel
theorem d5_111 : decode prog_32_method_9_code 111 = .ok (.ireturn, 1) := by decide +kernel
theorem pn_5 : plainName "com/example/graphweft/graphweft/RangeMaxTree" = true := by first | (simp [plainName, overriddenIn]; done) | decide +kernel
theorem ef_5 (m : MethodId) (x0 : Addr) : entryFrame m #[(.ref x0)] 2 = mkF m 0 #[.val (.ref x0), .unset] [] := by first | (simp [entryFrame, mkF, argsToLocals, Value.category]; done) | rfl
set_option maxRecDepth 65536 in
set_option maxHeartbeats 40000000 in
theorem rm_next_0 (l : Launch) (Z : State) (a0 : Array Value) (hw : ∀ d ∈ tables_1, d.before a0 Z = true) (ws : List Jvm.Cond) (a : Addr) (b1 : Addr) (b2 : Addr) (b3 : Addr) (b4 : Addr) (b5 : Addr) (b6 : Addr) (b7 : Addr) (sz : Int32) (nc : Int32) (sc : Int32) (bd : Int64) (ss : Int32) (bs : Int32) (bc : Int32) (g1 : Nat → Int64) (h0 : Heap) (n0 : Nat) (Z0 : n0 ≤ h0.size) (O0 : Obj Z h0 a "com/example/graphweft/graphweft/RangeMaxTree" sch_rt [(.ref b1), (.ref b2), (.ref b3), (.ref b4), (.ref b5), (.ref b6), (.ref b7), (.int sz), (.int nc), (.int sc), (.int (0 : Int32)), (.int (0 : Int32)), (.int (0 : Int32)), (.int (0 : Int32)), (.int (0 : Int32)), (.long bd), (.int ss), (.int bs), (.int bc)]) (F_b1 : FA Z h0 b1 .long 64 (fun i => .long (g1 i))) (hord : @LT.lt Nat instLTNat a b1 ∧ @LT.lt Nat instLTNat b1 b2 ∧ @LT.lt Nat instLTNat b2 b3 ∧ @LT.lt Nat instLTNat b3 b4 ∧ @LT.lt Nat instLTNat b4 b5 ∧ @LT.lt Nat instLTNat b5 b6 ∧ @LT.lt Nat instLTNat b6 b7) :
    MetFree l (⟨"com/example/graphweft/graphweft/RangeMaxTree", "next", "()I"⟩ : MethodName) (head1 (Jvm.Cond.code (⟨"com/example/graphweft/graphweft/RangeMaxTree", "next", "()I"⟩ : MethodName) prog_32_method_9_code 2 (some .int) :: ws) ({ frames := 0, cells := 0, slots := 0, locals := 0 } : Room)) (fun a_ U => a_ = #[(.ref a)] ∧ Z.Warmed39 U.vm ∧ U.heap = h0) (fun _ _ _ _ _ => True) (fun _ U o U' => ∃ v_ L_, o = .returned v_ ∧ QP (.int (-1 : Int32)) h0 v_ U'.heap L_ ∧ FrameEnd U o U' L_ ({ frames := 0, cells := 0, slots := 0, locals := 0 } : Room).cells ({ frames := 0, cells := 0, slots := 0, locals := 0 } : Room).slots) := by
  refine MetFree.of_bodySF (plainFor_of_name pn_5) hisR ?_
  intro p e s m args below meth c s₁ Bd hml0 hP hK
  obtain ⟨rfl, hZ, hh⟩ := hP
  have hx := Bd.exec
  have hby := Bd.bytes
  have hlk : meth.locks = false := Bd.notSynchronized
  have hml : c.maxLocals = 2 := hml0
  have hown : s.vm.findClass "com/example/graphweft/graphweft/RangeMaxTree" = some m.cls := findClass_of_methodNamed Bd.named
  have hnm := (name_of_methodNamed Bd.named Bd.method).1
  have X0 : Stand p l e ({ frames := 0, cells := 0, slots := 0, locals := 0 } : Room) s m #[(.ref a)] below meth c s₁ [] 0 0 := Stand.of_body Bd
  have e0 : s₁.heap = h0 := by rw [← hh, Bd.state]; rfl
  have N0 := Fr.nil n0
  have K0 : Keep h0 h0 [] := Keep.refl _ _
  show OEnds p e below s (QP (.int (-1 : Int32)) h0) _ _ _
  refine own_by (fun t k => castTop (ef_5 m a) k) ?_
  show OEnds p e below s _ _ _ (s₁.setTop (mkF m 0 #[.val (.ref a), .unset] []))
  refine own_by (fun _ k => XS.aloadN X0.here hx rfl (hb hby d5_0) rfl rfl k) ?_
  show OEnds p e below s _ _ _ (s₁.setTop (mkF m 1 #[.val (.ref a), .unset] [(.ref a)]))
  obtain ⟨T1, X1, e1, st1⟩ := getF X0 hx hZ hown (host := "") (Or.inl (hw _ (List.mem_of_getElem? (i := 43) rfl))) Via.refl e0 (O0.fld 13 rfl rfl) (g := (mkF m 1 #[.val (.ref a), .unset] [(.ref a)])) rfl rfl (hb hby d5_1)
  refine own_by (st1) ?_
  show OEnds p e below s _ _ _ (T1.setTop (mkF m 4 #[.val (.ref a), .unset] [(.int (0 : Int32))]))
  refine own_by (fun _ k => XS.aloadN X1.here hx rfl (hb hby d5_4) rfl rfl k) ?_
  show OEnds p e below s _ _ _ (T1.setTop (mkF m 5 #[.val (.ref a), .unset] [(.ref a), (.int (0 : Int32))]))
  obtain ⟨T2, X2, e2, st2⟩ := getF X1 hx hZ hown (host := "") (Or.inl (hw _ (List.mem_of_getElem? (i := 41) rfl))) Via.refl e1 (O0.fld 12 rfl rfl) (g := (mkF m 5 #[.val (.ref a), .unset] [(.ref a), (.int (0 : Int32))])) rfl rfl (hb hby d5_5)
  refine own_by (st2) ?_
  show OEnds p e below s _ _ _ (T2.setTop (mkF m 8 #[.val (.ref a), .unset] [(.int (0 : Int32)), (.int (0 : Int32))]))
  refine own_by (fun _ k => XS.icmpYes X2.here hx rfl (pc0 := 8) (pc' := 42) rfl (hb hby d5_8) rfl (flt (by decide : ¬ ((0 : Int32) < (0 : Int32)))).2.1 (by decide) (by decide) k) ?_
  show OEnds p e below s _ _ _ (T2.setTop (mkF m 42 #[.val (.ref a), .unset] []))
  refine own_by (fun _ k => XS.aloadN X2.here hx rfl (hb hby d5_42) rfl rfl k) ?_
  show OEnds p e below s _ _ _ (T2.setTop (mkF m 43 #[.val (.ref a), .unset] [(.ref a)]))
  obtain ⟨T3, X3, e3, st3⟩ := getF X2 hx hZ hown (host := "") (Or.inl (hw _ (List.mem_of_getElem? (i := 45) rfl))) Via.refl e2 (O0.fld 14 rfl rfl) (g := (mkF m 43 #[.val (.ref a), .unset] [(.ref a)])) rfl rfl (hb hby d5_43)
  refine own_by (st3) ?_
  show OEnds p e below s _ _ _ (T3.setTop (mkF m 46 #[.val (.ref a), .unset] [(.int (0 : Int32))]))
  refine own_by (fun _ k => XS.ifYes X3.here hx rfl (pc0 := 46) (pc' := 72) rfl (hb hby d5_46) rfl ((if0 _ _).trans (flt (by decide : ¬ ((0 : Int32) < (0 : Int32)))).2.2.2) (by decide) (by decide) k) ?_
  show OEnds p e below s _ _ _ (T3.setTop (mkF m 72 #[.val (.ref a), .unset] []))
  refine own_by (fun _ k => XS.aloadN X3.here hx rfl (hb hby d5_72) rfl rfl k) ?_
  show OEnds p e below s _ _ _ (T3.setTop (mkF m 73 #[.val (.ref a), .unset] [(.ref a)]))
  obtain ⟨T4, X4, e4, st4⟩ := getF X3 hx hZ hown (host := "") (Or.inl (hw _ (List.mem_of_getElem? (i := 39) rfl))) Via.refl e3 (O0.fld 11 rfl rfl) (g := (mkF m 73 #[.val (.ref a), .unset] [(.ref a)])) rfl rfl (hb hby d5_73)
  refine own_by (st4) ?_
  show OEnds p e below s _ _ _ (T4.setTop (mkF m 76 #[.val (.ref a), .unset] [(.int (0 : Int32))]))
  refine own_by (fun _ k => XS.aloadN X4.here hx rfl (hb hby d5_76) rfl rfl k) ?_
  show OEnds p e below s _ _ _ (T4.setTop (mkF m 77 #[.val (.ref a), .unset] [(.ref a), (.int (0 : Int32))]))
  obtain ⟨T5, X5, e5, st5⟩ := getF X4 hx hZ hown (host := "") (Or.inl (hw _ (List.mem_of_getElem? (i := 37) rfl))) Via.refl e4 (O0.fld 10 rfl rfl) (g := (mkF m 77 #[.val (.ref a), .unset] [(.ref a), (.int (0 : Int32))])) rfl rfl (hb hby d5_77)
  refine own_by (st5) ?_
  show OEnds p e below s _ _ _ (T5.setTop (mkF m 80 #[.val (.ref a), .unset] [(.int (0 : Int32)), (.int (0 : Int32))]))
  refine own_by (fun _ k => XS.icmpYes X5.here hx rfl (pc0 := 80) (pc' := 110) rfl (hb hby d5_80) rfl (flt (by decide : ¬ ((0 : Int32) < (0 : Int32)))).2.1 (by decide) (by decide) k) ?_
  show OEnds p e below s _ _ _ (T5.setTop (mkF m 110 #[.val (.ref a), .unset] []))
  refine own_by (fun _ k => XS.iconst X5.here hx rfl (hb hby d5_110) k) ?_
  show OEnds p e below s _ _ _ (T5.setTop (mkF m 111 #[.val (.ref a), .unset] [(.int (-1 : Int32))]))
  exact own_retI X5 hx hlk Bd.returns (hb hby d5_111) ⟨rfl, rfl, e5⟩ (by decide) (by decide)
theorem d5_11 : decode prog_32_method_9_code 11 = .ok (.aload_n 0, 1) := by decide +kernel
theorem d5_12 : decode prog_32_method_9_code 12 = .ok (.dup, 1) := by decide +kernel
theorem d5_13 : decode prog_32_method_9_code 13 = .ok (.getfield 51, 3) := by decide +kernel
theorem d5_16 : decode prog_32_method_9_code 16 = .ok (.dup_x1, 1) := by decide +kernel
theorem d5_17 : decode prog_32_method_9_code 17 = .ok (.iconst 1, 1) := by decide +kernel
theorem d5_18 : decode prog_32_method_9_code 18 = .ok (.iadd, 1) := by decide +kernel
theorem d5_19 : decode prog_32_method_9_code 19 = .ok (.putfield 51, 3) := by decide +kernel
theorem d5_22 : decode prog_32_method_9_code 22 = .ok (.istore_n 1, 1) := by decide +kernel
theorem d5_23 : decode prog_32_method_9_code 23 = .ok (.aload_n 0, 1) := by decide +kernel
theorem d5_24 : decode prog_32_method_9_code 24 = .ok (.getfield 7, 3) := by decide +kernel
theorem d5_27 : decode prog_32_method_9_code 27 = .ok (.iload_n 1, 1) := by decide +kernel
theorem d5_28 : decode prog_32_method_9_code 28 = .ok (.laload, 1) := by decide +kernel
theorem d5_29 : decode prog_32_method_9_code 29 = .ok (.aload_n 0, 1) := by decide +kernel
theorem d5_30 : decode prog_32_method_9_code 30 = .ok (.getfield 83, 3) := by decide +kernel
theorem d5_33 : decode prog_32_method_9_code 33 = .ok (.lcmp, 1) := by decide +kernel
theorem d5_34 : decode prog_32_method_9_code 34 = .ok (.ifCond .lt 5, 3) := by decide +kernel
theorem d5_37 : decode prog_32_method_9_code 37 = .ok (.iload_n 1, 1) := by decide +kernel
theorem d5_38 : decode prog_32_method_9_code 38 = .ok (.ireturn, 1) := by decide +kernel
theorem d5_83 : decode prog_32_method_9_code 83 = .ok (.aload_n 0, 1) := by decide +kernel
theorem d5_84 : decode prog_32_method_9_code 84 = .ok (.aload_n 0, 1) := by decide +kernel
theorem d5_85 : decode prog_32_method_9_code 85 = .ok (.getfield 45, 3) := by decide +kernel
theorem d5_88 : decode prog_32_method_9_code 88 = .ok (.putfield 51, 3) := by decide +kernel
theorem d5_91 : decode prog_32_method_9_code 91 = .ok (.aload_n 0, 1) := by decide +kernel
theorem d5_92 : decode prog_32_method_9_code 92 = .ok (.aload_n 0, 1) := by decide +kernel
theorem d5_93 : decode prog_32_method_9_code 93 = .ok (.getfield 42, 3) := by decide +kernel
theorem d5_96 : decode prog_32_method_9_code 96 = .ok (.putfield 48, 3) := by decide +kernel
theorem d5_99 : decode prog_32_method_9_code 99 = .ok (.aload_n 0, 1) := by decide +kernel
theorem d5_100 : decode prog_32_method_9_code 100 = .ok (.aload_n 0, 1) := by decide +kernel
theorem d5_101 : decode prog_32_method_9_code 101 = .ok (.getfield 42, 3) := by decide +kernel
theorem d5_104 : decode prog_32_method_9_code 104 = .ok (.putfield 45, 3) := by decide +kernel
theorem d5_107 : decode prog_32_method_9_code 107 = .ok (.goto (-107), 3) := by decide +kernel
def Q_next_1 (Z : State) (a : Addr) (b1 : Addr) (b2 : Addr) (b3 : Addr) (b4 : Addr) (b5 : Addr) (b6 : Addr) (b7 : Addr) (sz : Int32) (nc : Int32) (sc : Int32) (bd : Int64) (ss : Int32) (bs : Int32) (bc : Int32) (g1 : Nat → Int64) (h0 : Heap) (n0 : Nat) (r : Option Value) (h : Heap) (L : List Loc) : Prop := r = some (.int (0 : Int32)) ∧ Fr n0 L ∧ Keep h0 h [a] ∧ Obj Z h a "com/example/graphweft/graphweft/RangeMaxTree" sch_rt [(.ref b1), (.ref b2), (.ref b3), (.ref b4), (.ref b5), (.ref b6), (.ref b7), (.int sz), (.int nc), (.int sc), (.int (1 : Int32)), (.int (1 : Int32)), (.int (1 : Int32)), (.int (1 : Int32)), (.int (0 : Int32)), (.long bd), (.int ss), (.int bs), (.int bc)]
set_option maxRecDepth 65536 in
set_option maxHeartbeats 40000000 in
theorem rm_next_1 (l : Launch) (Z : State) (a0 : Array Value) (hw : ∀ d ∈ tables_1, d.before a0 Z = true) (ws : List Jvm.Cond) (a : Addr) (b1 : Addr) (b2 : Addr) (b3 : Addr) (b4 : Addr) (b5 : Addr) (b6 : Addr) (b7 : Addr) (sz : Int32) (nc : Int32) (sc : Int32) (bd : Int64) (ss : Int32) (bs : Int32) (bc : Int32) (g1 : Nat → Int64) (h0 : Heap) (n0 : Nat) (Z0 : n0 ≤ h0.size) (O0 : Obj Z h0 a "com/example/graphweft/graphweft/RangeMaxTree" sch_rt [(.ref b1), (.ref b2), (.ref b3), (.ref b4), (.ref b5), (.ref b6), (.ref b7), (.int sz), (.int nc), (.int sc), (.int (1 : Int32)), (.int (0 : Int32)), (.int (0 : Int32)), (.int (0 : Int32)), (.int (0 : Int32)), (.long bd), (.int ss), (.int bs), (.int bc)]) (F_b1 : FA Z h0 b1 .long 64 (fun i => .long (g1 i))) (g_a : n0 ≤ a) (hord : @LT.lt Nat instLTNat a b1 ∧ @LT.lt Nat instLTNat b1 b2 ∧ @LT.lt Nat instLTNat b2 b3 ∧ @LT.lt Nat instLTNat b3 b4 ∧ @LT.lt Nat instLTNat b4 b5 ∧ @LT.lt Nat instLTNat b5 b6 ∧ @LT.lt Nat instLTNat b6 b7) (hge : ¬ (g1 0) < bd) :
    MetFree l (⟨"com/example/graphweft/graphweft/RangeMaxTree", "next", "()I"⟩ : MethodName) (head1 (Jvm.Cond.code (⟨"com/example/graphweft/graphweft/RangeMaxTree", "next", "()I"⟩ : MethodName) prog_32_method_9_code 2 (some .int) :: ws) ({ frames := 0, cells := 0, slots := 0, locals := 0 } : Room)) (fun a_ U => a_ = #[(.ref a)] ∧ Z.Warmed39 U.vm ∧ U.heap = h0) (fun _ _ _ _ _ => True) (fun _ U o U' => ∃ v_ L_, o = .returned v_ ∧ Q_next_1 Z a b1 b2 b3 b4 b5 b6 b7 sz nc sc bd ss bs bc g1 h0 n0 v_ U'.heap L_ ∧ FrameEnd U o U' L_ ({ frames := 0, cells := 0, slots := 0, locals := 0 } : Room).cells ({ frames := 0, cells := 0, slots := 0, locals := 0 } : Room).slots) := by
  refine MetFree.of_bodySF (plainFor_of_name pn_5) hisR ?_
  intro p e s m args below meth c s₁ Bd hml0 hP hK
  obtain ⟨rfl, hZ, hh⟩ := hP
  have hx := Bd.exec
  have hby := Bd.bytes
  have hlk : meth.locks = false := Bd.notSynchronized
  have hml : c.maxLocals = 2 := hml0
  have hown : s.vm.findClass "com/example/graphweft/graphweft/RangeMaxTree" = some m.cls := findClass_of_methodNamed Bd.named
  have hnm := (name_of_methodNamed Bd.named Bd.method).1
  have X0 : Stand p l e ({ frames := 0, cells := 0, slots := 0, locals := 0 } : Room) s m #[(.ref a)] below meth c s₁ [] 0 0 := Stand.of_body Bd
  have e0 : s₁.heap = h0 := by rw [← hh, Bd.state]; rfl
  have N0 := Fr.nil n0
  have K0 : Keep h0 h0 [a] := Keep.refl _ _
  show OEnds p e below s (Q_next_1 Z a b1 b2 b3 b4 b5 b6 b7 sz nc sc bd ss bs bc g1 h0 n0) _ _ _
  refine own_by (fun t k => castTop (ef_5 m a) k) ?_
  show OEnds p e below s _ _ _ (s₁.setTop (mkF m 0 #[.val (.ref a), .unset] []))
  refine own_by (fun _ k => XS.aloadN X0.here hx rfl (hb hby d5_0) rfl rfl k) ?_
  show OEnds p e below s _ _ _ (s₁.setTop (mkF m 1 #[.val (.ref a), .unset] [(.ref a)]))
  obtain ⟨T1, X1, e1, st1⟩ := getF X0 hx hZ hown (host := "") (Or.inl (hw _ (List.mem_of_getElem? (i := 43) rfl))) Via.refl e0 (O0.fld 13 rfl rfl) (g := (mkF m 1 #[.val (.ref a), .unset] [(.ref a)])) rfl rfl (hb hby d5_1)
  refine own_by (st1) ?_
  show OEnds p e below s _ _ _ (T1.setTop (mkF m 4 #[.val (.ref a), .unset] [(.int (0 : Int32))]))
  refine own_by (fun _ k => XS.aloadN X1.here hx rfl (hb hby d5_4) rfl rfl k) ?_
  show OEnds p e below s _ _ _ (T1.setTop (mkF m 5 #[.val (.ref a), .unset] [(.ref a), (.int (0 : Int32))]))
  obtain ⟨T2, X2, e2, st2⟩ := getF X1 hx hZ hown (host := "") (Or.inl (hw _ (List.mem_of_getElem? (i := 41) rfl))) Via.refl e1 (O0.fld 12 rfl rfl) (g := (mkF m 5 #[.val (.ref a), .unset] [(.ref a), (.int (0 : Int32))])) rfl rfl (hb hby d5_5)
  refine own_by (st2) ?_
  show OEnds p e below s _ _ _ (T2.setTop (mkF m 8 #[.val (.ref a), .unset] [(.int (0 : Int32)), (.int (0 : Int32))]))
  refine own_by (fun _ k => XS.icmpYes X2.here hx rfl (pc0 := 8) (pc' := 42) rfl (hb hby d5_8) rfl (flt (by decide : ¬ ((0 : Int32) < (0 : Int32)))).2.1 (by decide) (by decide) k) ?_
  show OEnds p e below s _ _ _ (T2.setTop (mkF m 42 #[.val (.ref a), .unset] []))
  refine own_by (fun _ k => XS.aloadN X2.here hx rfl (hb hby d5_42) rfl rfl k) ?_
  show OEnds p e below s _ _ _ (T2.setTop (mkF m 43 #[.val (.ref a), .unset] [(.ref a)]))
  obtain ⟨T3, X3, e3, st3⟩ := getF X2 hx hZ hown (host := "") (Or.inl (hw _ (List.mem_of_getElem? (i := 45) rfl))) Via.refl e2 (O0.fld 14 rfl rfl) (g := (mkF m 43 #[.val (.ref a), .unset] [(.ref a)])) rfl rfl (hb hby d5_43)
  refine own_by (st3) ?_
  show OEnds p e below s _ _ _ (T3.setTop (mkF m 46 #[.val (.ref a), .unset] [(.int (0 : Int32))]))
  refine own_by (fun _ k => XS.ifYes X3.here hx rfl (pc0 := 46) (pc' := 72) rfl (hb hby d5_46) rfl ((if0 _ _).trans (flt (by decide : ¬ ((0 : Int32) < (0 : Int32)))).2.2.2) (by decide) (by decide) k) ?_
  show OEnds p e below s _ _ _ (T3.setTop (mkF m 72 #[.val (.ref a), .unset] []))
  refine own_by (fun _ k => XS.aloadN X3.here hx rfl (hb hby d5_72) rfl rfl k) ?_
  show OEnds p e below s _ _ _ (T3.setTop (mkF m 73 #[.val (.ref a), .unset] [(.ref a)]))
  obtain ⟨T4, X4, e4, st4⟩ := getF X3 hx hZ hown (host := "") (Or.inl (hw _ (List.mem_of_getElem? (i := 39) rfl))) Via.refl e3 (O0.fld 11 rfl rfl) (g := (mkF m 73 #[.val (.ref a), .unset] [(.ref a)])) rfl rfl (hb hby d5_73)
  refine own_by (st4) ?_
  show OEnds p e below s _ _ _ (T4.setTop (mkF m 76 #[.val (.ref a), .unset] [(.int (0 : Int32))]))
  refine own_by (fun _ k => XS.aloadN X4.here hx rfl (hb hby d5_76) rfl rfl k) ?_
  show OEnds p e below s _ _ _ (T4.setTop (mkF m 77 #[.val (.ref a), .unset] [(.ref a), (.int (0 : Int32))]))
  obtain ⟨T5, X5, e5, st5⟩ := getF X4 hx hZ hown (host := "") (Or.inl (hw _ (List.mem_of_getElem? (i := 37) rfl))) Via.refl e4 (O0.fld 10 rfl rfl) (g := (mkF m 77 #[.val (.ref a), .unset] [(.ref a), (.int (0 : Int32))])) rfl rfl (hb hby d5_77)
  refine own_by (st5) ?_
  show OEnds p e below s _ _ _ (T5.setTop (mkF m 80 #[.val (.ref a), .unset] [(.int (1 : Int32)), (.int (0 : Int32))]))
  refine own_by (fun _ k => XS.icmpNo X5.here hx rfl (hb hby d5_80) rfl (tlt (by decide : (0 : Int32) < (1 : Int32))).2.1 k) ?_
  show OEnds p e below s _ _ _ (T5.setTop (mkF m 83 #[.val (.ref a), .unset] []))
  refine own_by (fun _ k => XS.aloadN X5.here hx rfl (hb hby d5_83) rfl rfl k) ?_
  show OEnds p e below s _ _ _ (T5.setTop (mkF m 84 #[.val (.ref a), .unset] [(.ref a)]))
  refine own_by (fun _ k => XS.aloadN X5.here hx rfl (hb hby d5_84) rfl rfl k) ?_
  show OEnds p e below s _ _ _ (T5.setTop (mkF m 85 #[.val (.ref a), .unset] [(.ref a), (.ref a)]))
  obtain ⟨T6, X6, e6, st6⟩ := getF X5 hx hZ hown (host := "") (Or.inl (hw _ (List.mem_of_getElem? (i := 39) rfl))) Via.refl e5 (O0.fld 11 rfl rfl) (g := (mkF m 85 #[.val (.ref a), .unset] [(.ref a), (.ref a)])) rfl rfl (hb hby d5_85)
  refine own_by (st6) ?_
  show OEnds p e below s _ _ _ (T6.setTop (mkF m 88 #[.val (.ref a), .unset] [(.int (0 : Int32)), (.ref a)]))
  obtain ⟨T7, h7, X7, e7, W7, st7⟩ := putF X6 hx hZ hown (host := "") (Or.inl (hw _ (List.mem_of_getElem? (i := 43) rfl))) Via.refl e6 (O0.fld 13 rfl rfl) O0.exa (Or.inl (hw _ (List.mem_of_getElem? (i := 44) rfl))) (hw _ (List.mem_of_getElem? (i := 2) rfl)) (ty := .int) (by decide) rfl rfl (g := (mkF m 88 #[.val (.ref a), .unset] [(.int (0 : Int32)), (.ref a)])) rfl rfl (hb hby d5_88)
  refine own_by (st7) ?_
  have O7 : Obj Z h7 a "com/example/graphweft/graphweft/RangeMaxTree" sch_rt [(.ref b1), (.ref b2), (.ref b3), (.ref b4), (.ref b5), (.ref b6), (.ref b7), (.int sz), (.int nc), (.int sc), (.int (1 : Int32)), (.int (0 : Int32)), (.int (0 : Int32)), (.int (0 : Int32)), (.int (0 : Int32)), (.long bd), (.int ss), (.int bs), (.int bc)] := O0.set (so_sch_rt hw) W7 13 rfl (Nat.le_of_ble_eq_true rfl)
  have N7 := Fr.snoc X7 N0 g_a
  have Z7 : n0 ≤ h7.size := Nat.le_trans Z0 (Keep.of_wr W7).1
  have K7 : Keep h0 h7 [a] := K0.wr W7 (Or.inl (List.mem_of_getElem? (i := 0) rfl))
  show OEnds p e below s _ _ _ (T7.setTop (mkF m 91 #[.val (.ref a), .unset] []))
  refine own_by (fun _ k => XS.aloadN X7.here hx rfl (hb hby d5_91) rfl rfl k) ?_
  show OEnds p e below s _ _ _ (T7.setTop (mkF m 92 #[.val (.ref a), .unset] [(.ref a)]))
  refine own_by (fun _ k => XS.aloadN X7.here hx rfl (hb hby d5_92) rfl rfl k) ?_
  show OEnds p e below s _ _ _ (T7.setTop (mkF m 93 #[.val (.ref a), .unset] [(.ref a), (.ref a)]))
  obtain ⟨T8, X8, e8, st8⟩ := getF X7 hx hZ hown (host := "") (Or.inl (hw _ (List.mem_of_getElem? (i := 37) rfl))) Via.refl e7 (O7.fld 10 rfl rfl) (g := (mkF m 93 #[.val (.ref a), .unset] [(.ref a), (.ref a)])) rfl rfl (hb hby d5_93)
  refine own_by (st8) ?_
  show OEnds p e below s _ _ _ (T8.setTop (mkF m 96 #[.val (.ref a), .unset] [(.int (1 : Int32)), (.ref a)]))
  obtain ⟨T9, h9, X9, e9, W9, st9⟩ := putF X8 hx hZ hown (host := "") (Or.inl (hw _ (List.mem_of_getElem? (i := 41) rfl))) Via.refl e8 (O7.fld 12 rfl rfl) O7.exa (Or.inl (hw _ (List.mem_of_getElem? (i := 42) rfl))) (hw _ (List.mem_of_getElem? (i := 2) rfl)) (ty := .int) (by decide) rfl rfl (g := (mkF m 96 #[.val (.ref a), .unset] [(.int (1 : Int32)), (.ref a)])) rfl rfl (hb hby d5_96)
  refine own_by (st9) ?_
  have O9 : Obj Z h9 a "com/example/graphweft/graphweft/RangeMaxTree" sch_rt [(.ref b1), (.ref b2), (.ref b3), (.ref b4), (.ref b5), (.ref b6), (.ref b7), (.int sz), (.int nc), (.int sc), (.int (1 : Int32)), (.int (0 : Int32)), (.int (1 : Int32)), (.int (0 : Int32)), (.int (0 : Int32)), (.long bd), (.int ss), (.int bs), (.int bc)] := O7.set (so_sch_rt hw) W9 12 rfl (Nat.le_of_ble_eq_true rfl)
  have N9 := Fr.snoc X9 N7 g_a
  have Z9 : n0 ≤ h9.size := Nat.le_trans Z7 (Keep.of_wr W9).1
  have K9 : Keep h0 h9 [a] := K7.wr W9 (Or.inl (List.mem_of_getElem? (i := 0) rfl))
  show OEnds p e below s _ _ _ (T9.setTop (mkF m 99 #[.val (.ref a), .unset] []))
  refine own_by (fun _ k => XS.aloadN X9.here hx rfl (hb hby d5_99) rfl rfl k) ?_
  show OEnds p e below s _ _ _ (T9.setTop (mkF m 100 #[.val (.ref a), .unset] [(.ref a)]))
  refine own_by (fun _ k => XS.aloadN X9.here hx rfl (hb hby d5_100) rfl rfl k) ?_
  show OEnds p e below s _ _ _ (T9.setTop (mkF m 101 #[.val (.ref a), .unset] [(.ref a), (.ref a)]))
  obtain ⟨T10, X10, e10, st10⟩ := getF X9 hx hZ hown (host := "") (Or.inl (hw _ (List.mem_of_getElem? (i := 37) rfl))) Via.refl e9 (O9.fld 10 rfl rfl) (g := (mkF m 101 #[.val (.ref a), .unset] [(.ref a), (.ref a)])) rfl rfl (hb hby d5_101)
  refine own_by (st10) ?_
  show OEnds p e below s _ _ _ (T10.setTop (mkF m 104 #[.val (.ref a), .unset] [(.int (1 : Int32)), (.ref a)]))
  obtain ⟨T11, h11, X11, e11, W11, st11⟩ := putF X10 hx hZ hown (host := "") (Or.inl (hw _ (List.mem_of_getElem? (i := 39) rfl))) Via.refl e10 (O9.fld 11 rfl rfl) O9.exa (Or.inl (hw _ (List.mem_of_getElem? (i := 40) rfl))) (hw _ (List.mem_of_getElem? (i := 2) rfl)) (ty := .int) (by decide) rfl rfl (g := (mkF m 104 #[.val (.ref a), .unset] [(.int (1 : Int32)), (.ref a)])) rfl rfl (hb hby d5_104)
  refine own_by (st11) ?_
  have O11 : Obj Z h11 a "com/example/graphweft/graphweft/RangeMaxTree" sch_rt [(.ref b1), (.ref b2), (.ref b3), (.ref b4), (.ref b5), (.ref b6), (.ref b7), (.int sz), (.int nc), (.int sc), (.int (1 : Int32)), (.int (1 : Int32)), (.int (1 : Int32)), (.int (0 : Int32)), (.int (0 : Int32)), (.long bd), (.int ss), (.int bs), (.int bc)] := O9.set (so_sch_rt hw) W11 11 rfl (Nat.le_of_ble_eq_true rfl)
  have N11 := Fr.snoc X11 N9 g_a
  have Z11 : n0 ≤ h11.size := Nat.le_trans Z9 (Keep.of_wr W11).1
  have K11 : Keep h0 h11 [a] := K9.wr W11 (Or.inl (List.mem_of_getElem? (i := 0) rfl))
  show OEnds p e below s _ _ _ (T11.setTop (mkF m 107 #[.val (.ref a), .unset] []))
  refine own_by (fun _ k => XS.goto X11.here hx rfl (pc0 := 107) (pc' := 0) rfl (hb hby d5_107) (by decide) (by decide) k) ?_
  show OEnds p e below s _ _ _ (T11.setTop (mkF m 0 #[.val (.ref a), .unset] []))
  refine own_by (fun _ k => XS.aloadN X11.here hx rfl (hb hby d5_0) rfl rfl k) ?_
  show OEnds p e below s _ _ _ (T11.setTop (mkF m 1 #[.val (.ref a), .unset] [(.ref a)]))
  obtain ⟨T12, X12, e12, st12⟩ := getF X11 hx hZ hown (host := "") (Or.inl (hw _ (List.mem_of_getElem? (i := 43) rfl))) Via.refl e11 (O11.fld 13 rfl rfl) (g := (mkF m 1 #[.val (.ref a), .unset] [(.ref a)])) rfl rfl (hb hby d5_1)
  refine own_by (st12) ?_
  show OEnds p e below s _ _ _ (T12.setTop (mkF m 4 #[.val (.ref a), .unset] [(.int (0 : Int32))]))
  refine own_by (fun _ k => XS.aloadN X12.here hx rfl (hb hby d5_4) rfl rfl k) ?_
  show OEnds p e below s _ _ _ (T12.setTop (mkF m 5 #[.val (.ref a), .unset] [(.ref a), (.int (0 : Int32))]))
  obtain ⟨T13, X13, e13, st13⟩ := getF X12 hx hZ hown (host := "") (Or.inl (hw _ (List.mem_of_getElem? (i := 41) rfl))) Via.refl e12 (O11.fld 12 rfl rfl) (g := (mkF m 5 #[.val (.ref a), .unset] [(.ref a), (.int (0 : Int32))])) rfl rfl (hb hby d5_5)
  refine own_by (st13) ?_
  show OEnds p e below s _ _ _ (T13.setTop (mkF m 8 #[.val (.ref a), .unset] [(.int (1 : Int32)), (.int (0 : Int32))]))
  refine own_by (fun _ k => XS.icmpNo X13.here hx rfl (hb hby d5_8) rfl (tlt (by decide : (0 : Int32) < (1 : Int32))).2.1 k) ?_
  show OEnds p e below s _ _ _ (T13.setTop (mkF m 11 #[.val (.ref a), .unset] []))
  refine own_by (fun _ k => XS.aloadN X13.here hx rfl (hb hby d5_11) rfl rfl k) ?_
  show OEnds p e below s _ _ _ (T13.setTop (mkF m 12 #[.val (.ref a), .unset] [(.ref a)]))
  refine own_by (fun _ k => XS.dup X13.here hx rfl (hb hby d5_12) rfl rfl k) ?_
  show OEnds p e below s _ _ _ (T13.setTop (mkF m 13 #[.val (.ref a), .unset] [(.ref a), (.ref a)]))
  obtain ⟨T14, X14, e14, st14⟩ := getF X13 hx hZ hown (host := "") (Or.inl (hw _ (List.mem_of_getElem? (i := 43) rfl))) Via.refl e13 (O11.fld 13 rfl rfl) (g := (mkF m 13 #[.val (.ref a), .unset] [(.ref a), (.ref a)])) rfl rfl (hb hby d5_13)
  refine own_by (st14) ?_
  show OEnds p e below s _ _ _ (T14.setTop (mkF m 16 #[.val (.ref a), .unset] [(.int (0 : Int32)), (.ref a)]))
  refine own_by (fun _ k => XS.dupX1 X14.here hx rfl (hb hby d5_16) rfl rfl rfl k) ?_
  show OEnds p e below s _ _ _ (T14.setTop (mkF m 17 #[.val (.ref a), .unset] [(.int (0 : Int32)), (.ref a), (.int (0 : Int32))]))
  refine own_by (fun _ k => XS.iconst X14.here hx rfl (hb hby d5_17) k) ?_
  show OEnds p e below s _ _ _ (T14.setTop (mkF m 18 #[.val (.ref a), .unset] [(.int (1 : Int32)), (.int (0 : Int32)), (.ref a), (.int (0 : Int32))]))
  refine own_by (fun _ k => XS.iadd X14.here hx rfl (hb hby d5_18) rfl k) ?_
  show OEnds p e below s _ _ _ (T14.setTop (mkF m 19 #[.val (.ref a), .unset] [(.int (1 : Int32)), (.ref a), (.int (0 : Int32))]))
  obtain ⟨T15, h15, X15, e15, W15, st15⟩ := putF X14 hx hZ hown (host := "") (Or.inl (hw _ (List.mem_of_getElem? (i := 43) rfl))) Via.refl e14 (O11.fld 13 rfl rfl) O11.exa (Or.inl (hw _ (List.mem_of_getElem? (i := 44) rfl))) (hw _ (List.mem_of_getElem? (i := 2) rfl)) (ty := .int) (by decide) rfl rfl (g := (mkF m 19 #[.val (.ref a), .unset] [(.int (1 : Int32)), (.ref a), (.int (0 : Int32))])) rfl rfl (hb hby d5_19)
  refine own_by (st15) ?_
  have O15 : Obj Z h15 a "com/example/graphweft/graphweft/RangeMaxTree" sch_rt [(.ref b1), (.ref b2), (.ref b3), (.ref b4), (.ref b5), (.ref b6), (.ref b7), (.int sz), (.int nc), (.int sc), (.int (1 : Int32)), (.int (1 : Int32)), (.int (1 : Int32)), (.int (1 : Int32)), (.int (0 : Int32)), (.long bd), (.int ss), (.int bs), (.int bc)] := O11.set (so_sch_rt hw) W15 13 rfl (Nat.le_of_ble_eq_true rfl)
  have N15 := Fr.snoc X15 N11 g_a
  have Z15 : n0 ≤ h15.size := Nat.le_trans Z11 (Keep.of_wr W15).1
  have K15 : Keep h0 h15 [a] := K11.wr W15 (Or.inl (List.mem_of_getElem? (i := 0) rfl))
  show OEnds p e below s _ _ _ (T15.setTop (mkF m 22 #[.val (.ref a), .unset] [(.int (0 : Int32))]))
  refine own_by (fun _ k => XS.istoreN X15.here hx rfl (hb hby d5_22) rfl (l' := #[.val (.ref a), .val (.int (0 : Int32))]) rfl k) ?_
  show OEnds p e below s _ _ _ (T15.setTop (mkF m 23 #[.val (.ref a), .val (.int (0 : Int32))] []))
  refine own_by (fun _ k => XS.aloadN X15.here hx rfl (hb hby d5_23) rfl rfl k) ?_
  show OEnds p e below s _ _ _ (T15.setTop (mkF m 24 #[.val (.ref a), .val (.int (0 : Int32))] [(.ref a)]))
  obtain ⟨T16, X16, e16, st16⟩ := getF X15 hx hZ hown (host := "") (Or.inl (hw _ (List.mem_of_getElem? (i := 11) rfl))) Via.refl e15 (O15.fld 0 rfl rfl) (g := (mkF m 24 #[.val (.ref a), .val (.int (0 : Int32))] [(.ref a)])) rfl rfl (hb hby d5_24)
  refine own_by (st16) ?_
  show OEnds p e below s _ _ _ (T16.setTop (mkF m 27 #[.val (.ref a), .val (.int (0 : Int32))] [(.ref b1)]))
  refine own_by (fun _ k => XS.iloadN X16.here hx rfl (hb hby d5_27) rfl k) ?_
  show OEnds p e below s _ _ _ (T16.setTop (mkF m 28 #[.val (.ref a), .val (.int (0 : Int32))] [(.int (0 : Int32)), (.ref b1)]))
  have F17 : FA Z h15 b1 .long 64 (fun i => .long (g1 i)) := ((((F_b1.other W7 (Ne.symm (Nat.ne_of_lt (by omega)))).other W9 (Ne.symm (Nat.ne_of_lt (by omega)))).other W11 (Ne.symm (Nat.ne_of_lt (by omega)))).other W15 (Ne.symm (Nat.ne_of_lt (by omega))))
  refine own_by (own_laload X16 hx hZ e16 F17 0 (by decide) (by decide) rfl (g := (mkF m 28 #[.val (.ref a), .val (.int (0 : Int32))] [(.int (0 : Int32)), (.ref b1)])) rfl rfl (hb hby d5_28)) ?_
  show OEnds p e below s _ _ _ (T16.setTop (mkF m 29 #[.val (.ref a), .val (.int (0 : Int32))] [(.long (g1 0))]))
  refine own_by (fun _ k => XS.aloadN X16.here hx rfl (hb hby d5_29) rfl rfl k) ?_
  show OEnds p e below s _ _ _ (T16.setTop (mkF m 30 #[.val (.ref a), .val (.int (0 : Int32))] [(.ref a), (.long (g1 0))]))
  obtain ⟨T18, X18, e18, st18⟩ := getF X16 hx hZ hown (host := "") (Or.inl (hw _ (List.mem_of_getElem? (i := 85) rfl))) Via.refl e16 (O15.fld 15 rfl rfl) (g := (mkF m 30 #[.val (.ref a), .val (.int (0 : Int32))] [(.ref a), (.long (g1 0))])) rfl rfl (hb hby d5_30)
  refine own_by (st18) ?_
  show OEnds p e below s _ _ _ (T18.setTop (mkF m 33 #[.val (.ref a), .val (.int (0 : Int32))] [(.long bd), (.long (g1 0))]))
  refine own_by (fun _ k => XS.lcmp X18.here hx rfl (hb hby d5_33) rfl k) ?_
  show OEnds p e below s _ _ _ (T18.setTop (mkF m 34 #[.val (.ref a), .val (.int (0 : Int32))] [(.int (lcmpW (g1 0) bd))]))
  refine own_by (fun _ k => XS.ifNo X18.here hx rfl (hb hby d5_34) rfl ((if0 _ _).trans (flt (fun q => hge ((lw_lt _ _).mp q))).1) k) ?_
  show OEnds p e below s _ _ _ (T18.setTop (mkF m 37 #[.val (.ref a), .val (.int (0 : Int32))] []))
  refine own_by (fun _ k => XS.iloadN X18.here hx rfl (hb hby d5_37) rfl k) ?_
  show OEnds p e below s _ _ _ (T18.setTop (mkF m 38 #[.val (.ref a), .val (.int (0 : Int32))] [(.int (0 : Int32))]))
  exact own_retI X18 hx hlk Bd.returns (hb hby d5_38) (by rw [e18]; exact ⟨rfl, N15, K15, O15⟩) (by decide) (by decide)
def Q_next_2 (Z : State) (a : Addr) (b1 : Addr) (b2 : Addr) (b3 : Addr) (b4 : Addr) (b5 : Addr) (b6 : Addr) (b7 : Addr) (sz : Int32) (nc : Int32) (sc : Int32) (bd : Int64) (ss : Int32) (bs : Int32) (bc : Int32) (g1 : Nat → Int64) (h0 : Heap) (n0 : Nat) (r : Option Value) (h : Heap) (L : List Loc) : Prop := r = some (.int (0 : Int32)) ∧ Fr n0 L ∧ Keep h0 h [a] ∧ Obj Z h a "com/example/graphweft/graphweft/RangeMaxTree" sch_rt [(.ref b1), (.ref b2), (.ref b3), (.ref b4), (.ref b5), (.ref b6), (.ref b7), (.int sz), (.int nc), (.int sc), (.int (2 : Int32)), (.int (2 : Int32)), (.int (2 : Int32)), (.int (1 : Int32)), (.int (0 : Int32)), (.long bd), (.int ss), (.int bs), (.int bc)]
set_option maxRecDepth 65536 in
set_option maxHeartbeats 40000000 in
theorem rm_next_2 (l : Launch) (Z : State) (a0 : Array Value) (hw : ∀ d ∈ tables_1, d.before a0 Z = true) (ws : List Jvm.Cond) (a : Addr) (b1 : Addr) (b2 : Addr) (b3 : Addr) (b4 : Addr) (b5 : Addr) (b6 : Addr) (b7 : Addr) (sz : Int32) (nc : Int32) (sc : Int32) (bd : Int64) (ss : Int32) (bs : Int32) (bc : Int32) (g1 : Nat → Int64) (h0 : Heap) (n0 : Nat) (Z0 : n0 ≤ h0.size) (O0 : Obj Z h0 a "com/example/graphweft/graphweft/RangeMaxTree" sch_rt [(.ref b1), (.ref b2), (.ref b3), (.ref b4), (.ref b5), (.ref b6), (.ref b7), (.int sz), (.int nc), (.int sc), (.int (2 : Int32)), (.int (0 : Int32)), (.int (0 : Int32)), (.int (0 : Int32)), (.int (0 : Int32)), (.long bd), (.int ss), (.int bs), (.int bc)]) (F_b1 : FA Z h0 b1 .long 64 (fun i => .long (g1 i))) (g_a : n0 ≤ a) (hord : @LT.lt Nat instLTNat a b1 ∧ @LT.lt Nat instLTNat b1 b2 ∧ @LT.lt Nat instLTNat b2 b3 ∧ @LT.lt Nat instLTNat b3 b4 ∧ @LT.lt Nat instLTNat b4 b5 ∧ @LT.lt Nat instLTNat b5 b6 ∧ @LT.lt Nat instLTNat b6 b7) (hge : ¬ (g1 0) < bd) :
    MetFree l (⟨"com/example/graphweft/graphweft/RangeMaxTree", "next", "()I"⟩ : MethodName) (head1 (Jvm.Cond.code (⟨"com/example/graphweft/graphweft/RangeMaxTree", "next", "()I"⟩ : MethodName) prog_32_method_9_code 2 (some .int) :: ws) ({ frames := 0, cells := 0, slots := 0, locals := 0 } : Room)) (fun a_ U => a_ = #[(.ref a)] ∧ Z.Warmed39 U.vm ∧ U.heap = h0) (fun _ _ _ _ _ => True) (fun _ U o U' => ∃ v_ L_, o = .returned v_ ∧ Q_next_2 Z a b1 b2 b3 b4 b5 b6 b7 sz nc sc bd ss bs bc g1 h0 n0 v_ U'.heap L_ ∧ FrameEnd U o U' L_ ({ frames := 0, cells := 0, slots := 0, locals := 0 } : Room).cells ({ frames := 0, cells := 0, slots := 0, locals := 0 } : Room).slots) := by
  refine MetFree.of_bodySF (plainFor_of_name pn_5) hisR ?_
  intro p e s m args below meth c s₁ Bd hml0 hP hK
  obtain ⟨rfl, hZ, hh⟩ := hP
  have hx := Bd.exec
  have hby := Bd.bytes
  have hlk : meth.locks = false := Bd.notSynchronized
  have hml : c.maxLocals = 2 := hml0
  have hown : s.vm.findClass "com/example/graphweft/graphweft/RangeMaxTree" = some m.cls := findClass_of_methodNamed Bd.named
  have hnm := (name_of_methodNamed Bd.named Bd.method).1
  have X0 : Stand p l e ({ frames := 0, cells := 0, slots := 0, locals := 0 } : Room) s m #[(.ref a)] below meth c s₁ [] 0 0 := Stand.of_body Bd
  have e0 : s₁.heap = h0 := by rw [← hh, Bd.state]; rfl
  have N0 := Fr.nil n0
  have K0 : Keep h0 h0 [a] := Keep.refl _ _
  show OEnds p e below s (Q_next_2 Z a b1 b2 b3 b4 b5 b6 b7 sz nc sc bd ss bs bc g1 h0 n0) _ _ _
  refine own_by (fun t k => castTop (ef_5 m a) k) ?_
  show OEnds p e below s _ _ _ (s₁.setTop (mkF m 0 #[.val (.ref a), .unset] []))
  refine own_by (fun _ k => XS.aloadN X0.here hx rfl (hb hby d5_0) rfl rfl k) ?_
  show OEnds p e below s _ _ _ (s₁.setTop (mkF m 1 #[.val (.ref a), .unset] [(.ref a)]))
  obtain ⟨T1, X1, e1, st1⟩ := getF X0 hx hZ hown (host := "") (Or.inl (hw _ (List.mem_of_getElem? (i := 43) rfl))) Via.refl e0 (O0.fld 13 rfl rfl) (g := (mkF m 1 #[.val (.ref a), .unset] [(.ref a)])) rfl rfl (hb hby d5_1)
  refine own_by (st1) ?_
  show OEnds p e below s _ _ _ (T1.setTop (mkF m 4 #[.val (.ref a), .unset] [(.int (0 : Int32))]))
  refine own_by (fun _ k => XS.aloadN X1.here hx rfl (hb hby d5_4) rfl rfl k) ?_
  show OEnds p e below s _ _ _ (T1.setTop (mkF m 5 #[.val (.ref a), .unset] [(.ref a), (.int (0 : Int32))]))
  obtain ⟨T2, X2, e2, st2⟩ := getF X1 hx hZ hown (host := "") (Or.inl (hw _ (List.mem_of_getElem? (i := 41) rfl))) Via.refl e1 (O0.fld 12 rfl rfl) (g := (mkF m 5 #[.val (.ref a), .unset] [(.ref a), (.int (0 : Int32))])) rfl rfl (hb hby d5_5)
  refine own_by (st2) ?_
  show OEnds p e below s _ _ _ (T2.setTop (mkF m 8 #[.val (.ref a), .unset] [(.int (0 : Int32)), (.int (0 : Int32))]))
  refine own_by (fun _ k => XS.icmpYes X2.here hx rfl (pc0 := 8) (pc' := 42) rfl (hb hby d5_8) rfl (flt (by decide : ¬ ((0 : Int32) < (0 : Int32)))).2.1 (by decide) (by decide) k) ?_
  show OEnds p e below s _ _ _ (T2.setTop (mkF m 42 #[.val (.ref a), .unset] []))
  refine own_by (fun _ k => XS.aloadN X2.here hx rfl (hb hby d5_42) rfl rfl k) ?_
  show OEnds p e below s _ _ _ (T2.setTop (mkF m 43 #[.val (.ref a), .unset] [(.ref a)]))
  obtain ⟨T3, X3, e3, st3⟩ := getF X2 hx hZ hown (host := "") (Or.inl (hw _ (List.mem_of_getElem? (i := 45) rfl))) Via.refl e2 (O0.fld 14 rfl rfl) (g := (mkF m 43 #[.val (.ref a), .unset] [(.ref a)])) rfl rfl (hb hby d5_43)
  refine own_by (st3) ?_
  show OEnds p e below s _ _ _ (T3.setTop (mkF m 46 #[.val (.ref a), .unset] [(.int (0 : Int32))]))
  refine own_by (fun _ k => XS.ifYes X3.here hx rfl (pc0 := 46) (pc' := 72) rfl (hb hby d5_46) rfl ((if0 _ _).trans (flt (by decide : ¬ ((0 : Int32) < (0 : Int32)))).2.2.2) (by decide) (by decide) k) ?_
  show OEnds p e below s _ _ _ (T3.setTop (mkF m 72 #[.val (.ref a), .unset] []))
  refine own_by (fun _ k => XS.aloadN X3.here hx rfl (hb hby d5_72) rfl rfl k) ?_
  show OEnds p e below s _ _ _ (T3.setTop (mkF m 73 #[.val (.ref a), .unset] [(.ref a)]))
  obtain ⟨T4, X4, e4, st4⟩ := getF X3 hx hZ hown (host := "") (Or.inl (hw _ (List.mem_of_getElem? (i := 39) rfl))) Via.refl e3 (O0.fld 11 rfl rfl) (g := (mkF m 73 #[.val (.ref a), .unset] [(.ref a)])) rfl rfl (hb hby d5_73)
  refine own_by (st4) ?_
  show OEnds p e below s _ _ _ (T4.setTop (mkF m 76 #[.val (.ref a), .unset] [(.int (0 : Int32))]))
  refine own_by (fun _ k => XS.aloadN X4.here hx rfl (hb hby d5_76) rfl rfl k) ?_
  show OEnds p e below s _ _ _ (T4.setTop (mkF m 77 #[.val (.ref a), .unset] [(.ref a), (.int (0 : Int32))]))
  obtain ⟨T5, X5, e5, st5⟩ := getF X4 hx hZ hown (host := "") (Or.inl (hw _ (List.mem_of_getElem? (i := 37) rfl))) Via.refl e4 (O0.fld 10 rfl rfl) (g := (mkF m 77 #[.val (.ref a), .unset] [(.ref a), (.int (0 : Int32))])) rfl rfl (hb hby d5_77)
  refine own_by (st5) ?_
  show OEnds p e below s _ _ _ (T5.setTop (mkF m 80 #[.val (.ref a), .unset] [(.int (2 : Int32)), (.int (0 : Int32))]))
  refine own_by (fun _ k => XS.icmpNo X5.here hx rfl (hb hby d5_80) rfl (tlt (by decide : (0 : Int32) < (2 : Int32))).2.1 k) ?_
  show OEnds p e below s _ _ _ (T5.setTop (mkF m 83 #[.val (.ref a), .unset] []))
  refine own_by (fun _ k => XS.aloadN X5.here hx rfl (hb hby d5_83) rfl rfl k) ?_
  show OEnds p e below s _ _ _ (T5.setTop (mkF m 84 #[.val (.ref a), .unset] [(.ref a)]))
  refine own_by (fun _ k => XS.aloadN X5.here hx rfl (hb hby d5_84) rfl rfl k) ?_
  show OEnds p e below s _ _ _ (T5.setTop (mkF m 85 #[.val (.ref a), .unset] [(.ref a), (.ref a)]))
  obtain ⟨T6, X6, e6, st6⟩ := getF X5 hx hZ hown (host := "") (Or.inl (hw _ (List.mem_of_getElem? (i := 39) rfl))) Via.refl e5 (O0.fld 11 rfl rfl) (g := (mkF m 85 #[.val (.ref a), .unset] [(.ref a), (.ref a)])) rfl rfl (hb hby d5_85)
  refine own_by (st6) ?_
  show OEnds p e below s _ _ _ (T6.setTop (mkF m 88 #[.val (.ref a), .unset] [(.int (0 : Int32)), (.ref a)]))
  obtain ⟨T7, h7, X7, e7, W7, st7⟩ := putF X6 hx hZ hown (host := "") (Or.inl (hw _ (List.mem_of_getElem? (i := 43) rfl))) Via.refl e6 (O0.fld 13 rfl rfl) O0.exa (Or.inl (hw _ (List.mem_of_getElem? (i := 44) rfl))) (hw _ (List.mem_of_getElem? (i := 2) rfl)) (ty := .int) (by decide) rfl rfl (g := (mkF m 88 #[.val (.ref a), .unset] [(.int (0 : Int32)), (.ref a)])) rfl rfl (hb hby d5_88)
  refine own_by (st7) ?_
  have O7 : Obj Z h7 a "com/example/graphweft/graphweft/RangeMaxTree" sch_rt [(.ref b1), (.ref b2), (.ref b3), (.ref b4), (.ref b5), (.ref b6), (.ref b7), (.int sz), (.int nc), (.int sc), (.int (2 : Int32)), (.int (0 : Int32)), (.int (0 : Int32)), (.int (0 : Int32)), (.int (0 : Int32)), (.long bd), (.int ss), (.int bs), (.int bc)] := O0.set (so_sch_rt hw) W7 13 rfl (Nat.le_of_ble_eq_true rfl)
  have N7 := Fr.snoc X7 N0 g_a
  have Z7 : n0 ≤ h7.size := Nat.le_trans Z0 (Keep.of_wr W7).1
  have K7 : Keep h0 h7 [a] := K0.wr W7 (Or.inl (List.mem_of_getElem? (i := 0) rfl))
  show OEnds p e below s _ _ _ (T7.setTop (mkF m 91 #[.val (.ref a), .unset] []))
  refine own_by (fun _ k => XS.aloadN X7.here hx rfl (hb hby d5_91) rfl rfl k) ?_
  show OEnds p e below s _ _ _ (T7.setTop (mkF m 92 #[.val (.ref a), .unset] [(.ref a)]))
  refine own_by (fun _ k => XS.aloadN X7.here hx rfl (hb hby d5_92) rfl rfl k) ?_
  show OEnds p e below s _ _ _ (T7.setTop (mkF m 93 #[.val (.ref a), .unset] [(.ref a), (.ref a)]))
  obtain ⟨T8, X8, e8, st8⟩ := getF X7 hx hZ hown (host := "") (Or.inl (hw _ (List.mem_of_getElem? (i := 37) rfl))) Via.refl e7 (O7.fld 10 rfl rfl) (g := (mkF m 93 #[.val (.ref a), .unset] [(.ref a), (.ref a)])) rfl rfl (hb hby d5_93)
  refine own_by (st8) ?_
  show OEnds p e below s _ _ _ (T8.setTop (mkF m 96 #[.val (.ref a), .unset] [(.int (2 : Int32)), (.ref a)]))
  obtain ⟨T9, h9, X9, e9, W9, st9⟩ := putF X8 hx hZ hown (host := "") (Or.inl (hw _ (List.mem_of_getElem? (i := 41) rfl))) Via.refl e8 (O7.fld 12 rfl rfl) O7.exa (Or.inl (hw _ (List.mem_of_getElem? (i := 42) rfl))) (hw _ (List.mem_of_getElem? (i := 2) rfl)) (ty := .int) (by decide) rfl rfl (g := (mkF m 96 #[.val (.ref a), .unset] [(.int (2 : Int32)), (.ref a)])) rfl rfl (hb hby d5_96)
  refine own_by (st9) ?_
  have O9 : Obj Z h9 a "com/example/graphweft/graphweft/RangeMaxTree" sch_rt [(.ref b1), (.ref b2), (.ref b3), (.ref b4), (.ref b5), (.ref b6), (.ref b7), (.int sz), (.int nc), (.int sc), (.int (2 : Int32)), (.int (0 : Int32)), (.int (2 : Int32)), (.int (0 : Int32)), (.int (0 : Int32)), (.long bd), (.int ss), (.int bs), (.int bc)] := O7.set (so_sch_rt hw) W9 12 rfl (Nat.le_of_ble_eq_true rfl)
  have N9 := Fr.snoc X9 N7 g_a
  have Z9 : n0 ≤ h9.size := Nat.le_trans Z7 (Keep.of_wr W9).1
  have K9 : Keep h0 h9 [a] := K7.wr W9 (Or.inl (List.mem_of_getElem? (i := 0) rfl))
  show OEnds p e below s _ _ _ (T9.setTop (mkF m 99 #[.val (.ref a), .unset] []))
  refine own_by (fun _ k => XS.aloadN X9.here hx rfl (hb hby d5_99) rfl rfl k) ?_
  show OEnds p e below s _ _ _ (T9.setTop (mkF m 100 #[.val (.ref a), .unset] [(.ref a)]))
  refine own_by (fun _ k => XS.aloadN X9.here hx rfl (hb hby d5_100) rfl rfl k) ?_
  show OEnds p e below s _ _ _ (T9.setTop (mkF m 101 #[.val (.ref a), .unset] [(.ref a), (.ref a)]))
  obtain ⟨T10, X10, e10, st10⟩ := getF X9 hx hZ hown (host := "") (Or.inl (hw _ (List.mem_of_getElem? (i := 37) rfl))) Via.refl e9 (O9.fld 10 rfl rfl) (g := (mkF m 101 #[.val (.ref a), .unset] [(.ref a), (.ref a)])) rfl rfl (hb hby d5_101)
  refine own_by (st10) ?_
  show OEnds p e below s _ _ _ (T10.setTop (mkF m 104 #[.val (.ref a), .unset] [(.int (2 : Int32)), (.ref a)]))
  obtain ⟨T11, h11, X11, e11, W11, st11⟩ := putF X10 hx hZ hown (host := "") (Or.inl (hw _ (List.mem_of_getElem? (i := 39) rfl))) Via.refl e10 (O9.fld 11 rfl rfl) O9.exa (Or.inl (hw _ (List.mem_of_getElem? (i := 40) rfl))) (hw _ (List.mem_of_getElem? (i := 2) rfl)) (ty := .int) (by decide) rfl rfl (g := (mkF m 104 #[.val (.ref a), .unset] [(.int (2 : Int32)), (.ref a)])) rfl rfl (hb hby d5_104)
  refine own_by (st11) ?_
  have O11 : Obj Z h11 a "com/example/graphweft/graphweft/RangeMaxTree" sch_rt [(.ref b1), (.ref b2), (.ref b3), (.ref b4), (.ref b5), (.ref b6), (.ref b7), (.int sz), (.int nc), (.int sc), (.int (2 : Int32)), (.int (2 : Int32)), (.int (2 : Int32)), (.int (0 : Int32)), (.int (0 : Int32)), (.long bd), (.int ss), (.int bs), (.int bc)] := O9.set (so_sch_rt hw) W11 11 rfl (Nat.le_of_ble_eq_true rfl)
  have N11 := Fr.snoc X11 N9 g_a
  have Z11 : n0 ≤ h11.size := Nat.le_trans Z9 (Keep.of_wr W11).1
  have K11 : Keep h0 h11 [a] := K9.wr W11 (Or.inl (List.mem_of_getElem? (i := 0) rfl))
  show OEnds p e below s _ _ _ (T11.setTop (mkF m 107 #[.val (.ref a), .unset] []))
  refine own_by (fun _ k => XS.goto X11.here hx rfl (pc0 := 107) (pc' := 0) rfl (hb hby d5_107) (by decide) (by decide) k) ?_
  show OEnds p e below s _ _ _ (T11.setTop (mkF m 0 #[.val (.ref a), .unset] []))
  refine own_by (fun _ k => XS.aloadN X11.here hx rfl (hb hby d5_0) rfl rfl k) ?_
  show OEnds p e below s _ _ _ (T11.setTop (mkF m 1 #[.val (.ref a), .unset] [(.ref a)]))
  obtain ⟨T12, X12, e12, st12⟩ := getF X11 hx hZ hown (host := "") (Or.inl (hw _ (List.mem_of_getElem? (i := 43) rfl))) Via.refl e11 (O11.fld 13 rfl rfl) (g := (mkF m 1 #[.val (.ref a), .unset] [(.ref a)])) rfl rfl (hb hby d5_1)
  refine own_by (st12) ?_
  show OEnds p e below s _ _ _ (T12.setTop (mkF m 4 #[.val (.ref a), .unset] [(.int (0 : Int32))]))
  refine own_by (fun _ k => XS.aloadN X12.here hx rfl (hb hby d5_4) rfl rfl k) ?_
  show OEnds p e below s _ _ _ (T12.setTop (mkF m 5 #[.val (.ref a), .unset] [(.ref a), (.int (0 : Int32))]))
  obtain ⟨T13, X13, e13, st13⟩ := getF X12 hx hZ hown (host := "") (Or.inl (hw _ (List.mem_of_getElem? (i := 41) rfl))) Via.refl e12 (O11.fld 12 rfl rfl) (g := (mkF m 5 #[.val (.ref a), .unset] [(.ref a), (.int (0 : Int32))])) rfl rfl (hb hby d5_5)
  refine own_by (st13) ?_
  show OEnds p e below s _ _ _ (T13.setTop (mkF m 8 #[.val (.ref a), .unset] [(.int (2 : Int32)), (.int (0 : Int32))]))
  refine own_by (fun _ k => XS.icmpNo X13.here hx rfl (hb hby d5_8) rfl (tlt (by decide : (0 : Int32) < (2 : Int32))).2.1 k) ?_
  show OEnds p e below s _ _ _ (T13.setTop (mkF m 11 #[.val (.ref a), .unset] []))
  refine own_by (fun _ k => XS.aloadN X13.here hx rfl (hb hby d5_11) rfl rfl k) ?_
  show OEnds p e below s _ _ _ (T13.setTop (mkF m 12 #[.val (.ref a), .unset] [(.ref a)]))
  refine own_by (fun _ k => XS.dup X13.here hx rfl (hb hby d5_12) rfl rfl k) ?_
  show OEnds p e below s _ _ _ (T13.setTop (mkF m 13 #[.val (.ref a), .unset] [(.ref a), (.ref a)]))
  obtain ⟨T14, X14, e14, st14⟩ := getF X13 hx hZ hown (host := "") (Or.inl (hw _ (List.mem_of_getElem? (i := 43) rfl))) Via.refl e13 (O11.fld 13 rfl rfl) (g := (mkF m 13 #[.val (.ref a), .unset] [(.ref a), (.ref a)])) rfl rfl (hb hby d5_13)
  refine own_by (st14) ?_
  show OEnds p e below s _ _ _ (T14.setTop (mkF m 16 #[.val (.ref a), .unset] [(.int (0 : Int32)), (.ref a)]))
  refine own_by (fun _ k => XS.dupX1 X14.here hx rfl (hb hby d5_16) rfl rfl rfl k) ?_
  show OEnds p e below s _ _ _ (T14.setTop (mkF m 17 #[.val (.ref a), .unset] [(.int (0 : Int32)), (.ref a), (.int (0 : Int32))]))
  refine own_by (fun _ k => XS.iconst X14.here hx rfl (hb hby d5_17) k) ?_
  show OEnds p e below s _ _ _ (T14.setTop (mkF m 18 #[.val (.ref a), .unset] [(.int (1 : Int32)), (.int (0 : Int32)), (.ref a), (.int (0 : Int32))]))
  refine own_by (fun _ k => XS.iadd X14.here hx rfl (hb hby d5_18) rfl k) ?_
  show OEnds p e below s _ _ _ (T14.setTop (mkF m 19 #[.val (.ref a), .unset] [(.int (1 : Int32)), (.ref a), (.int (0 : Int32))]))
  obtain ⟨T15, h15, X15, e15, W15, st15⟩ := putF X14 hx hZ hown (host := "") (Or.inl (hw _ (List.mem_of_getElem? (i := 43) rfl))) Via.refl e14 (O11.fld 13 rfl rfl) O11.exa (Or.inl (hw _ (List.mem_of_getElem? (i := 44) rfl))) (hw _ (List.mem_of_getElem? (i := 2) rfl)) (ty := .int) (by decide) rfl rfl (g := (mkF m 19 #[.val (.ref a), .unset] [(.int (1 : Int32)), (.ref a), (.int (0 : Int32))])) rfl rfl (hb hby d5_19)
  refine own_by (st15) ?_
  have O15 : Obj Z h15 a "com/example/graphweft/graphweft/RangeMaxTree" sch_rt [(.ref b1), (.ref b2), (.ref b3), (.ref b4), (.ref b5), (.ref b6), (.ref b7), (.int sz), (.int nc), (.int sc), (.int (2 : Int32)), (.int (2 : Int32)), (.int (2 : Int32)), (.int (1 : Int32)), (.int (0 : Int32)), (.long bd), (.int ss), (.int bs), (.int bc)] := O11.set (so_sch_rt hw) W15 13 rfl (Nat.le_of_ble_eq_true rfl)
  have N15 := Fr.snoc X15 N11 g_a
  have Z15 : n0 ≤ h15.size := Nat.le_trans Z11 (Keep.of_wr W15).1
  have K15 : Keep h0 h15 [a] := K11.wr W15 (Or.inl (List.mem_of_getElem? (i := 0) rfl))
  show OEnds p e below s _ _ _ (T15.setTop (mkF m 22 #[.val (.ref a), .unset] [(.int (0 : Int32))]))
  refine own_by (fun _ k => XS.istoreN X15.here hx rfl (hb hby d5_22) rfl (l' := #[.val (.ref a), .val (.int (0 : Int32))]) rfl k) ?_
  show OEnds p e below s _ _ _ (T15.setTop (mkF m 23 #[.val (.ref a), .val (.int (0 : Int32))] []))
  refine own_by (fun _ k => XS.aloadN X15.here hx rfl (hb hby d5_23) rfl rfl k) ?_
  show OEnds p e below s _ _ _ (T15.setTop (mkF m 24 #[.val (.ref a), .val (.int (0 : Int32))] [(.ref a)]))
  obtain ⟨T16, X16, e16, st16⟩ := getF X15 hx hZ hown (host := "") (Or.inl (hw _ (List.mem_of_getElem? (i := 11) rfl))) Via.refl e15 (O15.fld 0 rfl rfl) (g := (mkF m 24 #[.val (.ref a), .val (.int (0 : Int32))] [(.ref a)])) rfl rfl (hb hby d5_24)
  refine own_by (st16) ?_
  show OEnds p e below s _ _ _ (T16.setTop (mkF m 27 #[.val (.ref a), .val (.int (0 : Int32))] [(.ref b1)]))
  refine own_by (fun _ k => XS.iloadN X16.here hx rfl (hb hby d5_27) rfl k) ?_
  show OEnds p e below s _ _ _ (T16.setTop (mkF m 28 #[.val (.ref a), .val (.int (0 : Int32))] [(.int (0 : Int32)), (.ref b1)]))
  have F17 : FA Z h15 b1 .long 64 (fun i => .long (g1 i)) := ((((F_b1.other W7 (Ne.symm (Nat.ne_of_lt (by omega)))).other W9 (Ne.symm (Nat.ne_of_lt (by omega)))).other W11 (Ne.symm (Nat.ne_of_lt (by omega)))).other W15 (Ne.symm (Nat.ne_of_lt (by omega))))
  refine own_by (own_laload X16 hx hZ e16 F17 0 (by decide) (by decide) rfl (g := (mkF m 28 #[.val (.ref a), .val (.int (0 : Int32))] [(.int (0 : Int32)), (.ref b1)])) rfl rfl (hb hby d5_28)) ?_
  show OEnds p e below s _ _ _ (T16.setTop (mkF m 29 #[.val (.ref a), .val (.int (0 : Int32))] [(.long (g1 0))]))
  refine own_by (fun _ k => XS.aloadN X16.here hx rfl (hb hby d5_29) rfl rfl k) ?_
  show OEnds p e below s _ _ _ (T16.setTop (mkF m 30 #[.val (.ref a), .val (.int (0 : Int32))] [(.ref a), (.long (g1 0))]))
  obtain ⟨T18, X18, e18, st18⟩ := getF X16 hx hZ hown (host := "") (Or.inl (hw _ (List.mem_of_getElem? (i := 85) rfl))) Via.refl e16 (O15.fld 15 rfl rfl) (g := (mkF m 30 #[.val (.ref a), .val (.int (0 : Int32))] [(.ref a), (.long (g1 0))])) rfl rfl (hb hby d5_30)
  refine own_by (st18) ?_
  show OEnds p e below s _ _ _ (T18.setTop (mkF m 33 #[.val (.ref a), .val (.int (0 : Int32))] [(.long bd), (.long (g1 0))]))
  refine own_by (fun _ k => XS.lcmp X18.here hx rfl (hb hby d5_33) rfl k) ?_
  show OEnds p e below s _ _ _ (T18.setTop (mkF m 34 #[.val (.ref a), .val (.int (0 : Int32))] [(.int (lcmpW (g1 0) bd))]))
  refine own_by (fun _ k => XS.ifNo X18.here hx rfl (hb hby d5_34) rfl ((if0 _ _).trans (flt (fun q => hge ((lw_lt _ _).mp q))).1) k) ?_
  show OEnds p e below s _ _ _ (T18.setTop (mkF m 37 #[.val (.ref a), .val (.int (0 : Int32))] []))
  refine own_by (fun _ k => XS.iloadN X18.here hx rfl (hb hby d5_37) rfl k) ?_
  show OEnds p e below s _ _ _ (T18.setTop (mkF m 38 #[.val (.ref a), .val (.int (0 : Int32))] [(.int (0 : Int32))]))
  exact own_retI X18 hx hlk Bd.returns (hb hby d5_38) (by rw [e18]; exact ⟨rfl, N15, K15, O15⟩) (by decide) (by decide)
theorem d3_0 : decode prog_32_method_2_code 0 = .ok (.aload_n 0, 1) := by decide +kernel
theorem d3_1 : decode prog_32_method_2_code 1 = .ok (.iconst 0, 1) := by decide +kernel
theorem d3_2 : decode prog_32_method_2_code 2 = .ok (.putfield 32, 3) := by decide +kernel
theorem d3_5 : decode prog_32_method_2_code 5 = .ok (.aload_n 0, 1) := by decide +kernel
theorem d3_6 : decode prog_32_method_2_code 6 = .ok (.iconst 0, 1) := by decide +kernel
theorem d3_7 : decode prog_32_method_2_code 7 = .ok (.putfield 36, 3) := by decide +kernel
theorem d3_10 : decode prog_32_method_2_code 10 = .ok (.aload_n 0, 1) := by decide +kernel
theorem d3_11 : decode prog_32_method_2_code 11 = .ok (.iconst 0, 1) := by decide +kernel
theorem d3_12 : decode prog_32_method_2_code 12 = .ok (.putfield 39, 3) := by decide +kernel
theorem d3_15 : decode prog_32_method_2_code 15 = .ok (.aload_n 0, 1) := by decide +kernel
theorem d3_16 : decode prog_32_method_2_code 16 = .ok (.aload_n 0, 1) := by decide +kernel
theorem d3_17 : decode prog_32_method_2_code 17 = .ok (.aload_n 0, 1) := by decide +kernel
theorem d3_18 : decode prog_32_method_2_code 18 = .ok (.aload_n 0, 1) := by decide +kernel
theorem d3_19 : decode prog_32_method_2_code 19 = .ok (.aload_n 0, 1) := by decide +kernel
theorem d3_20 : decode prog_32_method_2_code 20 = .ok (.iconst 0, 1) := by decide +kernel
theorem d3_21 : decode prog_32_method_2_code 21 = .ok (.dup_x1, 1) := by decide +kernel
theorem d3_22 : decode prog_32_method_2_code 22 = .ok (.putfield 42, 3) := by decide +kernel
theorem d3_25 : decode prog_32_method_2_code 25 = .ok (.dup_x1, 1) := by decide +kernel
theorem d3_26 : decode prog_32_method_2_code 26 = .ok (.putfield 45, 3) := by decide +kernel
theorem d3_29 : decode prog_32_method_2_code 29 = .ok (.dup_x1, 1) := by decide +kernel
theorem d3_30 : decode prog_32_method_2_code 30 = .ok (.putfield 48, 3) := by decide +kernel
theorem d3_33 : decode prog_32_method_2_code 33 = .ok (.dup_x1, 1) := by decide +kernel
theorem d3_34 : decode prog_32_method_2_code 34 = .ok (.putfield 51, 3) := by decide +kernel
theorem d3_37 : decode prog_32_method_2_code 37 = .ok (.putfield 54, 3) := by decide +kernel
theorem d3_40 : decode prog_32_method_2_code 40 = .ok (.return_, 1) := by decide +kernel
theorem pn_3 : plainName "com/example/graphweft/graphweft/RangeMaxTree" = true := by first | (simp [plainName, overriddenIn]; done) | decide +kernel
theorem ef_3 (m : MethodId) (x0 : Addr) : entryFrame m #[(.ref x0)] 1 = mkF m 0 #[.val (.ref x0)] [] := by first | (simp [entryFrame, mkF, argsToLocals, Value.category]; done) | rfl
def Q_clear (Z : State) (a : Addr) (b1 : Addr) (b2 : Addr) (b3 : Addr) (b4 : Addr) (b5 : Addr) (b6 : Addr) (b7 : Addr) (sz : Int32) (nc : Int32) (sc : Int32) (te : Int32) (ta : Int32) (se : Int32) (sa : Int32) (pn : Int32) (bd : Int64) (ss : Int32) (bs : Int32) (bc : Int32) (h0 : Heap) (n0 : Nat) (r : Option Value) (h : Heap) (L : List Loc) : Prop := r = none ∧ Fr n0 L ∧ Keep h0 h [a] ∧ Obj Z h a "com/example/graphweft/graphweft/RangeMaxTree" sch_rt [(.ref b1), (.ref b2), (.ref b3), (.ref b4), (.ref b5), (.ref b6), (.ref b7), (.int (0 : Int32)), (.int (0 : Int32)), (.int (0 : Int32)), (.int (0 : Int32)), (.int (0 : Int32)), (.int (0 : Int32)), (.int (0 : Int32)), (.int (0 : Int32)), (.long bd), (.int ss), (.int bs), (.int bc)]
set_option maxRecDepth 65536 in
set_option maxHeartbeats 40000000 in
theorem rm_clear (l : Launch) (Z : State) (a0 : Array Value) (hw : ∀ d ∈ tables_1, d.before a0 Z = true) (ws : List Jvm.Cond) (a : Addr) (b1 : Addr) (b2 : Addr) (b3 : Addr) (b4 : Addr) (b5 : Addr) (b6 : Addr) (b7 : Addr) (sz : Int32) (nc : Int32) (sc : Int32) (te : Int32) (ta : Int32) (se : Int32) (sa : Int32) (pn : Int32) (bd : Int64) (ss : Int32) (bs : Int32) (bc : Int32) (h0 : Heap) (n0 : Nat) (Z0 : n0 ≤ h0.size) (O0 : Obj Z h0 a "com/example/graphweft/graphweft/RangeMaxTree" sch_rt [(.ref b1), (.ref b2), (.ref b3), (.ref b4), (.ref b5), (.ref b6), (.ref b7), (.int sz), (.int nc), (.int sc), (.int te), (.int ta), (.int se), (.int sa), (.int pn), (.long bd), (.int ss), (.int bs), (.int bc)]) (g_a : n0 ≤ a) (hord : @LT.lt Nat instLTNat a b1 ∧ @LT.lt Nat instLTNat b1 b2 ∧ @LT.lt Nat instLTNat b2 b3 ∧ @LT.lt Nat instLTNat b3 b4 ∧ @LT.lt Nat instLTNat b4 b5 ∧ @LT.lt Nat instLTNat b5 b6 ∧ @LT.lt Nat instLTNat b6 b7) :
    MetFree l (⟨"com/example/graphweft/graphweft/RangeMaxTree", "clear", "()V"⟩ : MethodName) (head1 (Jvm.Cond.code (⟨"com/example/graphweft/graphweft/RangeMaxTree", "clear", "()V"⟩ : MethodName) prog_32_method_2_code 1 none :: ws) ({ frames := 0, cells := 0, slots := 0, locals := 0 } : Room)) (fun a_ U => a_ = #[(.ref a)] ∧ Z.Warmed39 U.vm ∧ U.heap = h0) (fun _ _ _ _ _ => True) (fun _ U o U' => ∃ v_ L_, o = .returned v_ ∧ Q_clear Z a b1 b2 b3 b4 b5 b6 b7 sz nc sc te ta se sa pn bd ss bs bc h0 n0 v_ U'.heap L_ ∧ FrameEnd U o U' L_ ({ frames := 0, cells := 0, slots := 0, locals := 0 } : Room).cells ({ frames := 0, cells := 0, slots := 0, locals := 0 } : Room).slots) := by
  refine MetFree.of_bodySF (plainFor_of_name pn_3) hisR ?_
  intro p e s m args below meth c s₁ Bd hml0 hP hK
  obtain ⟨rfl, hZ, hh⟩ := hP
  have hx := Bd.exec
  have hby := Bd.bytes
  have hlk : meth.locks = false := Bd.notSynchronized
  have hml : c.maxLocals = 1 := hml0
  have hown : s.vm.findClass "com/example/graphweft/graphweft/RangeMaxTree" = some m.cls := findClass_of_methodNamed Bd.named
  have hnm := (name_of_methodNamed Bd.named Bd.method).1
  have X0 : Stand p l e ({ frames := 0, cells := 0, slots := 0, locals := 0 } : Room) s m #[(.ref a)] below meth c s₁ [] 0 0 := Stand.of_body Bd
  have e0 : s₁.heap = h0 := by rw [← hh, Bd.state]; rfl
  have N0 := Fr.nil n0
  have K0 : Keep h0 h0 [a] := Keep.refl _ _
  show OEnds p e below s (Q_clear Z a b1 b2 b3 b4 b5 b6 b7 sz nc sc te ta se sa pn bd ss bs bc h0 n0) _ _ _
  refine own_by (fun t k => castTop (ef_3 m a) k) ?_
  show OEnds p e below s _ _ _ (s₁.setTop (mkF m 0 #[.val (.ref a)] []))
  refine own_by (fun _ k => XS.aloadN X0.here hx rfl (hb hby d3_0) rfl rfl k) ?_
  show OEnds p e below s _ _ _ (s₁.setTop (mkF m 1 #[.val (.ref a)] [(.ref a)]))
  refine own_by (fun _ k => XS.iconst X0.here hx rfl (hb hby d3_1) k) ?_
  show OEnds p e below s _ _ _ (s₁.setTop (mkF m 2 #[.val (.ref a)] [(.int (0 : Int32)), (.ref a)]))
  obtain ⟨T1, h1, X1, e1, W1, st1⟩ := putF X0 hx hZ hown (host := "") (Or.inl (hw _ (List.mem_of_getElem? (i := 31) rfl))) Via.refl e0 (O0.fld 7 rfl rfl) O0.exa (Or.inl (hw _ (List.mem_of_getElem? (i := 32) rfl))) (hw _ (List.mem_of_getElem? (i := 2) rfl)) (ty := .int) (by decide) rfl rfl (g := (mkF m 2 #[.val (.ref a)] [(.int (0 : Int32)), (.ref a)])) rfl rfl (hb hby d3_2)
  refine own_by (st1) ?_
  have O1 : Obj Z h1 a "com/example/graphweft/graphweft/RangeMaxTree" sch_rt [(.ref b1), (.ref b2), (.ref b3), (.ref b4), (.ref b5), (.ref b6), (.ref b7), (.int (0 : Int32)), (.int nc), (.int sc), (.int te), (.int ta), (.int se), (.int sa), (.int pn), (.long bd), (.int ss), (.int bs), (.int bc)] := O0.set (so_sch_rt hw) W1 7 rfl (Nat.le_of_ble_eq_true rfl)
  have N1 := Fr.snoc X1 N0 g_a
  have Z1 : n0 ≤ h1.size := Nat.le_trans Z0 (Keep.of_wr W1).1
  have K1 : Keep h0 h1 [a] := K0.wr W1 (Or.inl (List.mem_of_getElem? (i := 0) rfl))
  show OEnds p e below s _ _ _ (T1.setTop (mkF m 5 #[.val (.ref a)] []))
  refine own_by (fun _ k => XS.aloadN X1.here hx rfl (hb hby d3_5) rfl rfl k) ?_
  show OEnds p e below s _ _ _ (T1.setTop (mkF m 6 #[.val (.ref a)] [(.ref a)]))
  refine own_by (fun _ k => XS.iconst X1.here hx rfl (hb hby d3_6) k) ?_
  show OEnds p e below s _ _ _ (T1.setTop (mkF m 7 #[.val (.ref a)] [(.int (0 : Int32)), (.ref a)]))
  obtain ⟨T2, h2, X2, e2, W2, st2⟩ := putF X1 hx hZ hown (host := "") (Or.inl (hw _ (List.mem_of_getElem? (i := 33) rfl))) Via.refl e1 (O1.fld 8 rfl rfl) O1.exa (Or.inl (hw _ (List.mem_of_getElem? (i := 34) rfl))) (hw _ (List.mem_of_getElem? (i := 2) rfl)) (ty := .int) (by decide) rfl rfl (g := (mkF m 7 #[.val (.ref a)] [(.int (0 : Int32)), (.ref a)])) rfl rfl (hb hby d3_7)
  refine own_by (st2) ?_
  have O2 : Obj Z h2 a "com/example/graphweft/graphweft/RangeMaxTree" sch_rt [(.ref b1), (.ref b2), (.ref b3), (.ref b4), (.ref b5), (.ref b6), (.ref b7), (.int (0 : Int32)), (.int (0 : Int32)), (.int sc), (.int te), (.int ta), (.int se), (.int sa), (.int pn), (.long bd), (.int ss), (.int bs), (.int bc)] := O1.set (so_sch_rt hw) W2 8 rfl (Nat.le_of_ble_eq_true rfl)
  have N2 := Fr.snoc X2 N1 g_a
  have Z2 : n0 ≤ h2.size := Nat.le_trans Z1 (Keep.of_wr W2).1
  have K2 : Keep h0 h2 [a] := K1.wr W2 (Or.inl (List.mem_of_getElem? (i := 0) rfl))
  show OEnds p e below s _ _ _ (T2.setTop (mkF m 10 #[.val (.ref a)] []))
  refine own_by (fun _ k => XS.aloadN X2.here hx rfl (hb hby d3_10) rfl rfl k) ?_
  show OEnds p e below s _ _ _ (T2.setTop (mkF m 11 #[.val (.ref a)] [(.ref a)]))
  refine own_by (fun _ k => XS.iconst X2.here hx rfl (hb hby d3_11) k) ?_
  show OEnds p e below s _ _ _ (T2.setTop (mkF m 12 #[.val (.ref a)] [(.int (0 : Int32)), (.ref a)]))
  obtain ⟨T3, h3, X3, e3, W3, st3⟩ := putF X2 hx hZ hown (host := "") (Or.inl (hw _ (List.mem_of_getElem? (i := 35) rfl))) Via.refl e2 (O2.fld 9 rfl rfl) O2.exa (Or.inl (hw _ (List.mem_of_getElem? (i := 36) rfl))) (hw _ (List.mem_of_getElem? (i := 2) rfl)) (ty := .int) (by decide) rfl rfl (g := (mkF m 12 #[.val (.ref a)] [(.int (0 : Int32)), (.ref a)])) rfl rfl (hb hby d3_12)
  refine own_by (st3) ?_
  have O3 : Obj Z h3 a "com/example/graphweft/graphweft/RangeMaxTree" sch_rt [(.ref b1), (.ref b2), (.ref b3), (.ref b4), (.ref b5), (.ref b6), (.ref b7), (.int (0 : Int32)), (.int (0 : Int32)), (.int (0 : Int32)), (.int te), (.int ta), (.int se), (.int sa), (.int pn), (.long bd), (.int ss), (.int bs), (.int bc)] := O2.set (so_sch_rt hw) W3 9 rfl (Nat.le_of_ble_eq_true rfl)
  have N3 := Fr.snoc X3 N2 g_a
  have Z3 : n0 ≤ h3.size := Nat.le_trans Z2 (Keep.of_wr W3).1
  have K3 : Keep h0 h3 [a] := K2.wr W3 (Or.inl (List.mem_of_getElem? (i := 0) rfl))
  show OEnds p e below s _ _ _ (T3.setTop (mkF m 15 #[.val (.ref a)] []))
  refine own_by (fun _ k => XS.aloadN X3.here hx rfl (hb hby d3_15) rfl rfl k) ?_
  show OEnds p e below s _ _ _ (T3.setTop (mkF m 16 #[.val (.ref a)] [(.ref a)]))
  refine own_by (fun _ k => XS.aloadN X3.here hx rfl (hb hby d3_16) rfl rfl k) ?_
  show OEnds p e below s _ _ _ (T3.setTop (mkF m 17 #[.val (.ref a)] [(.ref a), (.ref a)]))
  refine own_by (fun _ k => XS.aloadN X3.here hx rfl (hb hby d3_17) rfl rfl k) ?_
  show OEnds p e below s _ _ _ (T3.setTop (mkF m 18 #[.val (.ref a)] [(.ref a), (.ref a), (.ref a)]))
  refine own_by (fun _ k => XS.aloadN X3.here hx rfl (hb hby d3_18) rfl rfl k) ?_
  show OEnds p e below s _ _ _ (T3.setTop (mkF m 19 #[.val (.ref a)] [(.ref a), (.ref a), (.ref a), (.ref a)]))
  refine own_by (fun _ k => XS.aloadN X3.here hx rfl (hb hby d3_19) rfl rfl k) ?_
  show OEnds p e below s _ _ _ (T3.setTop (mkF m 20 #[.val (.ref a)] [(.ref a), (.ref a), (.ref a), (.ref a), (.ref a)]))
  refine own_by (fun _ k => XS.iconst X3.here hx rfl (hb hby d3_20) k) ?_
  show OEnds p e below s _ _ _ (T3.setTop (mkF m 21 #[.val (.ref a)] [(.int (0 : Int32)), (.ref a), (.ref a), (.ref a), (.ref a), (.ref a)]))
  refine own_by (fun _ k => XS.dupX1 X3.here hx rfl (hb hby d3_21) rfl rfl rfl k) ?_
  show OEnds p e below s _ _ _ (T3.setTop (mkF m 22 #[.val (.ref a)] [(.int (0 : Int32)), (.ref a), (.int (0 : Int32)), (.ref a), (.ref a), (.ref a), (.ref a)]))
  obtain ⟨T4, h4, X4, e4, W4, st4⟩ := putF X3 hx hZ hown (host := "") (Or.inl (hw _ (List.mem_of_getElem? (i := 37) rfl))) Via.refl e3 (O3.fld 10 rfl rfl) O3.exa (Or.inl (hw _ (List.mem_of_getElem? (i := 38) rfl))) (hw _ (List.mem_of_getElem? (i := 2) rfl)) (ty := .int) (by decide) rfl rfl (g := (mkF m 22 #[.val (.ref a)] [(.int (0 : Int32)), (.ref a), (.int (0 : Int32)), (.ref a), (.ref a), (.ref a), (.ref a)])) rfl rfl (hb hby d3_22)
  refine own_by (st4) ?_
  have O4 : Obj Z h4 a "com/example/graphweft/graphweft/RangeMaxTree" sch_rt [(.ref b1), (.ref b2), (.ref b3), (.ref b4), (.ref b5), (.ref b6), (.ref b7), (.int (0 : Int32)), (.int (0 : Int32)), (.int (0 : Int32)), (.int (0 : Int32)), (.int ta), (.int se), (.int sa), (.int pn), (.long bd), (.int ss), (.int bs), (.int bc)] := O3.set (so_sch_rt hw) W4 10 rfl (Nat.le_of_ble_eq_true rfl)
  have N4 := Fr.snoc X4 N3 g_a
  have Z4 : n0 ≤ h4.size := Nat.le_trans Z3 (Keep.of_wr W4).1
  have K4 : Keep h0 h4 [a] := K3.wr W4 (Or.inl (List.mem_of_getElem? (i := 0) rfl))
  show OEnds p e below s _ _ _ (T4.setTop (mkF m 25 #[.val (.ref a)] [(.int (0 : Int32)), (.ref a), (.ref a), (.ref a), (.ref a)]))
  refine own_by (fun _ k => XS.dupX1 X4.here hx rfl (hb hby d3_25) rfl rfl rfl k) ?_
  show OEnds p e below s _ _ _ (T4.setTop (mkF m 26 #[.val (.ref a)] [(.int (0 : Int32)), (.ref a), (.int (0 : Int32)), (.ref a), (.ref a), (.ref a)]))
  obtain ⟨T5, h5, X5, e5, W5, st5⟩ := putF X4 hx hZ hown (host := "") (Or.inl (hw _ (List.mem_of_getElem? (i := 39) rfl))) Via.refl e4 (O4.fld 11 rfl rfl) O4.exa (Or.inl (hw _ (List.mem_of_getElem? (i := 40) rfl))) (hw _ (List.mem_of_getElem? (i := 2) rfl)) (ty := .int) (by decide) rfl rfl (g := (mkF m 26 #[.val (.ref a)] [(.int (0 : Int32)), (.ref a), (.int (0 : Int32)), (.ref a), (.ref a), (.ref a)])) rfl rfl (hb hby d3_26)
  refine own_by (st5) ?_
  have O5 : Obj Z h5 a "com/example/graphweft/graphweft/RangeMaxTree" sch_rt [(.ref b1), (.ref b2), (.ref b3), (.ref b4), (.ref b5), (.ref b6), (.ref b7), (.int (0 : Int32)), (.int (0 : Int32)), (.int (0 : Int32)), (.int (0 : Int32)), (.int (0 : Int32)), (.int se), (.int sa), (.int pn), (.long bd), (.int ss), (.int bs), (.int bc)] := O4.set (so_sch_rt hw) W5 11 rfl (Nat.le_of_ble_eq_true rfl)
  have N5 := Fr.snoc X5 N4 g_a
  have Z5 : n0 ≤ h5.size := Nat.le_trans Z4 (Keep.of_wr W5).1
  have K5 : Keep h0 h5 [a] := K4.wr W5 (Or.inl (List.mem_of_getElem? (i := 0) rfl))
  show OEnds p e below s _ _ _ (T5.setTop (mkF m 29 #[.val (.ref a)] [(.int (0 : Int32)), (.ref a), (.ref a), (.ref a)]))
  refine own_by (fun _ k => XS.dupX1 X5.here hx rfl (hb hby d3_29) rfl rfl rfl k) ?_
  show OEnds p e below s _ _ _ (T5.setTop (mkF m 30 #[.val (.ref a)] [(.int (0 : Int32)), (.ref a), (.int (0 : Int32)), (.ref a), (.ref a)]))
  obtain ⟨T6, h6, X6, e6, W6, st6⟩ := putF X5 hx hZ hown (host := "") (Or.inl (hw _ (List.mem_of_getElem? (i := 41) rfl))) Via.refl e5 (O5.fld 12 rfl rfl) O5.exa (Or.inl (hw _ (List.mem_of_getElem? (i := 42) rfl))) (hw _ (List.mem_of_getElem? (i := 2) rfl)) (ty := .int) (by decide) rfl rfl (g := (mkF m 30 #[.val (.ref a)] [(.int (0 : Int32)), (.ref a), (.int (0 : Int32)), (.ref a), (.ref a)])) rfl rfl (hb hby d3_30)
  refine own_by (st6) ?_
  have O6 : Obj Z h6 a "com/example/graphweft/graphweft/RangeMaxTree" sch_rt [(.ref b1), (.ref b2), (.ref b3), (.ref b4), (.ref b5), (.ref b6), (.ref b7), (.int (0 : Int32)), (.int (0 : Int32)), (.int (0 : Int32)), (.int (0 : Int32)), (.int (0 : Int32)), (.int (0 : Int32)), (.int sa), (.int pn), (.long bd), (.int ss), (.int bs), (.int bc)] := O5.set (so_sch_rt hw) W6 12 rfl (Nat.le_of_ble_eq_true rfl)
  have N6 := Fr.snoc X6 N5 g_a
  have Z6 : n0 ≤ h6.size := Nat.le_trans Z5 (Keep.of_wr W6).1
  have K6 : Keep h0 h6 [a] := K5.wr W6 (Or.inl (List.mem_of_getElem? (i := 0) rfl))
  show OEnds p e below s _ _ _ (T6.setTop (mkF m 33 #[.val (.ref a)] [(.int (0 : Int32)), (.ref a), (.ref a)]))
  refine own_by (fun _ k => XS.dupX1 X6.here hx rfl (hb hby d3_33) rfl rfl rfl k) ?_
  show OEnds p e below s _ _ _ (T6.setTop (mkF m 34 #[.val (.ref a)] [(.int (0 : Int32)), (.ref a), (.int (0 : Int32)), (.ref a)]))
  obtain ⟨T7, h7, X7, e7, W7, st7⟩ := putF X6 hx hZ hown (host := "") (Or.inl (hw _ (List.mem_of_getElem? (i := 43) rfl))) Via.refl e6 (O6.fld 13 rfl rfl) O6.exa (Or.inl (hw _ (List.mem_of_getElem? (i := 44) rfl))) (hw _ (List.mem_of_getElem? (i := 2) rfl)) (ty := .int) (by decide) rfl rfl (g := (mkF m 34 #[.val (.ref a)] [(.int (0 : Int32)), (.ref a), (.int (0 : Int32)), (.ref a)])) rfl rfl (hb hby d3_34)
  refine own_by (st7) ?_
  have O7 : Obj Z h7 a "com/example/graphweft/graphweft/RangeMaxTree" sch_rt [(.ref b1), (.ref b2), (.ref b3), (.ref b4), (.ref b5), (.ref b6), (.ref b7), (.int (0 : Int32)), (.int (0 : Int32)), (.int (0 : Int32)), (.int (0 : Int32)), (.int (0 : Int32)), (.int (0 : Int32)), (.int (0 : Int32)), (.int pn), (.long bd), (.int ss), (.int bs), (.int bc)] := O6.set (so_sch_rt hw) W7 13 rfl (Nat.le_of_ble_eq_true rfl)
  have N7 := Fr.snoc X7 N6 g_a
  have Z7 : n0 ≤ h7.size := Nat.le_trans Z6 (Keep.of_wr W7).1
  have K7 : Keep h0 h7 [a] := K6.wr W7 (Or.inl (List.mem_of_getElem? (i := 0) rfl))
  show OEnds p e below s _ _ _ (T7.setTop (mkF m 37 #[.val (.ref a)] [(.int (0 : Int32)), (.ref a)]))
  obtain ⟨T8, h8, X8, e8, W8, st8⟩ := putF X7 hx hZ hown (host := "") (Or.inl (hw _ (List.mem_of_getElem? (i := 45) rfl))) Via.refl e7 (O7.fld 14 rfl rfl) O7.exa (Or.inl (hw _ (List.mem_of_getElem? (i := 46) rfl))) (hw _ (List.mem_of_getElem? (i := 2) rfl)) (ty := .int) (by decide) rfl rfl (g := (mkF m 37 #[.val (.ref a)] [(.int (0 : Int32)), (.ref a)])) rfl rfl (hb hby d3_37)
  refine own_by (st8) ?_
  have O8 : Obj Z h8 a "com/example/graphweft/graphweft/RangeMaxTree" sch_rt [(.ref b1), (.ref b2), (.ref b3), (.ref b4), (.ref b5), (.ref b6), (.ref b7), (.int (0 : Int32)), (.int (0 : Int32)), (.int (0 : Int32)), (.int (0 : Int32)), (.int (0 : Int32)), (.int (0 : Int32)), (.int (0 : Int32)), (.int (0 : Int32)), (.long bd), (.int ss), (.int bs), (.int bc)] := O7.set (so_sch_rt hw) W8 14 rfl (Nat.le_of_ble_eq_true rfl)
  have N8 := Fr.snoc X8 N7 g_a
  have Z8 : n0 ≤ h8.size := Nat.le_trans Z7 (Keep.of_wr W8).1
  have K8 : Keep h0 h8 [a] := K7.wr W8 (Or.inl (List.mem_of_getElem? (i := 0) rfl))
  show OEnds p e below s _ _ _ (T8.setTop (mkF m 40 #[.val (.ref a)] []))
  exact own_retV X8 hx hlk Bd.returns (hb hby d3_40) (by rw [e8]; exact ⟨rfl, N8, K8, O8⟩) (by decide) (by decide)
theorem d4_0 : decode prog_32_method_3_code 0 = .ok (.aload_n 0, 1) := by decide +kernel
theorem d4_1 : decode prog_32_method_3_code 1 = .ok (.getfield 32, 3) := by decide +kernel
theorem d4_4 : decode prog_32_method_3_code 4 = .ok (.ireturn, 1) := by decide +kernel
theorem pn_4 : plainName "com/example/graphweft/graphweft/RangeMaxTree" = true := by first | (simp [plainName, overriddenIn]; done) | decide +kernel
theorem ef_4 (m : MethodId) (x0 : Addr) : entryFrame m #[(.ref x0)] 1 = mkF m 0 #[.val (.ref x0)] [] := by first | (simp [entryFrame, mkF, argsToLocals, Value.category]; done) | rfl
set_option maxRecDepth 65536 in
set_option maxHeartbeats 40000000 in
theorem rm_size0 (l : Launch) (Z : State) (a0 : Array Value) (hw : ∀ d ∈ tables_1, d.before a0 Z = true) (ws : List Jvm.Cond) (a : Addr) (b1 : Addr) (b2 : Addr) (b3 : Addr) (b4 : Addr) (b5 : Addr) (b6 : Addr) (b7 : Addr) (nc : Int32) (sc : Int32) (te : Int32) (ta : Int32) (se : Int32) (sa : Int32) (pn : Int32) (bd : Int64) (ss : Int32) (bs : Int32) (bc : Int32) (h0 : Heap) (n0 : Nat) (Z0 : n0 ≤ h0.size) (O0 : Obj Z h0 a "com/example/graphweft/graphweft/RangeMaxTree" sch_rt [(.ref b1), (.ref b2), (.ref b3), (.ref b4), (.ref b5), (.ref b6), (.ref b7), (.int (0 : Int32)), (.int nc), (.int sc), (.int te), (.int ta), (.int se), (.int sa), (.int pn), (.long bd), (.int ss), (.int bs), (.int bc)]) (hord : @LT.lt Nat instLTNat a b1 ∧ @LT.lt Nat instLTNat b1 b2 ∧ @LT.lt Nat instLTNat b2 b3 ∧ @LT.lt Nat instLTNat b3 b4 ∧ @LT.lt Nat instLTNat b4 b5 ∧ @LT.lt Nat instLTNat b5 b6 ∧ @LT.lt Nat instLTNat b6 b7) :
    MetFree l (⟨"com/example/graphweft/graphweft/RangeMaxTree", "size", "()I"⟩ : MethodName) (head1 (Jvm.Cond.code (⟨"com/example/graphweft/graphweft/RangeMaxTree", "size", "()I"⟩ : MethodName) prog_32_method_3_code 1 (some .int) :: ws) ({ frames := 0, cells := 0, slots := 0, locals := 0 } : Room)) (fun a_ U => a_ = #[(.ref a)] ∧ Z.Warmed39 U.vm ∧ U.heap = h0) (fun _ _ _ _ _ => True) (fun _ U o U' => ∃ v_ L_, o = .returned v_ ∧ QP (.int (0 : Int32)) h0 v_ U'.heap L_ ∧ FrameEnd U o U' L_ ({ frames := 0, cells := 0, slots := 0, locals := 0 } : Room).cells ({ frames := 0, cells := 0, slots := 0, locals := 0 } : Room).slots) := by
  refine MetFree.of_bodySF (plainFor_of_name pn_4) hisR ?_
  intro p e s m args below meth c s₁ Bd hml0 hP hK
  obtain ⟨rfl, hZ, hh⟩ := hP
  have hx := Bd.exec
  have hby := Bd.bytes
  have hlk : meth.locks = false := Bd.notSynchronized
  have hml : c.maxLocals = 1 := hml0
  have hown : s.vm.findClass "com/example/graphweft/graphweft/RangeMaxTree" = some m.cls := findClass_of_methodNamed Bd.named
  have hnm := (name_of_methodNamed Bd.named Bd.method).1
  have X0 : Stand p l e ({ frames := 0, cells := 0, slots := 0, locals := 0 } : Room) s m #[(.ref a)] below meth c s₁ [] 0 0 := Stand.of_body Bd
  have e0 : s₁.heap = h0 := by rw [← hh, Bd.state]; rfl
  have N0 := Fr.nil n0
  have K0 : Keep h0 h0 [] := Keep.refl _ _
  show OEnds p e below s (QP (.int (0 : Int32)) h0) _ _ _
  refine own_by (fun t k => castTop (ef_4 m a) k) ?_
  show OEnds p e below s _ _ _ (s₁.setTop (mkF m 0 #[.val (.ref a)] []))
  refine own_by (fun _ k => XS.aloadN X0.here hx rfl (hb hby d4_0) rfl rfl k) ?_
  show OEnds p e below s _ _ _ (s₁.setTop (mkF m 1 #[.val (.ref a)] [(.ref a)]))
  obtain ⟨T1, X1, e1, st1⟩ := getF X0 hx hZ hown (host := "") (Or.inl (hw _ (List.mem_of_getElem? (i := 31) rfl))) Via.refl e0 (O0.fld 7 rfl rfl) (g := (mkF m 1 #[.val (.ref a)] [(.ref a)])) rfl rfl (hb hby d4_1)
  refine own_by (st1) ?_
  show OEnds p e below s _ _ _ (T1.setTop (mkF m 4 #[.val (.ref a)] [(.int (0 : Int32))]))
  exact own_retI X1 hx hlk Bd.returns (hb hby d4_4) ⟨rfl, rfl, e1⟩ (by decide) (by decide)
theorem own_ge (x : Int64) : ¬ x < (-9223372036854775808 : Int64) := by
  have h := rng64 x
  have h0 : (-9223372036854775808 : Int64).toInt = -9223372036854775808 := by decide
  rw [Int64.lt_iff_toInt_lt, h0]
  omega
theorem own_n3 (q0 : Int32) : ((q0 &&& (2147483647 : Int32)) % (3 : Int32)) = 0 ∨ ((q0 &&& (2147483647 : Int32)) % (3 : Int32)) = 1 ∨ ((q0 &&& (2147483647 : Int32)) % (3 : Int32)) = 2 := by
  have h := c_mask q0 2147483647 31 (by decide) (by decide)
  have h2 := (c_irem (q0 &&& (2147483647 : Int32)) 3 3 (by decide)).1 (by omega)
  have c : ∀ k : Nat, k < 3 → ((q0 &&& (2147483647 : Int32)) % (3 : Int32)).toInt = (k : Int) → ((q0 &&& (2147483647 : Int32)) % (3 : Int32)) = Int32.ofNat k := by
    intro k hk q
    apply Int32.toInt_inj.mp
    rw [q]
    have : ∀ j : Fin 3, (Int32.ofNat j.val).toInt = (j.val : Int) := by decide
    exact (this ⟨k, hk⟩).symm
  have h3 : ((q0 &&& (2147483647 : Int32)) % (3 : Int32)).toInt = 0 ∨ ((q0 &&& (2147483647 : Int32)) % (3 : Int32)).toInt = 1 ∨ ((q0 &&& (2147483647 : Int32)) % (3 : Int32)).toInt = 2 := by omega
  rcases h3 with h3 | h3 | h3
  · exact Or.inl (c 0 (by decide) h3)
  · exact Or.inr (Or.inl (c 1 (by decide) h3))
  · exact Or.inr (Or.inr (c 2 (by decide) h3))
theorem pn_0 : plainName "com/example/graphweft/graphweft/RangeMaxTreeClearPinLaw" = true := by first | (simp [plainName, overriddenIn]; done) | decide +kernel
theorem ef_0 (m : MethodId) (x0 : Int32) (x1 : Int64) (x2 : Int64) : entryFrame m #[(.int x0), (.long x1), (.long x2)] maxLocals = mkF m 0 #[.val (.int x0), .val (.long x1), .second, .val (.long x2), .second, .unset, .unset, .unset, .unset, .unset, .unset, .unset, .unset] [] := by first | (simp [entryFrame, mkF, argsToLocals, Value.category, maxLocals]; done) | rfl
def QL (n0 : Nat) (v : Option Value) (h : Heap) (L : List Loc) : Prop := v = some (.int 1) ∧ Fr n0 L
set_option maxRecDepth 65536 in
set_option maxHeartbeats 40000000 in
theorem rm_law (l : Launch) (Z : State) (a0 : Array Value) (hw : ∀ d ∈ tables_1, d.before a0 Z = true) (ws : List Jvm.Cond) (q0 : Int32) (q1 : Int64) (q2 : Int64) (h0 : Heap) (n0 : Nat) (Z0 : n0 ≤ h0.size) :
    MetFree l x (head1 (Jvm.Cond.code x code maxLocals ret :: ws) room_1) (fun a_ U => a_ = #[(.int q0), (.long q1), (.long q2)] ∧ Z.Warmed39 U.vm ∧ U.heap = h0) (fun _ _ _ _ _ => True) (fun _ U o U' => ∃ v_ L_, o = .returned v_ ∧ QL n0 v_ U'.heap L_ ∧ FrameEnd U o U' L_ room_1.cells room_1.slots) := by
  refine MetFree.of_bodySF (plainFor_of_name pn_0) hisR ?_
  intro p e s m args below meth c s₁ Bd hml0 hP hK
  obtain ⟨rfl, hZ, hh⟩ := hP
  have hx := Bd.exec
  have hby := Bd.bytes
  have hlk : meth.locks = false := Bd.notSynchronized
  have hml : c.maxLocals = 13 := hml0
  have hown : s.vm.findClass "com/example/graphweft/graphweft/RangeMaxTreeClearPinLaw" = some m.cls := findClass_of_methodNamed Bd.named
  have hnm := (name_of_methodNamed Bd.named Bd.method).1
  have X0 : Stand p l e room_1 s m #[(.int q0), (.long q1), (.long q2)] below meth c s₁ [] 0 0 := Stand.of_body Bd
  have e0 : s₁.heap = h0 := by rw [← hh, Bd.state]; rfl
  have N0 := Fr.nil n0
  have K0 : Keep h0 h0 [] := Keep.refl _ _
  show OEnds p e below s (QL n0) _ _ _
  refine own_by (fun t k => castTop (ef_0 m q0 q1 q2) k) ?_
  show OEnds p e below s _ _ _ (s₁.setTop (mkF m 0 #[.val (.int q0), .val (.long q1), .second, .val (.long q2), .second, .unset, .unset, .unset, .unset, .unset, .unset, .unset, .unset] []))
  refine own_by (fun _ k => XS.iloadN X0.here hx rfl (hb hby at_0) rfl k) ?_
  show OEnds p e below s _ _ _ (s₁.setTop (mkF m 1 #[.val (.int q0), .val (.long q1), .second, .val (.long q2), .second, .unset, .unset, .unset, .unset, .unset, .unset, .unset, .unset] [(.int q0)]))
  refine own_by (X0.ldcInt hx hown (mvT hZ (hw _ (List.mem_of_getElem? (i := 0) rfl))) (g := (mkF m 1 #[.val (.int q0), .val (.long q1), .second, .val (.long q2), .second, .unset, .unset, .unset, .unset, .unset, .unset, .unset, .unset] [(.int q0)])) rfl (hb hby at_1)) ?_
  show OEnds p e below s _ _ _ (s₁.setTop (mkF m 3 #[.val (.int q0), .val (.long q1), .second, .val (.long q2), .second, .unset, .unset, .unset, .unset, .unset, .unset, .unset, .unset] [(.int (2147483647 : Int32)), (.int q0)]))
  refine own_by (fun _ k => XS.iand X0.here hx rfl (hb hby at_3) rfl k) ?_
  show OEnds p e below s _ _ _ (s₁.setTop (mkF m 4 #[.val (.int q0), .val (.long q1), .second, .val (.long q2), .second, .unset, .unset, .unset, .unset, .unset, .unset, .unset, .unset] [(.int (q0 &&& (2147483647 : Int32)))]))
  refine own_by (fun _ k => XS.iconst X0.here hx rfl (hb hby at_4) k) ?_
  show OEnds p e below s _ _ _ (s₁.setTop (mkF m 5 #[.val (.int q0), .val (.long q1), .second, .val (.long q2), .second, .unset, .unset, .unset, .unset, .unset, .unset, .unset, .unset] [(.int (3 : Int32)), (.int (q0 &&& (2147483647 : Int32)))]))
  refine own_by (fun _ k => iremM X0 hx rfl (hb hby at_5) rfl (by decide) k) ?_
  show OEnds p e below s _ _ _ (s₁.setTop (mkF m 6 #[.val (.int q0), .val (.long q1), .second, .val (.long q2), .second, .unset, .unset, .unset, .unset, .unset, .unset, .unset, .unset] [(.int ((q0 &&& (2147483647 : Int32)) % (3 : Int32)))]))
  refine own_by (fun _ k => XS.istore X0.here hx rfl (hb hby at_6) rfl (l' := #[.val (.int q0), .val (.long q1), .second, .val (.long q2), .second, .val (.int ((q0 &&& (2147483647 : Int32)) % (3 : Int32))), .unset, .unset, .unset, .unset, .unset, .unset, .unset]) rfl k) ?_
  show OEnds p e below s _ _ _ (s₁.setTop (mkF m 8 #[.val (.int q0), .val (.long q1), .second, .val (.long q2), .second, .val (.int ((q0 &&& (2147483647 : Int32)) % (3 : Int32))), .unset, .unset, .unset, .unset, .unset, .unset, .unset] []))
  refine own_by (fun _ k => XS.iloadN X0.here hx rfl (hb hby at_8) rfl k) ?_
  show OEnds p e below s _ _ _ (s₁.setTop (mkF m 9 #[.val (.int q0), .val (.long q1), .second, .val (.long q2), .second, .val (.int ((q0 &&& (2147483647 : Int32)) % (3 : Int32))), .unset, .unset, .unset, .unset, .unset, .unset, .unset] [(.int q0)]))
  refine own_by (fun _ k => XS.iconst X0.here hx rfl (hb hby at_9) k) ?_
  show OEnds p e below s _ _ _ (s₁.setTop (mkF m 10 #[.val (.int q0), .val (.long q1), .second, .val (.long q2), .second, .val (.int ((q0 &&& (2147483647 : Int32)) % (3 : Int32))), .unset, .unset, .unset, .unset, .unset, .unset, .unset] [(.int (4 : Int32)), (.int q0)]))
  refine own_by (fun _ k => XS.iand X0.here hx rfl (hb hby at_10) rfl k) ?_
  show OEnds p e below s _ _ _ (s₁.setTop (mkF m 11 #[.val (.int q0), .val (.long q1), .second, .val (.long q2), .second, .val (.int ((q0 &&& (2147483647 : Int32)) % (3 : Int32))), .unset, .unset, .unset, .unset, .unset, .unset, .unset] [(.int (q0 &&& (4 : Int32)))]))
  refine own_by (S' := s₁.setTop (mkF m 19 #[.val (.int q0), .val (.long q1), .second, .val (.long q2), .second, .val (.int ((q0 &&& (2147483647 : Int32)) % (3 : Int32))), .unset, .unset, .unset, .unset, .unset, .unset, .unset] [(.int (if (q0 &&& (4 : Int32)) = (0 : Int32) then (0 : Int32) else (1 : Int32)))])) (fun t k => ?_) ?_
  · by_cases hc11_1 : (q0 &&& (4 : Int32)) = (0 : Int32)
    · rw [if_pos hc11_1] at k
      refine XS.ifYes X0.here hx rfl (pc0 := 11) (pc' := 18) rfl (hb hby at_11) rfl ((if0 _ _).trans (teq hc11_1).1) (by decide) (by decide) ?_
      show Steps p.tables e below (s₁.setTop (mkF m 18 #[.val (.int q0), .val (.long q1), .second, .val (.long q2), .second, .val (.int ((q0 &&& (2147483647 : Int32)) % (3 : Int32))), .unset, .unset, .unset, .unset, .unset, .unset, .unset] [])) t
      refine XS.iconst X0.here hx rfl (hb hby at_18) ?_
      show Steps p.tables e below (s₁.setTop (mkF m 19 #[.val (.int q0), .val (.long q1), .second, .val (.long q2), .second, .val (.int ((q0 &&& (2147483647 : Int32)) % (3 : Int32))), .unset, .unset, .unset, .unset, .unset, .unset, .unset] [(.int (0 : Int32))])) t
      exact k
    · rw [if_neg hc11_1] at k
      refine XS.ifNo X0.here hx rfl (hb hby at_11) rfl ((if0 _ _).trans (feq hc11_1).1) ?_
      show Steps p.tables e below (s₁.setTop (mkF m 14 #[.val (.int q0), .val (.long q1), .second, .val (.long q2), .second, .val (.int ((q0 &&& (2147483647 : Int32)) % (3 : Int32))), .unset, .unset, .unset, .unset, .unset, .unset, .unset] [])) t
      refine XS.iconst X0.here hx rfl (hb hby at_14) ?_
      show Steps p.tables e below (s₁.setTop (mkF m 15 #[.val (.int q0), .val (.long q1), .second, .val (.long q2), .second, .val (.int ((q0 &&& (2147483647 : Int32)) % (3 : Int32))), .unset, .unset, .unset, .unset, .unset, .unset, .unset] [(.int (1 : Int32))])) t
      refine XS.goto X0.here hx rfl (pc0 := 15) (pc' := 19) rfl (hb hby at_15) (by decide) (by decide) ?_
      show Steps p.tables e below (s₁.setTop (mkF m 19 #[.val (.int q0), .val (.long q1), .second, .val (.long q2), .second, .val (.int ((q0 &&& (2147483647 : Int32)) % (3 : Int32))), .unset, .unset, .unset, .unset, .unset, .unset, .unset] [(.int (1 : Int32))])) t
      exact k
  show OEnds p e below s _ _ _ (s₁.setTop (mkF m 19 #[.val (.int q0), .val (.long q1), .second, .val (.long q2), .second, .val (.int ((q0 &&& (2147483647 : Int32)) % (3 : Int32))), .unset, .unset, .unset, .unset, .unset, .unset, .unset] [(.int (if (q0 &&& (4 : Int32)) = (0 : Int32) then (0 : Int32) else (1 : Int32)))]))
  refine own_by (fun _ k => XS.istore X0.here hx rfl (hb hby at_19) rfl (l' := #[.val (.int q0), .val (.long q1), .second, .val (.long q2), .second, .val (.int ((q0 &&& (2147483647 : Int32)) % (3 : Int32))), .val (.int (if (q0 &&& (4 : Int32)) = (0 : Int32) then (0 : Int32) else (1 : Int32))), .unset, .unset, .unset, .unset, .unset, .unset]) rfl k) ?_
  show OEnds p e below s _ _ _ (s₁.setTop (mkF m 21 #[.val (.int q0), .val (.long q1), .second, .val (.long q2), .second, .val (.int ((q0 &&& (2147483647 : Int32)) % (3 : Int32))), .val (.int (if (q0 &&& (4 : Int32)) = (0 : Int32) then (0 : Int32) else (1 : Int32))), .unset, .unset, .unset, .unset, .unset, .unset] []))
  refine own_by (fun _ k => XS.iloadN X0.here hx rfl (hb hby at_21) rfl k) ?_
  show OEnds p e below s _ _ _ (s₁.setTop (mkF m 22 #[.val (.int q0), .val (.long q1), .second, .val (.long q2), .second, .val (.int ((q0 &&& (2147483647 : Int32)) % (3 : Int32))), .val (.int (if (q0 &&& (4 : Int32)) = (0 : Int32) then (0 : Int32) else (1 : Int32))), .unset, .unset, .unset, .unset, .unset, .unset] [(.int q0)]))
  refine own_by (fun _ k => XS.bipush X0.here hx rfl (hb hby at_22) k) ?_
  show OEnds p e below s _ _ _ (s₁.setTop (mkF m 24 #[.val (.int q0), .val (.long q1), .second, .val (.long q2), .second, .val (.int ((q0 &&& (2147483647 : Int32)) % (3 : Int32))), .val (.int (if (q0 &&& (4 : Int32)) = (0 : Int32) then (0 : Int32) else (1 : Int32))), .unset, .unset, .unset, .unset, .unset, .unset] [(.int (8 : Int32)), (.int q0)]))
  refine own_by (fun _ k => XS.iand X0.here hx rfl (hb hby at_24) rfl k) ?_
  show OEnds p e below s _ _ _ (s₁.setTop (mkF m 25 #[.val (.int q0), .val (.long q1), .second, .val (.long q2), .second, .val (.int ((q0 &&& (2147483647 : Int32)) % (3 : Int32))), .val (.int (if (q0 &&& (4 : Int32)) = (0 : Int32) then (0 : Int32) else (1 : Int32))), .unset, .unset, .unset, .unset, .unset, .unset] [(.int (q0 &&& (8 : Int32)))]))
  refine own_by (S' := s₁.setTop (mkF m 33 #[.val (.int q0), .val (.long q1), .second, .val (.long q2), .second, .val (.int ((q0 &&& (2147483647 : Int32)) % (3 : Int32))), .val (.int (if (q0 &&& (4 : Int32)) = (0 : Int32) then (0 : Int32) else (1 : Int32))), .unset, .unset, .unset, .unset, .unset, .unset] [(.int (if (q0 &&& (8 : Int32)) = (0 : Int32) then (0 : Int32) else (1 : Int32)))])) (fun t k => ?_) ?_
  · by_cases hc25_2 : (q0 &&& (8 : Int32)) = (0 : Int32)
    · rw [if_pos hc25_2] at k
      refine XS.ifYes X0.here hx rfl (pc0 := 25) (pc' := 32) rfl (hb hby at_25) rfl ((if0 _ _).trans (teq hc25_2).1) (by decide) (by decide) ?_
      show Steps p.tables e below (s₁.setTop (mkF m 32 #[.val (.int q0), .val (.long q1), .second, .val (.long q2), .second, .val (.int ((q0 &&& (2147483647 : Int32)) % (3 : Int32))), .val (.int (if (q0 &&& (4 : Int32)) = (0 : Int32) then (0 : Int32) else (1 : Int32))), .unset, .unset, .unset, .unset, .unset, .unset] [])) t
      refine XS.iconst X0.here hx rfl (hb hby at_32) ?_
      show Steps p.tables e below (s₁.setTop (mkF m 33 #[.val (.int q0), .val (.long q1), .second, .val (.long q2), .second, .val (.int ((q0 &&& (2147483647 : Int32)) % (3 : Int32))), .val (.int (if (q0 &&& (4 : Int32)) = (0 : Int32) then (0 : Int32) else (1 : Int32))), .unset, .unset, .unset, .unset, .unset, .unset] [(.int (0 : Int32))])) t
      exact k
    · rw [if_neg hc25_2] at k
      refine XS.ifNo X0.here hx rfl (hb hby at_25) rfl ((if0 _ _).trans (feq hc25_2).1) ?_
      show Steps p.tables e below (s₁.setTop (mkF m 28 #[.val (.int q0), .val (.long q1), .second, .val (.long q2), .second, .val (.int ((q0 &&& (2147483647 : Int32)) % (3 : Int32))), .val (.int (if (q0 &&& (4 : Int32)) = (0 : Int32) then (0 : Int32) else (1 : Int32))), .unset, .unset, .unset, .unset, .unset, .unset] [])) t
      refine XS.iconst X0.here hx rfl (hb hby at_28) ?_
      show Steps p.tables e below (s₁.setTop (mkF m 29 #[.val (.int q0), .val (.long q1), .second, .val (.long q2), .second, .val (.int ((q0 &&& (2147483647 : Int32)) % (3 : Int32))), .val (.int (if (q0 &&& (4 : Int32)) = (0 : Int32) then (0 : Int32) else (1 : Int32))), .unset, .unset, .unset, .unset, .unset, .unset] [(.int (1 : Int32))])) t
      refine XS.goto X0.here hx rfl (pc0 := 29) (pc' := 33) rfl (hb hby at_29) (by decide) (by decide) ?_
      show Steps p.tables e below (s₁.setTop (mkF m 33 #[.val (.int q0), .val (.long q1), .second, .val (.long q2), .second, .val (.int ((q0 &&& (2147483647 : Int32)) % (3 : Int32))), .val (.int (if (q0 &&& (4 : Int32)) = (0 : Int32) then (0 : Int32) else (1 : Int32))), .unset, .unset, .unset, .unset, .unset, .unset] [(.int (1 : Int32))])) t
      exact k
  show OEnds p e below s _ _ _ (s₁.setTop (mkF m 33 #[.val (.int q0), .val (.long q1), .second, .val (.long q2), .second, .val (.int ((q0 &&& (2147483647 : Int32)) % (3 : Int32))), .val (.int (if (q0 &&& (4 : Int32)) = (0 : Int32) then (0 : Int32) else (1 : Int32))), .unset, .unset, .unset, .unset, .unset, .unset] [(.int (if (q0 &&& (8 : Int32)) = (0 : Int32) then (0 : Int32) else (1 : Int32)))]))
  refine own_by (fun _ k => XS.istore X0.here hx rfl (hb hby at_33) rfl (l' := #[.val (.int q0), .val (.long q1), .second, .val (.long q2), .second, .val (.int ((q0 &&& (2147483647 : Int32)) % (3 : Int32))), .val (.int (if (q0 &&& (4 : Int32)) = (0 : Int32) then (0 : Int32) else (1 : Int32))), .val (.int (if (q0 &&& (8 : Int32)) = (0 : Int32) then (0 : Int32) else (1 : Int32))), .unset, .unset, .unset, .unset, .unset]) rfl k) ?_
  show OEnds p e below s _ _ _ (s₁.setTop (mkF m 35 #[.val (.int q0), .val (.long q1), .second, .val (.long q2), .second, .val (.int ((q0 &&& (2147483647 : Int32)) % (3 : Int32))), .val (.int (if (q0 &&& (4 : Int32)) = (0 : Int32) then (0 : Int32) else (1 : Int32))), .val (.int (if (q0 &&& (8 : Int32)) = (0 : Int32) then (0 : Int32) else (1 : Int32))), .unset, .unset, .unset, .unset, .unset] []))
  refine own_by (fun _ k => XS.iloadN X0.here hx rfl (hb hby at_35) rfl k) ?_
  show OEnds p e below s _ _ _ (s₁.setTop (mkF m 36 #[.val (.int q0), .val (.long q1), .second, .val (.long q2), .second, .val (.int ((q0 &&& (2147483647 : Int32)) % (3 : Int32))), .val (.int (if (q0 &&& (4 : Int32)) = (0 : Int32) then (0 : Int32) else (1 : Int32))), .val (.int (if (q0 &&& (8 : Int32)) = (0 : Int32) then (0 : Int32) else (1 : Int32))), .unset, .unset, .unset, .unset, .unset] [(.int q0)]))
  refine own_by (fun _ k => XS.bipush X0.here hx rfl (hb hby at_36) k) ?_
  show OEnds p e below s _ _ _ (s₁.setTop (mkF m 38 #[.val (.int q0), .val (.long q1), .second, .val (.long q2), .second, .val (.int ((q0 &&& (2147483647 : Int32)) % (3 : Int32))), .val (.int (if (q0 &&& (4 : Int32)) = (0 : Int32) then (0 : Int32) else (1 : Int32))), .val (.int (if (q0 &&& (8 : Int32)) = (0 : Int32) then (0 : Int32) else (1 : Int32))), .unset, .unset, .unset, .unset, .unset] [(.int (16 : Int32)), (.int q0)]))
  refine own_by (fun _ k => XS.iand X0.here hx rfl (hb hby at_38) rfl k) ?_
  show OEnds p e below s _ _ _ (s₁.setTop (mkF m 39 #[.val (.int q0), .val (.long q1), .second, .val (.long q2), .second, .val (.int ((q0 &&& (2147483647 : Int32)) % (3 : Int32))), .val (.int (if (q0 &&& (4 : Int32)) = (0 : Int32) then (0 : Int32) else (1 : Int32))), .val (.int (if (q0 &&& (8 : Int32)) = (0 : Int32) then (0 : Int32) else (1 : Int32))), .unset, .unset, .unset, .unset, .unset] [(.int (q0 &&& (16 : Int32)))]))
  refine own_by (S' := s₁.setTop (mkF m 47 #[.val (.int q0), .val (.long q1), .second, .val (.long q2), .second, .val (.int ((q0 &&& (2147483647 : Int32)) % (3 : Int32))), .val (.int (if (q0 &&& (4 : Int32)) = (0 : Int32) then (0 : Int32) else (1 : Int32))), .val (.int (if (q0 &&& (8 : Int32)) = (0 : Int32) then (0 : Int32) else (1 : Int32))), .unset, .unset, .unset, .unset, .unset] [(.int (if (q0 &&& (16 : Int32)) = (0 : Int32) then (0 : Int32) else (1 : Int32)))])) (fun t k => ?_) ?_
  · by_cases hc39_3 : (q0 &&& (16 : Int32)) = (0 : Int32)
    · rw [if_pos hc39_3] at k
      refine XS.ifYes X0.here hx rfl (pc0 := 39) (pc' := 46) rfl (hb hby at_39) rfl ((if0 _ _).trans (teq hc39_3).1) (by decide) (by decide) ?_
      show Steps p.tables e below (s₁.setTop (mkF m 46 #[.val (.int q0), .val (.long q1), .second, .val (.long q2), .second, .val (.int ((q0 &&& (2147483647 : Int32)) % (3 : Int32))), .val (.int (if (q0 &&& (4 : Int32)) = (0 : Int32) then (0 : Int32) else (1 : Int32))), .val (.int (if (q0 &&& (8 : Int32)) = (0 : Int32) then (0 : Int32) else (1 : Int32))), .unset, .unset, .unset, .unset, .unset] [])) t
      refine XS.iconst X0.here hx rfl (hb hby at_46) ?_
      show Steps p.tables e below (s₁.setTop (mkF m 47 #[.val (.int q0), .val (.long q1), .second, .val (.long q2), .second, .val (.int ((q0 &&& (2147483647 : Int32)) % (3 : Int32))), .val (.int (if (q0 &&& (4 : Int32)) = (0 : Int32) then (0 : Int32) else (1 : Int32))), .val (.int (if (q0 &&& (8 : Int32)) = (0 : Int32) then (0 : Int32) else (1 : Int32))), .unset, .unset, .unset, .unset, .unset] [(.int (0 : Int32))])) t
      exact k
    · rw [if_neg hc39_3] at k
      refine XS.ifNo X0.here hx rfl (hb hby at_39) rfl ((if0 _ _).trans (feq hc39_3).1) ?_
      show Steps p.tables e below (s₁.setTop (mkF m 42 #[.val (.int q0), .val (.long q1), .second, .val (.long q2), .second, .val (.int ((q0 &&& (2147483647 : Int32)) % (3 : Int32))), .val (.int (if (q0 &&& (4 : Int32)) = (0 : Int32) then (0 : Int32) else (1 : Int32))), .val (.int (if (q0 &&& (8 : Int32)) = (0 : Int32) then (0 : Int32) else (1 : Int32))), .unset, .unset, .unset, .unset, .unset] [])) t
      refine XS.iconst X0.here hx rfl (hb hby at_42) ?_
      show Steps p.tables e below (s₁.setTop (mkF m 43 #[.val (.int q0), .val (.long q1), .second, .val (.long q2), .second, .val (.int ((q0 &&& (2147483647 : Int32)) % (3 : Int32))), .val (.int (if (q0 &&& (4 : Int32)) = (0 : Int32) then (0 : Int32) else (1 : Int32))), .val (.int (if (q0 &&& (8 : Int32)) = (0 : Int32) then (0 : Int32) else (1 : Int32))), .unset, .unset, .unset, .unset, .unset] [(.int (1 : Int32))])) t
      refine XS.goto X0.here hx rfl (pc0 := 43) (pc' := 47) rfl (hb hby at_43) (by decide) (by decide) ?_
      show Steps p.tables e below (s₁.setTop (mkF m 47 #[.val (.int q0), .val (.long q1), .second, .val (.long q2), .second, .val (.int ((q0 &&& (2147483647 : Int32)) % (3 : Int32))), .val (.int (if (q0 &&& (4 : Int32)) = (0 : Int32) then (0 : Int32) else (1 : Int32))), .val (.int (if (q0 &&& (8 : Int32)) = (0 : Int32) then (0 : Int32) else (1 : Int32))), .unset, .unset, .unset, .unset, .unset] [(.int (1 : Int32))])) t
      exact k
  show OEnds p e below s _ _ _ (s₁.setTop (mkF m 47 #[.val (.int q0), .val (.long q1), .second, .val (.long q2), .second, .val (.int ((q0 &&& (2147483647 : Int32)) % (3 : Int32))), .val (.int (if (q0 &&& (4 : Int32)) = (0 : Int32) then (0 : Int32) else (1 : Int32))), .val (.int (if (q0 &&& (8 : Int32)) = (0 : Int32) then (0 : Int32) else (1 : Int32))), .unset, .unset, .unset, .unset, .unset] [(.int (if (q0 &&& (16 : Int32)) = (0 : Int32) then (0 : Int32) else (1 : Int32)))]))
  refine own_by (fun _ k => XS.istore X0.here hx rfl (hb hby at_47) rfl (l' := #[.val (.int q0), .val (.long q1), .second, .val (.long q2), .second, .val (.int ((q0 &&& (2147483647 : Int32)) % (3 : Int32))), .val (.int (if (q0 &&& (4 : Int32)) = (0 : Int32) then (0 : Int32) else (1 : Int32))), .val (.int (if (q0 &&& (8 : Int32)) = (0 : Int32) then (0 : Int32) else (1 : Int32))), .val (.int (if (q0 &&& (16 : Int32)) = (0 : Int32) then (0 : Int32) else (1 : Int32))), .unset, .unset, .unset, .unset]) rfl k) ?_
  show OEnds p e below s _ _ _ (s₁.setTop (mkF m 49 #[.val (.int q0), .val (.long q1), .second, .val (.long q2), .second, .val (.int ((q0 &&& (2147483647 : Int32)) % (3 : Int32))), .val (.int (if (q0 &&& (4 : Int32)) = (0 : Int32) then (0 : Int32) else (1 : Int32))), .val (.int (if (q0 &&& (8 : Int32)) = (0 : Int32) then (0 : Int32) else (1 : Int32))), .val (.int (if (q0 &&& (16 : Int32)) = (0 : Int32) then (0 : Int32) else (1 : Int32))), .unset, .unset, .unset, .unset] []))
  obtain ⟨T4, h4, X4, e4, E4, A4, D4, -, st4⟩ := newO X0 hx hZ hown (hw _ (List.mem_of_getElem? (i := 1) rfl)) (hw _ (List.mem_of_getElem? (i := 2) rfl)) (hw _ (List.mem_of_getElem? (i := 3) rfl)) e0 (g := (mkF m 49 #[.val (.int q0), .val (.long q1), .second, .val (.long q2), .second, .val (.int ((q0 &&& (2147483647 : Int32)) % (3 : Int32))), .val (.int (if (q0 &&& (4 : Int32)) = (0 : Int32) then (0 : Int32) else (1 : Int32))), .val (.int (if (q0 &&& (8 : Int32)) = (0 : Int32) then (0 : Int32) else (1 : Int32))), .val (.int (if (q0 &&& (16 : Int32)) = (0 : Int32) then (0 : Int32) else (1 : Int32))), .unset, .unset, .unset, .unset] [])) rfl (hb hby at_49) (by decide) (by decide)
  obtain ⟨nb4, g4⟩ : ∃ z, z = h0.size := ⟨_, rfl⟩
  rw [← g4] at A4 D4 st4
  refine own_by (st4) ?_
  have g_nb4 : n0 ≤ nb4 := Nat.le_trans Z0 (Nat.le_of_eq g4.symm)
  have Z4 : n0 ≤ h4.size := Nat.le_trans Z0 E4.1
  have O4 : Obj Z h4 nb4 "com/example/graphweft/graphweft/RangeMaxTree" sch_rt [.null, .null, .null, .null, .null, .null, .null, (.int (0 : Int32)), (.int (0 : Int32)), (.int (0 : Int32)), (.int (0 : Int32)), (.int (0 : Int32)), (.int (0 : Int32)), (.int (0 : Int32)), (.int (0 : Int32)), (.long (0 : Int64)), (.int (0 : Int32)), (.int (0 : Int32)), (.int (0 : Int32))] := Obj.new (so_sch_rt hw) A4 D4 [(.array .long), (.array .long), (.array .int), (.array .int), (.array .int), (.array .int), (.array .int), .int, .int, .int, .int, .int, .int, .int, .int, .long, .int, .int, .int] (by decide)
  show OEnds p e below s _ _ _ (T4.setTop (mkF m 52 #[.val (.int q0), .val (.long q1), .second, .val (.long q2), .second, .val (.int ((q0 &&& (2147483647 : Int32)) % (3 : Int32))), .val (.int (if (q0 &&& (4 : Int32)) = (0 : Int32) then (0 : Int32) else (1 : Int32))), .val (.int (if (q0 &&& (8 : Int32)) = (0 : Int32) then (0 : Int32) else (1 : Int32))), .val (.int (if (q0 &&& (16 : Int32)) = (0 : Int32) then (0 : Int32) else (1 : Int32))), .unset, .unset, .unset, .unset] [(.ref nb4)]))
  refine own_by (fun _ k => XS.dup X4.here hx rfl (hb hby at_52) rfl rfl k) ?_
  show OEnds p e below s _ _ _ (T4.setTop (mkF m 53 #[.val (.int q0), .val (.long q1), .second, .val (.long q2), .second, .val (.int ((q0 &&& (2147483647 : Int32)) % (3 : Int32))), .val (.int (if (q0 &&& (4 : Int32)) = (0 : Int32) then (0 : Int32) else (1 : Int32))), .val (.int (if (q0 &&& (8 : Int32)) = (0 : Int32) then (0 : Int32) else (1 : Int32))), .val (.int (if (q0 &&& (16 : Int32)) = (0 : Int32) then (0 : Int32) else (1 : Int32))), .unset, .unset, .unset, .unset] [(.ref nb4), (.ref nb4)]))
  obtain ⟨v5, T5, L5, h5, X5, e5, hQ5, st5⟩ := own_callI X4 hx hZ (y := (⟨"com/example/graphweft/graphweft/RangeMaxTree", "<init>", "()V"⟩ : MethodName)) rfl hown (hw _ (List.mem_of_getElem? (i := 4) rfl)) (hw _ (List.mem_of_getElem? (i := 5) rfl)) (hw _ (List.mem_of_getElem? (i := 6) rfl)) (hw _ (List.mem_of_getElem? (i := 3) rfl)) (by decide) (rm_init l Z a0 hw [] nb4 h4 n0 Z4 O4 g_nb4) e4 (g := (mkF m 53 #[.val (.int q0), .val (.long q1), .second, .val (.long q2), .second, .val (.int ((q0 &&& (2147483647 : Int32)) % (3 : Int32))), .val (.int (if (q0 &&& (4 : Int32)) = (0 : Int32) then (0 : Int32) else (1 : Int32))), .val (.int (if (q0 &&& (8 : Int32)) = (0 : Int32) then (0 : Int32) else (1 : Int32))), .val (.int (if (q0 &&& (16 : Int32)) = (0 : Int32) then (0 : Int32) else (1 : Int32))), .unset, .unset, .unset, .unset] [(.ref nb4), (.ref nb4)])) rfl (by rw [hml]; rfl) (argsL := []) (rest := [(.ref nb4)]) (lenOf pd_prV rfl) rfl (W := 1) (by show 2 * 0 + _ ≤ _; exact Nat.le_of_eq rfl) (hb hby at_53) (by decide) (by decide) (by decide) (by decide)
  obtain ⟨rfl, Nq5, Kq5, b1, b2, b3, b4, b5, b6, b7, hord, ⟨g_b1, g_b2, g_b3, g_b4, g_b5, g_b6, g_b7⟩, O5, F_1, F_2, F_3, F_4, F_5, F_6, F_7⟩ := hQ5
  have N5 := Fr.app N0 Nq5
  have Z5 : n0 ≤ h5.size := Nat.le_trans Z4 Kq5.1
  refine own_tr st5 ?_
  show OEnds p e below s _ _ _ (T5.setTop (mkF m 56 #[.val (.int q0), .val (.long q1), .second, .val (.long q2), .second, .val (.int ((q0 &&& (2147483647 : Int32)) % (3 : Int32))), .val (.int (if (q0 &&& (4 : Int32)) = (0 : Int32) then (0 : Int32) else (1 : Int32))), .val (.int (if (q0 &&& (8 : Int32)) = (0 : Int32) then (0 : Int32) else (1 : Int32))), .val (.int (if (q0 &&& (16 : Int32)) = (0 : Int32) then (0 : Int32) else (1 : Int32))), .unset, .unset, .unset, .unset] [(.ref nb4)]))
  refine own_by (fun _ k => XS.astore X5.here hx rfl (hb hby at_56) rfl rfl (l' := #[.val (.int q0), .val (.long q1), .second, .val (.long q2), .second, .val (.int ((q0 &&& (2147483647 : Int32)) % (3 : Int32))), .val (.int (if (q0 &&& (4 : Int32)) = (0 : Int32) then (0 : Int32) else (1 : Int32))), .val (.int (if (q0 &&& (8 : Int32)) = (0 : Int32) then (0 : Int32) else (1 : Int32))), .val (.int (if (q0 &&& (16 : Int32)) = (0 : Int32) then (0 : Int32) else (1 : Int32))), .val (.ref nb4), .unset, .unset, .unset]) rfl k) ?_
  show OEnds p e below s _ _ _ (T5.setTop (mkF m 58 #[.val (.int q0), .val (.long q1), .second, .val (.long q2), .second, .val (.int ((q0 &&& (2147483647 : Int32)) % (3 : Int32))), .val (.int (if (q0 &&& (4 : Int32)) = (0 : Int32) then (0 : Int32) else (1 : Int32))), .val (.int (if (q0 &&& (8 : Int32)) = (0 : Int32) then (0 : Int32) else (1 : Int32))), .val (.int (if (q0 &&& (16 : Int32)) = (0 : Int32) then (0 : Int32) else (1 : Int32))), .val (.ref nb4), .unset, .unset, .unset] []))
  generalize (if (q0 &&& (4 : Int32)) = (0 : Int32) then (0 : Int32) else (1 : Int32)) = fx
  generalize (if (q0 &&& (8 : Int32)) = (0 : Int32) then (0 : Int32) else (1 : Int32)) = fy
  generalize (if (q0 &&& (16 : Int32)) = (0 : Int32) then (0 : Int32) else (1 : Int32)) = fz
  have hn3 := own_n3 q0
  generalize ((q0 &&& (2147483647 : Int32)) % (3 : Int32)) = nn at hn3 ⊢
  show OEnds p e below s _ _ _ (T5.setTop (mkF m 58 #[.val (.int q0), .val (.long q1), .second, .val (.long q2), .second, .val (.int nn), .val (.int fx), .val (.int fy), .val (.int fz), .val (.ref nb4), .unset, .unset, .unset] []))
  have bl120 : ∀ (T : State) (lo : List Loc) (nx : Int32) (szx : Int32) (ncx : Int32) (scx : Int32) (tex : Int32) (tax : Int32) (sex : Int32) (sax : Int32) (pnx : Int32) (bdx : Int64) (ssx : Int32) (bsx : Int32) (bcx : Int32) (gx1 : Nat → Int64) (gx2 : Nat → Int64) (gx3 : Nat → Int32) (gx4 : Nat → Int32) (gx5 : Nat → Int32) (gx6 : Nat → Int32) (gx7 : Nat → Int32) (h_bl120 : Heap) (Zz_bl120 : n0 ≤ h_bl120.size) (X_bl120 : Stand p l e room_1 s m #[(.int q0), (.long q1), (.long q2)] below meth c T lo 8 323) (e_bl120 : T.heap = h_bl120) (N_bl120 : Fr n0 lo) (Ob_bl120_nb4 : Obj Z h_bl120 nb4 "com/example/graphweft/graphweft/RangeMaxTree" sch_rt [(.ref b1), (.ref b2), (.ref b3), (.ref b4), (.ref b5), (.ref b6), (.ref b7), (.int szx), (.int ncx), (.int scx), (.int tex), (.int tax), (.int sex), (.int sax), (.int pnx), (.long bdx), (.int ssx), (.int bsx), (.int bcx)]) (Fa_bl120_b1 : FA Z h_bl120 b1 .long 64 (fun i => .long (gx1 i))) (Fa_bl120_b2 : FA Z h_bl120 b2 .long 64 (fun i => .long (gx2 i))) (Fa_bl120_b3 : FA Z h_bl120 b3 .int 16 (fun i => .int (gx3 i))) (Fa_bl120_b4 : FA Z h_bl120 b4 .int 16 (fun i => .int (gx4 i))) (Fa_bl120_b5 : FA Z h_bl120 b5 .int 16 (fun i => .int (gx5 i))) (Fa_bl120_b6 : FA Z h_bl120 b6 .int 96 (fun i => .int (gx6 i))) (Fa_bl120_b7 : FA Z h_bl120 b7 .int 32 (fun i => .int (gx7 i))), OEnds p e below s (QL n0) room_1.cells room_1.slots (T.setTop (mkF m 120 #[.val (.int q0), .val (.long q1), .second, .val (.long q2), .second, .val (.int nx), .val (.int fx), .val (.int fy), .val (.int fz), .val (.ref nb4), .unset, .unset, .unset] [])) := by
    intro T lo nx szx ncx scx tex tax sex sax pnx bdx ssx bsx bcx gx1 gx2 gx3 gx4 gx5 gx6 gx7 h_bl120 Zz_bl120 X_bl120 e_bl120 N_bl120 Ob_bl120_nb4 Fa_bl120_b1 Fa_bl120_b2 Fa_bl120_b3 Fa_bl120_b4 Fa_bl120_b5 Fa_bl120_b6 Fa_bl120_b7
    show OEnds p e below s _ _ _ (T.setTop (mkF m 120 #[.val (.int q0), .val (.long q1), .second, .val (.long q2), .second, .val (.int nx), .val (.int fx), .val (.int fy), .val (.int fz), .val (.ref nb4), .unset, .unset, .unset] []))
    refine own_by (fun _ k => XS.aload X_bl120.here hx rfl (hb hby at_120) rfl rfl k) ?_
    show OEnds p e below s _ _ _ (T.setTop (mkF m 122 #[.val (.int q0), .val (.long q1), .second, .val (.long q2), .second, .val (.int nx), .val (.int fx), .val (.int fy), .val (.int fz), .val (.ref nb4), .unset, .unset, .unset] [(.ref nb4)]))
    obtain ⟨v6, T6, L6, h6, X6, e6, hQ6, st6⟩ := own_callV X_bl120 hx hZ (y := (⟨"com/example/graphweft/graphweft/RangeMaxTree", "clear", "()V"⟩ : MethodName)) hown (hw _ (List.mem_of_getElem? (i := 26) rfl)) (hw _ (List.mem_of_getElem? (i := 27) rfl)) (hw _ (List.mem_of_getElem? (i := 29) rfl)) (hw _ (List.mem_of_getElem? (i := 28) rfl)) (hw _ (List.mem_of_getElem? (i := 30) rfl)) (hw _ (List.mem_of_getElem? (i := 3) rfl)) (by decide) Ob_bl120_nb4.exa (rm_clear l Z a0 hw [] nb4 b1 b2 b3 b4 b5 b6 b7 szx ncx scx tex tax sex sax pnx bdx ssx bsx bcx h_bl120 n0 Zz_bl120 Ob_bl120_nb4 g_nb4 hord) e_bl120 (g := (mkF m 122 #[.val (.int q0), .val (.long q1), .second, .val (.long q2), .second, .val (.int nx), .val (.int fx), .val (.int fy), .val (.int fz), .val (.ref nb4), .unset, .unset, .unset] [(.ref nb4)])) rfl (by rw [hml]; rfl) (argsL := []) (rest := []) (lenOf pd_prV rfl) rfl (W := 0) (by show 2 * 0 + _ ≤ _; exact Nat.le_of_eq rfl) (hb hby at_122) (by decide) (by decide) (by decide) (by decide)
    obtain ⟨rfl, Nq6, Kq6, O6⟩ := hQ6
    have N6 := Fr.app N_bl120 Nq6
    have Z6 : n0 ≤ h6.size := Nat.le_trans Zz_bl120 Kq6.1
    refine own_tr st6 ?_
    show OEnds p e below s _ _ _ (T6.setTop (mkF m 125 #[.val (.int q0), .val (.long q1), .second, .val (.long q2), .second, .val (.int nx), .val (.int fx), .val (.int fy), .val (.int fz), .val (.ref nb4), .unset, .unset, .unset] []))
    refine own_by (fun _ k => XS.aload X6.here hx rfl (hb hby at_125) rfl rfl k) ?_
    show OEnds p e below s _ _ _ (T6.setTop (mkF m 127 #[.val (.int q0), .val (.long q1), .second, .val (.long q2), .second, .val (.int nx), .val (.int fx), .val (.int fy), .val (.int fz), .val (.ref nb4), .unset, .unset, .unset] [(.ref nb4)]))
    obtain ⟨T7, X7, e7, st7⟩ := own_callR X6 hx hZ (y := (⟨"com/example/graphweft/graphweft/RangeMaxTree", "size", "()I"⟩ : MethodName)) hown (hw _ (List.mem_of_getElem? (i := 47) rfl)) (hw _ (List.mem_of_getElem? (i := 48) rfl)) (hw _ (List.mem_of_getElem? (i := 50) rfl)) (hw _ (List.mem_of_getElem? (i := 49) rfl)) (hw _ (List.mem_of_getElem? (i := 51) rfl)) (hw _ (List.mem_of_getElem? (i := 3) rfl)) (by decide) O6.exa (rm_size0 l Z a0 hw [] nb4 b1 b2 b3 b4 b5 b6 b7 (0 : Int32) (0 : Int32) (0 : Int32) (0 : Int32) (0 : Int32) (0 : Int32) (0 : Int32) bdx ssx bsx bcx h6 n0 Z6 O6 hord) e6 (g := (mkF m 127 #[.val (.int q0), .val (.long q1), .second, .val (.long q2), .second, .val (.int nx), .val (.int fx), .val (.int fy), .val (.int fz), .val (.ref nb4), .unset, .unset, .unset] [(.ref nb4)])) rfl (by rw [hml]; rfl) (argsL := []) (rest := []) (lenOf pd_prI rfl) rfl (W := 0) (by show 2 * 0 + _ ≤ _; exact Nat.le_of_eq rfl) (hb hby at_127) (by decide) (by decide) (by decide) (by decide)
    refine own_by (st7) ?_
    show OEnds p e below s _ _ _ (T7.setTop (mkF m 130 #[.val (.int q0), .val (.long q1), .second, .val (.long q2), .second, .val (.int nx), .val (.int fx), .val (.int fy), .val (.int fz), .val (.ref nb4), .unset, .unset, .unset] [(.int (0 : Int32))]))
    refine own_by (fun _ k => XS.istore X7.here hx rfl (hb hby at_130) rfl (l' := #[.val (.int q0), .val (.long q1), .second, .val (.long q2), .second, .val (.int nx), .val (.int fx), .val (.int fy), .val (.int fz), .val (.ref nb4), .val (.int (0 : Int32)), .unset, .unset]) rfl k) ?_
    show OEnds p e below s _ _ _ (T7.setTop (mkF m 132 #[.val (.int q0), .val (.long q1), .second, .val (.long q2), .second, .val (.int nx), .val (.int fx), .val (.int fy), .val (.int fz), .val (.ref nb4), .val (.int (0 : Int32)), .unset, .unset] []))
    refine own_by (fun _ k => XS.aload X7.here hx rfl (hb hby at_132) rfl rfl k) ?_
    show OEnds p e below s _ _ _ (T7.setTop (mkF m 134 #[.val (.int q0), .val (.long q1), .second, .val (.long q2), .second, .val (.int nx), .val (.int fx), .val (.int fy), .val (.int fz), .val (.ref nb4), .val (.int (0 : Int32)), .unset, .unset] [(.ref nb4)]))
    have F9 : FA Z h6 b1 .long 64 (fun i => .long (gx1 i)) := (Fa_bl120_b1.keep Kq6 (ninS (Ne.symm (Nat.ne_of_lt (by omega))) nin0))
    obtain ⟨T8, X8, e8, st8⟩ := own_callR X7 hx hZ (y := (⟨"com/example/graphweft/graphweft/RangeMaxTree", "next", "()I"⟩ : MethodName)) hown (hw _ (List.mem_of_getElem? (i := 52) rfl)) (hw _ (List.mem_of_getElem? (i := 53) rfl)) (hw _ (List.mem_of_getElem? (i := 55) rfl)) (hw _ (List.mem_of_getElem? (i := 54) rfl)) (hw _ (List.mem_of_getElem? (i := 56) rfl)) (hw _ (List.mem_of_getElem? (i := 3) rfl)) (by decide) O6.exa (rm_next_0 l Z a0 hw [] nb4 b1 b2 b3 b4 b5 b6 b7 (0 : Int32) (0 : Int32) (0 : Int32) bdx ssx bsx bcx gx1 h6 n0 Z6 O6 F9 hord) e7 (g := (mkF m 134 #[.val (.int q0), .val (.long q1), .second, .val (.long q2), .second, .val (.int nx), .val (.int fx), .val (.int fy), .val (.int fz), .val (.ref nb4), .val (.int (0 : Int32)), .unset, .unset] [(.ref nb4)])) rfl (by rw [hml]; rfl) (argsL := []) (rest := []) (lenOf pd_prI rfl) rfl (W := 0) (by show 2 * 0 + _ ≤ _; exact Nat.le_of_eq rfl) (hb hby at_134) (by decide) (by decide) (by decide) (by decide)
    refine own_by (st8) ?_
    show OEnds p e below s _ _ _ (T8.setTop (mkF m 137 #[.val (.int q0), .val (.long q1), .second, .val (.long q2), .second, .val (.int nx), .val (.int fx), .val (.int fy), .val (.int fz), .val (.ref nb4), .val (.int (0 : Int32)), .unset, .unset] [(.int (-1 : Int32))]))
    refine own_by (fun _ k => XS.istore X8.here hx rfl (hb hby at_137) rfl (l' := #[.val (.int q0), .val (.long q1), .second, .val (.long q2), .second, .val (.int nx), .val (.int fx), .val (.int fy), .val (.int fz), .val (.ref nb4), .val (.int (0 : Int32)), .val (.int (-1 : Int32)), .unset]) rfl k) ?_
    show OEnds p e below s _ _ _ (T8.setTop (mkF m 139 #[.val (.int q0), .val (.long q1), .second, .val (.long q2), .second, .val (.int nx), .val (.int fx), .val (.int fy), .val (.int fz), .val (.ref nb4), .val (.int (0 : Int32)), .val (.int (-1 : Int32)), .unset] []))
    refine own_by (fun _ k => XS.aload X8.here hx rfl (hb hby at_139) rfl rfl k) ?_
    show OEnds p e below s _ _ _ (T8.setTop (mkF m 141 #[.val (.int q0), .val (.long q1), .second, .val (.long q2), .second, .val (.int nx), .val (.int fx), .val (.int fy), .val (.int fz), .val (.ref nb4), .val (.int (0 : Int32)), .val (.int (-1 : Int32)), .unset] [(.ref nb4)]))
    have F11 : FA Z h6 b2 .long 64 (fun i => .long (gx2 i)) := (Fa_bl120_b2.keep Kq6 (ninS (Ne.symm (Nat.ne_of_lt (by omega))) nin0))
    have F12 : FA Z h6 b3 .int 16 (fun i => .int (gx3 i)) := (Fa_bl120_b3.keep Kq6 (ninS (Ne.symm (Nat.ne_of_lt (by omega))) nin0))
    have F13 : FA Z h6 b4 .int 16 (fun i => .int (gx4 i)) := (Fa_bl120_b4.keep Kq6 (ninS (Ne.symm (Nat.ne_of_lt (by omega))) nin0))
    have F14 : FA Z h6 b5 .int 16 (fun i => .int (gx5 i)) := (Fa_bl120_b5.keep Kq6 (ninS (Ne.symm (Nat.ne_of_lt (by omega))) nin0))
    obtain ⟨v10, T10, L10, h10, X10, e10, hQ10, st10⟩ := own_callV X8 hx hZ (y := (⟨"com/example/graphweft/graphweft/RangeMaxTree", "index", "()I"⟩ : MethodName)) hown (hw _ (List.mem_of_getElem? (i := 57) rfl)) (hw _ (List.mem_of_getElem? (i := 58) rfl)) (hw _ (List.mem_of_getElem? (i := 60) rfl)) (hw _ (List.mem_of_getElem? (i := 59) rfl)) (hw _ (List.mem_of_getElem? (i := 61) rfl)) (hw _ (List.mem_of_getElem? (i := 3) rfl)) (by decide) O6.exa (rm_index_0 l Z a0 hw [] nb4 b1 b2 b3 b4 b5 b6 b7 (0 : Int32) (0 : Int32) (0 : Int32) (0 : Int32) (0 : Int32) bdx ssx bsx bcx gx1 gx2 gx3 gx4 gx5 h6 n0 Z6 O6 F9 F11 F12 F13 F14 g_nb4 g_b3 g_b4 g_b5 hord) e8 (g := (mkF m 141 #[.val (.int q0), .val (.long q1), .second, .val (.long q2), .second, .val (.int nx), .val (.int fx), .val (.int fy), .val (.int fz), .val (.ref nb4), .val (.int (0 : Int32)), .val (.int (-1 : Int32)), .unset] [(.ref nb4)])) rfl (by rw [hml]; rfl) (argsL := []) (rest := []) (lenOf pd_prI rfl) rfl (W := 0) (by show 2 * 0 + _ ≤ _; exact Nat.le_of_eq rfl) (hb hby at_141) (by decide) (by decide) (by decide) (by decide)
    obtain ⟨rfl, Nq10, Kq10, O10, F10_b3, F10_b4, F10_b5⟩ := hQ10
    have N10 := Fr.app N6 Nq10
    have Z10 : n0 ≤ h10.size := Nat.le_trans Z6 Kq10.1
    refine own_tr st10 ?_
    show OEnds p e below s _ _ _ (T10.setTop (mkF m 144 #[.val (.int q0), .val (.long q1), .second, .val (.long q2), .second, .val (.int nx), .val (.int fx), .val (.int fy), .val (.int fz), .val (.ref nb4), .val (.int (0 : Int32)), .val (.int (-1 : Int32)), .unset] [(.int (0 : Int32))]))
    refine own_by (fun _ k => XS.istore X10.here hx rfl (hb hby at_144) rfl (l' := #[.val (.int q0), .val (.long q1), .second, .val (.long q2), .second, .val (.int nx), .val (.int fx), .val (.int fy), .val (.int fz), .val (.ref nb4), .val (.int (0 : Int32)), .val (.int (-1 : Int32)), .val (.int (0 : Int32))]) rfl k) ?_
    show OEnds p e below s _ _ _ (T10.setTop (mkF m 146 #[.val (.int q0), .val (.long q1), .second, .val (.long q2), .second, .val (.int nx), .val (.int fx), .val (.int fy), .val (.int fz), .val (.ref nb4), .val (.int (0 : Int32)), .val (.int (-1 : Int32)), .val (.int (0 : Int32))] []))
    refine own_by (fun _ k => XS.iload X10.here hx rfl (hb hby at_146) rfl k) ?_
    show OEnds p e below s _ _ _ (T10.setTop (mkF m 148 #[.val (.int q0), .val (.long q1), .second, .val (.long q2), .second, .val (.int nx), .val (.int fx), .val (.int fy), .val (.int fz), .val (.ref nb4), .val (.int (0 : Int32)), .val (.int (-1 : Int32)), .val (.int (0 : Int32))] [(.int (0 : Int32))]))
    refine own_by (fun _ k => XS.ifNo X10.here hx rfl (hb hby at_148) rfl ((if0 _ _).trans (teq (by decide : (0 : Int32) = (0 : Int32))).2) k) ?_
    show OEnds p e below s _ _ _ (T10.setTop (mkF m 151 #[.val (.int q0), .val (.long q1), .second, .val (.long q2), .second, .val (.int nx), .val (.int fx), .val (.int fy), .val (.int fz), .val (.ref nb4), .val (.int (0 : Int32)), .val (.int (-1 : Int32)), .val (.int (0 : Int32))] []))
    refine own_by (fun _ k => XS.iload X10.here hx rfl (hb hby at_151) rfl k) ?_
    show OEnds p e below s _ _ _ (T10.setTop (mkF m 153 #[.val (.int q0), .val (.long q1), .second, .val (.long q2), .second, .val (.int nx), .val (.int fx), .val (.int fy), .val (.int fz), .val (.ref nb4), .val (.int (0 : Int32)), .val (.int (-1 : Int32)), .val (.int (0 : Int32))] [(.int (-1 : Int32))]))
    refine own_by (fun _ k => XS.iconst X10.here hx rfl (hb hby at_153) k) ?_
    show OEnds p e below s _ _ _ (T10.setTop (mkF m 154 #[.val (.int q0), .val (.long q1), .second, .val (.long q2), .second, .val (.int nx), .val (.int fx), .val (.int fy), .val (.int fz), .val (.ref nb4), .val (.int (0 : Int32)), .val (.int (-1 : Int32)), .val (.int (0 : Int32))] [(.int (-1 : Int32)), (.int (-1 : Int32))]))
    refine own_by (fun _ k => XS.icmpNo X10.here hx rfl (hb hby at_154) rfl (teq (by decide : (-1 : Int32) = (-1 : Int32))).2 k) ?_
    show OEnds p e below s _ _ _ (T10.setTop (mkF m 157 #[.val (.int q0), .val (.long q1), .second, .val (.long q2), .second, .val (.int nx), .val (.int fx), .val (.int fy), .val (.int fz), .val (.ref nb4), .val (.int (0 : Int32)), .val (.int (-1 : Int32)), .val (.int (0 : Int32))] []))
    refine own_by (fun _ k => XS.iload X10.here hx rfl (hb hby at_157) rfl k) ?_
    show OEnds p e below s _ _ _ (T10.setTop (mkF m 159 #[.val (.int q0), .val (.long q1), .second, .val (.long q2), .second, .val (.int nx), .val (.int fx), .val (.int fy), .val (.int fz), .val (.ref nb4), .val (.int (0 : Int32)), .val (.int (-1 : Int32)), .val (.int (0 : Int32))] [(.int (0 : Int32))]))
    refine own_by (fun _ k => XS.ifNo X10.here hx rfl (hb hby at_159) rfl ((if0 _ _).trans (teq (by decide : (0 : Int32) = (0 : Int32))).2) k) ?_
    show OEnds p e below s _ _ _ (T10.setTop (mkF m 162 #[.val (.int q0), .val (.long q1), .second, .val (.long q2), .second, .val (.int nx), .val (.int fx), .val (.int fy), .val (.int fz), .val (.ref nb4), .val (.int (0 : Int32)), .val (.int (-1 : Int32)), .val (.int (0 : Int32))] []))
    refine own_by (fun _ k => XS.iconst X10.here hx rfl (hb hby at_162) k) ?_
    show OEnds p e below s _ _ _ (T10.setTop (mkF m 163 #[.val (.int q0), .val (.long q1), .second, .val (.long q2), .second, .val (.int nx), .val (.int fx), .val (.int fy), .val (.int fz), .val (.ref nb4), .val (.int (0 : Int32)), .val (.int (-1 : Int32)), .val (.int (0 : Int32))] [(.int (1 : Int32))]))
    refine own_by (fun _ k => XS.goto X10.here hx rfl (pc0 := 163) (pc' := 167) rfl (hb hby at_163) (by decide) (by decide) k) ?_
    show OEnds p e below s _ _ _ (T10.setTop (mkF m 167 #[.val (.int q0), .val (.long q1), .second, .val (.long q2), .second, .val (.int nx), .val (.int fx), .val (.int fy), .val (.int fz), .val (.ref nb4), .val (.int (0 : Int32)), .val (.int (-1 : Int32)), .val (.int (0 : Int32))] [(.int (1 : Int32))]))
    exact own_retN X10 hx hlk .boolean (by simp) Bd.returns (hb hby at_167) ⟨rfl, N10⟩ (by decide) (by decide)
  rcases hn3 with rfl | rfl | rfl
  · show OEnds p e below s _ _ _ (T5.setTop (mkF m 58 #[.val (.int q0), .val (.long q1), .second, .val (.long q2), .second, .val (.int (0 : Int32)), .val (.int fx), .val (.int fy), .val (.int fz), .val (.ref nb4), .unset, .unset, .unset] []))
    refine own_by (fun _ k => XS.iload X5.here hx rfl (hb hby at_58) rfl k) ?_
    show OEnds p e below s _ _ _ (T5.setTop (mkF m 60 #[.val (.int q0), .val (.long q1), .second, .val (.long q2), .second, .val (.int (0 : Int32)), .val (.int fx), .val (.int fy), .val (.int fz), .val (.ref nb4), .unset, .unset, .unset] [(.int (0 : Int32))]))
    refine own_by (fun _ k => XS.iconst X5.here hx rfl (hb hby at_60) k) ?_
    show OEnds p e below s _ _ _ (T5.setTop (mkF m 61 #[.val (.int q0), .val (.long q1), .second, .val (.long q2), .second, .val (.int (0 : Int32)), .val (.int fx), .val (.int fy), .val (.int fz), .val (.ref nb4), .unset, .unset, .unset] [(.int (1 : Int32)), (.int (0 : Int32))]))
    refine own_by (fun _ k => XS.icmpYes X5.here hx rfl (pc0 := 61) (pc' := 70) rfl (hb hby at_61) rfl (tlt (by decide : (0 : Int32) < (1 : Int32))).1 (by decide) (by decide) k) ?_
    show OEnds p e below s _ _ _ (T5.setTop (mkF m 70 #[.val (.int q0), .val (.long q1), .second, .val (.long q2), .second, .val (.int (0 : Int32)), .val (.int fx), .val (.int fy), .val (.int fz), .val (.ref nb4), .unset, .unset, .unset] []))
    refine own_by (fun _ k => XS.iload X5.here hx rfl (hb hby at_70) rfl k) ?_
    show OEnds p e below s _ _ _ (T5.setTop (mkF m 72 #[.val (.int q0), .val (.long q1), .second, .val (.long q2), .second, .val (.int (0 : Int32)), .val (.int fx), .val (.int fy), .val (.int fz), .val (.ref nb4), .unset, .unset, .unset] [(.int (0 : Int32))]))
    refine own_by (fun _ k => XS.iconst X5.here hx rfl (hb hby at_72) k) ?_
    show OEnds p e below s _ _ _ (T5.setTop (mkF m 73 #[.val (.int q0), .val (.long q1), .second, .val (.long q2), .second, .val (.int (0 : Int32)), .val (.int fx), .val (.int fy), .val (.int fz), .val (.ref nb4), .unset, .unset, .unset] [(.int (2 : Int32)), (.int (0 : Int32))]))
    refine own_by (fun _ k => XS.icmpYes X5.here hx rfl (pc0 := 73) (pc' := 82) rfl (hb hby at_73) rfl (tlt (by decide : (0 : Int32) < (2 : Int32))).1 (by decide) (by decide) k) ?_
    show OEnds p e below s _ _ _ (T5.setTop (mkF m 82 #[.val (.int q0), .val (.long q1), .second, .val (.long q2), .second, .val (.int (0 : Int32)), .val (.int fx), .val (.int fy), .val (.int fz), .val (.ref nb4), .unset, .unset, .unset] []))
    refine own_by (fun _ k => XS.iload X5.here hx rfl (hb hby at_82) rfl k) ?_
    show OEnds p e below s _ _ _ (T5.setTop (mkF m 84 #[.val (.int q0), .val (.long q1), .second, .val (.long q2), .second, .val (.int (0 : Int32)), .val (.int fx), .val (.int fy), .val (.int fz), .val (.ref nb4), .unset, .unset, .unset] [(.int fx)]))
    by_cases hc84_15 : fx = (0 : Int32)
    · refine own_by (fun _ k => XS.ifYes X5.here hx rfl (pc0 := 84) (pc' := 120) rfl (hb hby at_84) rfl ((if0 _ _).trans (teq hc84_15).1) (by decide) (by decide) k) ?_
      show OEnds p e below s _ _ _ (T5.setTop (mkF m 120 #[.val (.int q0), .val (.long q1), .second, .val (.long q2), .second, .val (.int (0 : Int32)), .val (.int fx), .val (.int fy), .val (.int fz), .val (.ref nb4), .unset, .unset, .unset] []))
      exact bl120 T5 _ (0 : Int32) (0 : Int32) (0 : Int32) (0 : Int32) (0 : Int32) (0 : Int32) (0 : Int32) (0 : Int32) (0 : Int32) (0 : Int64) (0 : Int32) (0 : Int32) (0 : Int32) (fun _ => (0 : Int64)) (fun _ => (0 : Int64)) (fun _ => (0 : Int32)) (fun _ => (0 : Int32)) (fun _ => (0 : Int32)) (fun _ => (0 : Int32)) (fun _ => (0 : Int32)) h5 Z5 X5 e5 N5 O5 F_1 F_2 F_3 F_4 F_5 F_6 F_7
    · refine own_by (fun _ k => XS.ifNo X5.here hx rfl (hb hby at_84) rfl ((if0 _ _).trans (feq hc84_15).1) k) ?_
      show OEnds p e below s _ _ _ (T5.setTop (mkF m 87 #[.val (.int q0), .val (.long q1), .second, .val (.long q2), .second, .val (.int (0 : Int32)), .val (.int fx), .val (.int fy), .val (.int fz), .val (.ref nb4), .unset, .unset, .unset] []))
      refine own_by (fun _ k => XS.aload X5.here hx rfl (hb hby at_87) rfl rfl k) ?_
      show OEnds p e below s _ _ _ (T5.setTop (mkF m 89 #[.val (.int q0), .val (.long q1), .second, .val (.long q2), .second, .val (.int (0 : Int32)), .val (.int fx), .val (.int fy), .val (.int fz), .val (.ref nb4), .unset, .unset, .unset] [(.ref nb4)]))
      obtain ⟨v16, T16, L16, h16, X16, e16, hQ16, st16⟩ := own_callV X5 hx hZ (y := (⟨"com/example/graphweft/graphweft/RangeMaxTree", "index", "()I"⟩ : MethodName)) hown (hw _ (List.mem_of_getElem? (i := 57) rfl)) (hw _ (List.mem_of_getElem? (i := 58) rfl)) (hw _ (List.mem_of_getElem? (i := 60) rfl)) (hw _ (List.mem_of_getElem? (i := 59) rfl)) (hw _ (List.mem_of_getElem? (i := 61) rfl)) (hw _ (List.mem_of_getElem? (i := 3) rfl)) (by decide) O5.exa (rm_index_0 l Z a0 hw [] nb4 b1 b2 b3 b4 b5 b6 b7 (0 : Int32) (0 : Int32) (0 : Int32) (0 : Int32) (0 : Int32) (0 : Int64) (0 : Int32) (0 : Int32) (0 : Int32) (fun _ => (0 : Int64)) (fun _ => (0 : Int64)) (fun _ => (0 : Int32)) (fun _ => (0 : Int32)) (fun _ => (0 : Int32)) h5 n0 Z5 O5 F_1 F_2 F_3 F_4 F_5 g_nb4 g_b3 g_b4 g_b5 hord) e5 (g := (mkF m 89 #[.val (.int q0), .val (.long q1), .second, .val (.long q2), .second, .val (.int (0 : Int32)), .val (.int fx), .val (.int fy), .val (.int fz), .val (.ref nb4), .unset, .unset, .unset] [(.ref nb4)])) rfl (by rw [hml]; rfl) (argsL := []) (rest := []) (lenOf pd_prI rfl) rfl (W := 0) (by show 2 * 0 + _ ≤ _; exact Nat.le_of_eq rfl) (hb hby at_89) (by decide) (by decide) (by decide) (by decide)
      obtain ⟨rfl, Nq16, Kq16, O16, F16_b3, F16_b4, F16_b5⟩ := hQ16
      have N16 := Fr.app N5 Nq16
      have Z16 : n0 ≤ h16.size := Nat.le_trans Z5 Kq16.1
      refine own_tr st16 ?_
      show OEnds p e below s _ _ _ (T16.setTop (mkF m 92 #[.val (.int q0), .val (.long q1), .second, .val (.long q2), .second, .val (.int (0 : Int32)), .val (.int fx), .val (.int fy), .val (.int fz), .val (.ref nb4), .unset, .unset, .unset] [(.int (0 : Int32))]))
      refine own_by (fun _ k => XS.pop X16.here hx rfl (hb hby at_92) rfl rfl k) ?_
      show OEnds p e below s _ _ _ (T16.setTop (mkF m 93 #[.val (.int q0), .val (.long q1), .second, .val (.long q2), .second, .val (.int (0 : Int32)), .val (.int fx), .val (.int fy), .val (.int fz), .val (.ref nb4), .unset, .unset, .unset] []))
      refine own_by (fun _ k => XS.iload X16.here hx rfl (hb hby at_93) rfl k) ?_
      show OEnds p e below s _ _ _ (T16.setTop (mkF m 95 #[.val (.int q0), .val (.long q1), .second, .val (.long q2), .second, .val (.int (0 : Int32)), .val (.int fx), .val (.int fy), .val (.int fz), .val (.ref nb4), .unset, .unset, .unset] [(.int fy)]))
      by_cases hc95_17 : fy = (0 : Int32)
      · refine own_by (fun _ k => XS.ifYes X16.here hx rfl (pc0 := 95) (pc' := 120) rfl (hb hby at_95) rfl ((if0 _ _).trans (teq hc95_17).1) (by decide) (by decide) k) ?_
        show OEnds p e below s _ _ _ (T16.setTop (mkF m 120 #[.val (.int q0), .val (.long q1), .second, .val (.long q2), .second, .val (.int (0 : Int32)), .val (.int fx), .val (.int fy), .val (.int fz), .val (.ref nb4), .unset, .unset, .unset] []))
        have F18 : FA Z h16 b1 .long 64 (fun i => .long ((fun _ => (0 : Int64)) i)) := (F_1.keep Kq16 (ninS (Ne.symm (Nat.ne_of_lt (by omega))) (ninS (Nat.ne_of_lt (by omega)) (ninS (Nat.ne_of_lt (by omega)) (ninS (Nat.ne_of_lt (by omega)) nin0)))))
        have F19 : FA Z h16 b2 .long 64 (fun i => .long ((fun _ => (0 : Int64)) i)) := (F_2.keep Kq16 (ninS (Ne.symm (Nat.ne_of_lt (by omega))) (ninS (Nat.ne_of_lt (by omega)) (ninS (Nat.ne_of_lt (by omega)) (ninS (Nat.ne_of_lt (by omega)) nin0)))))
        have F20 : FA Z h16 b6 .int 96 (fun i => .int ((fun _ => (0 : Int32)) i)) := (F_6.keep Kq16 (ninS (Ne.symm (Nat.ne_of_lt (by omega))) (ninS (Ne.symm (Nat.ne_of_lt (by omega))) (ninS (Ne.symm (Nat.ne_of_lt (by omega))) (ninS (Ne.symm (Nat.ne_of_lt (by omega))) nin0)))))
        have F21 : FA Z h16 b7 .int 32 (fun i => .int ((fun _ => (0 : Int32)) i)) := (F_7.keep Kq16 (ninS (Ne.symm (Nat.ne_of_lt (by omega))) (ninS (Ne.symm (Nat.ne_of_lt (by omega))) (ninS (Ne.symm (Nat.ne_of_lt (by omega))) (ninS (Ne.symm (Nat.ne_of_lt (by omega))) nin0)))))
        exact bl120 T16 _ (0 : Int32) (0 : Int32) (0 : Int32) (1 : Int32) (0 : Int32) (0 : Int32) (0 : Int32) (0 : Int32) (0 : Int32) (0 : Int64) (0 : Int32) (0 : Int32) (0 : Int32) (fun _ => (0 : Int64)) (fun _ => (0 : Int64)) (updI (fun _ => (0 : Int32)) 0 (0 : Int32)) (updI (fun _ => (0 : Int32)) 0 (0 : Int32)) (updI (fun _ => (0 : Int32)) 0 (0 : Int32)) (fun _ => (0 : Int32)) (fun _ => (0 : Int32)) h16 Z16 X16 e16 N16 O16 F18 F19 F16_b3 F16_b4 F16_b5 F20 F21
      · refine own_by (fun _ k => XS.ifNo X16.here hx rfl (hb hby at_95) rfl ((if0 _ _).trans (feq hc95_17).1) k) ?_
        show OEnds p e below s _ _ _ (T16.setTop (mkF m 98 #[.val (.int q0), .val (.long q1), .second, .val (.long q2), .second, .val (.int (0 : Int32)), .val (.int fx), .val (.int fy), .val (.int fz), .val (.ref nb4), .unset, .unset, .unset] []))
        refine own_by (fun _ k => XS.aload X16.here hx rfl (hb hby at_98) rfl rfl k) ?_
        show OEnds p e below s _ _ _ (T16.setTop (mkF m 100 #[.val (.int q0), .val (.long q1), .second, .val (.long q2), .second, .val (.int (0 : Int32)), .val (.int fx), .val (.int fy), .val (.int fz), .val (.ref nb4), .unset, .unset, .unset] [(.ref nb4)]))
        refine own_by (fun _ k => XS.iconst X16.here hx rfl (hb hby at_100) k) ?_
        show OEnds p e below s _ _ _ (T16.setTop (mkF m 101 #[.val (.int q0), .val (.long q1), .second, .val (.long q2), .second, .val (.int (0 : Int32)), .val (.int fx), .val (.int fy), .val (.int fz), .val (.ref nb4), .unset, .unset, .unset] [(.int (0 : Int32)), (.ref nb4)]))
        refine own_by (fun _ k => XS.iload X16.here hx rfl (hb hby at_101) rfl k) ?_
        show OEnds p e below s _ _ _ (T16.setTop (mkF m 103 #[.val (.int q0), .val (.long q1), .second, .val (.long q2), .second, .val (.int (0 : Int32)), .val (.int fx), .val (.int fy), .val (.int fz), .val (.ref nb4), .unset, .unset, .unset] [(.int (0 : Int32)), (.int (0 : Int32)), (.ref nb4)]))
        refine own_by (X16.ldc2Long hx hown (mvT hZ (hw _ (List.mem_of_getElem? (i := 79) rfl))) (g := (mkF m 103 #[.val (.int q0), .val (.long q1), .second, .val (.long q2), .second, .val (.int (0 : Int32)), .val (.int fx), .val (.int fy), .val (.int fz), .val (.ref nb4), .unset, .unset, .unset] [(.int (0 : Int32)), (.int (0 : Int32)), (.ref nb4)])) rfl (hb hby at_103)) ?_
        show OEnds p e below s _ _ _ (T16.setTop (mkF m 106 #[.val (.int q0), .val (.long q1), .second, .val (.long q2), .second, .val (.int (0 : Int32)), .val (.int fx), .val (.int fy), .val (.int fz), .val (.ref nb4), .unset, .unset, .unset] [(.long (-9223372036854775808 : Int64)), (.int (0 : Int32)), (.int (0 : Int32)), (.ref nb4)]))
        obtain ⟨v22, T22, L22, h22, X22, e22, hQ22, st22⟩ := own_callV X16 hx hZ (y := (⟨"com/example/graphweft/graphweft/RangeMaxTree", "find", "(IIJ)V"⟩ : MethodName)) hown (hw _ (List.mem_of_getElem? (i := 80) rfl)) (hw _ (List.mem_of_getElem? (i := 81) rfl)) (hw _ (List.mem_of_getElem? (i := 83) rfl)) (hw _ (List.mem_of_getElem? (i := 82) rfl)) (hw _ (List.mem_of_getElem? (i := 84) rfl)) (hw _ (List.mem_of_getElem? (i := 3) rfl)) (by decide) O16.exa (rm_find_0 l Z a0 hw [] nb4 (-9223372036854775808 : Int64) b1 b2 b3 b4 b5 b6 b7 (0 : Int32) (0 : Int32) (1 : Int32) (0 : Int32) (0 : Int32) (0 : Int32) (0 : Int32) (0 : Int32) (0 : Int64) (0 : Int32) (0 : Int32) (0 : Int32) (updI (fun _ => (0 : Int32)) 0 (0 : Int32)) (updI (fun _ => (0 : Int32)) 0 (0 : Int32)) (updI (fun _ => (0 : Int32)) 0 (0 : Int32)) h16 n0 Z16 O16 F16_b3 F16_b4 F16_b5 g_nb4 hord rfl rfl rfl) e16 (g := (mkF m 106 #[.val (.int q0), .val (.long q1), .second, .val (.long q2), .second, .val (.int (0 : Int32)), .val (.int fx), .val (.int fy), .val (.int fz), .val (.ref nb4), .unset, .unset, .unset] [(.long (-9223372036854775808 : Int64)), (.int (0 : Int32)), (.int (0 : Int32)), (.ref nb4)])) rfl (by rw [hml]; rfl) (argsL := [(.int (0 : Int32)), (.int (0 : Int32)), (.long (-9223372036854775808 : Int64))]) (rest := []) (lenOf pd_pIIJrV rfl) rfl (W := 0) (by show 2 * 0 + _ ≤ _; exact Nat.le_of_eq rfl) (hb hby at_106) (by decide) (by decide) (by decide) (by decide)
        obtain ⟨rfl, Nq22, Kq22, O22⟩ := hQ22
        have N22 := Fr.app N16 Nq22
        have Z22 : n0 ≤ h22.size := Nat.le_trans Z16 Kq22.1
        refine own_tr st22 ?_
        show OEnds p e below s _ _ _ (T22.setTop (mkF m 109 #[.val (.int q0), .val (.long q1), .second, .val (.long q2), .second, .val (.int (0 : Int32)), .val (.int fx), .val (.int fy), .val (.int fz), .val (.ref nb4), .unset, .unset, .unset] []))
        refine own_by (fun _ k => XS.iload X22.here hx rfl (hb hby at_109) rfl k) ?_
        show OEnds p e below s _ _ _ (T22.setTop (mkF m 111 #[.val (.int q0), .val (.long q1), .second, .val (.long q2), .second, .val (.int (0 : Int32)), .val (.int fx), .val (.int fy), .val (.int fz), .val (.ref nb4), .unset, .unset, .unset] [(.int fz)]))
        by_cases hc111_23 : fz = (0 : Int32)
        · refine own_by (fun _ k => XS.ifYes X22.here hx rfl (pc0 := 111) (pc' := 120) rfl (hb hby at_111) rfl ((if0 _ _).trans (teq hc111_23).1) (by decide) (by decide) k) ?_
          show OEnds p e below s _ _ _ (T22.setTop (mkF m 120 #[.val (.int q0), .val (.long q1), .second, .val (.long q2), .second, .val (.int (0 : Int32)), .val (.int fx), .val (.int fy), .val (.int fz), .val (.ref nb4), .unset, .unset, .unset] []))
          have F24 : FA Z h22 b1 .long 64 (fun i => .long ((fun _ => (0 : Int64)) i)) := ((F_1.keep Kq16 (ninS (Ne.symm (Nat.ne_of_lt (by omega))) (ninS (Nat.ne_of_lt (by omega)) (ninS (Nat.ne_of_lt (by omega)) (ninS (Nat.ne_of_lt (by omega)) nin0))))).keep Kq22 (ninS (Ne.symm (Nat.ne_of_lt (by omega))) nin0))
          have F25 : FA Z h22 b2 .long 64 (fun i => .long ((fun _ => (0 : Int64)) i)) := ((F_2.keep Kq16 (ninS (Ne.symm (Nat.ne_of_lt (by omega))) (ninS (Nat.ne_of_lt (by omega)) (ninS (Nat.ne_of_lt (by omega)) (ninS (Nat.ne_of_lt (by omega)) nin0))))).keep Kq22 (ninS (Ne.symm (Nat.ne_of_lt (by omega))) nin0))
          have F26 : FA Z h22 b3 .int 16 (fun i => .int ((updI (fun _ => (0 : Int32)) 0 (0 : Int32)) i)) := (F16_b3.keep Kq22 (ninS (Ne.symm (Nat.ne_of_lt (by omega))) nin0))
          have F27 : FA Z h22 b4 .int 16 (fun i => .int ((updI (fun _ => (0 : Int32)) 0 (0 : Int32)) i)) := (F16_b4.keep Kq22 (ninS (Ne.symm (Nat.ne_of_lt (by omega))) nin0))
          have F28 : FA Z h22 b5 .int 16 (fun i => .int ((updI (fun _ => (0 : Int32)) 0 (0 : Int32)) i)) := (F16_b5.keep Kq22 (ninS (Ne.symm (Nat.ne_of_lt (by omega))) nin0))
          have F29 : FA Z h22 b6 .int 96 (fun i => .int ((fun _ => (0 : Int32)) i)) := ((F_6.keep Kq16 (ninS (Ne.symm (Nat.ne_of_lt (by omega))) (ninS (Ne.symm (Nat.ne_of_lt (by omega))) (ninS (Ne.symm (Nat.ne_of_lt (by omega))) (ninS (Ne.symm (Nat.ne_of_lt (by omega))) nin0))))).keep Kq22 (ninS (Ne.symm (Nat.ne_of_lt (by omega))) nin0))
          have F30 : FA Z h22 b7 .int 32 (fun i => .int ((fun _ => (0 : Int32)) i)) := ((F_7.keep Kq16 (ninS (Ne.symm (Nat.ne_of_lt (by omega))) (ninS (Ne.symm (Nat.ne_of_lt (by omega))) (ninS (Ne.symm (Nat.ne_of_lt (by omega))) (ninS (Ne.symm (Nat.ne_of_lt (by omega))) nin0))))).keep Kq22 (ninS (Ne.symm (Nat.ne_of_lt (by omega))) nin0))
          exact bl120 T22 _ (0 : Int32) (0 : Int32) (0 : Int32) (1 : Int32) (0 : Int32) (0 : Int32) (0 : Int32) (0 : Int32) (0 : Int32) (-9223372036854775808 : Int64) (0 : Int32) (0 : Int32) (0 : Int32) (fun _ => (0 : Int64)) (fun _ => (0 : Int64)) (updI (fun _ => (0 : Int32)) 0 (0 : Int32)) (updI (fun _ => (0 : Int32)) 0 (0 : Int32)) (updI (fun _ => (0 : Int32)) 0 (0 : Int32)) (fun _ => (0 : Int32)) (fun _ => (0 : Int32)) h22 Z22 X22 e22 N22 O22 F24 F25 F26 F27 F28 F29 F30
        · refine own_by (fun _ k => XS.ifNo X22.here hx rfl (hb hby at_111) rfl ((if0 _ _).trans (feq hc111_23).1) k) ?_
          show OEnds p e below s _ _ _ (T22.setTop (mkF m 114 #[.val (.int q0), .val (.long q1), .second, .val (.long q2), .second, .val (.int (0 : Int32)), .val (.int fx), .val (.int fy), .val (.int fz), .val (.ref nb4), .unset, .unset, .unset] []))
          refine own_by (fun _ k => XS.aload X22.here hx rfl (hb hby at_114) rfl rfl k) ?_
          show OEnds p e below s _ _ _ (T22.setTop (mkF m 116 #[.val (.int q0), .val (.long q1), .second, .val (.long q2), .second, .val (.int (0 : Int32)), .val (.int fx), .val (.int fy), .val (.int fz), .val (.ref nb4), .unset, .unset, .unset] [(.ref nb4)]))
          have F32 : FA Z h22 b1 .long 64 (fun i => .long ((fun _ => (0 : Int64)) i)) := ((F_1.keep Kq16 (ninS (Ne.symm (Nat.ne_of_lt (by omega))) (ninS (Nat.ne_of_lt (by omega)) (ninS (Nat.ne_of_lt (by omega)) (ninS (Nat.ne_of_lt (by omega)) nin0))))).keep Kq22 (ninS (Ne.symm (Nat.ne_of_lt (by omega))) nin0))
          obtain ⟨T31, X31, e31, st31⟩ := own_callR X22 hx hZ (y := (⟨"com/example/graphweft/graphweft/RangeMaxTree", "next", "()I"⟩ : MethodName)) hown (hw _ (List.mem_of_getElem? (i := 52) rfl)) (hw _ (List.mem_of_getElem? (i := 53) rfl)) (hw _ (List.mem_of_getElem? (i := 55) rfl)) (hw _ (List.mem_of_getElem? (i := 54) rfl)) (hw _ (List.mem_of_getElem? (i := 56) rfl)) (hw _ (List.mem_of_getElem? (i := 3) rfl)) (by decide) O22.exa (rm_next_0 l Z a0 hw [] nb4 b1 b2 b3 b4 b5 b6 b7 (0 : Int32) (0 : Int32) (1 : Int32) (-9223372036854775808 : Int64) (0 : Int32) (0 : Int32) (0 : Int32) (fun _ => (0 : Int64)) h22 n0 Z22 O22 F32 hord) e22 (g := (mkF m 116 #[.val (.int q0), .val (.long q1), .second, .val (.long q2), .second, .val (.int (0 : Int32)), .val (.int fx), .val (.int fy), .val (.int fz), .val (.ref nb4), .unset, .unset, .unset] [(.ref nb4)])) rfl (by rw [hml]; rfl) (argsL := []) (rest := []) (lenOf pd_prI rfl) rfl (W := 0) (by show 2 * 0 + _ ≤ _; exact Nat.le_of_eq rfl) (hb hby at_116) (by decide) (by decide) (by decide) (by decide)
          refine own_by (st31) ?_
          show OEnds p e below s _ _ _ (T31.setTop (mkF m 119 #[.val (.int q0), .val (.long q1), .second, .val (.long q2), .second, .val (.int (0 : Int32)), .val (.int fx), .val (.int fy), .val (.int fz), .val (.ref nb4), .unset, .unset, .unset] [(.int (-1 : Int32))]))
          refine own_by (fun _ k => XS.pop X31.here hx rfl (hb hby at_119) rfl rfl k) ?_
          show OEnds p e below s _ _ _ (T31.setTop (mkF m 120 #[.val (.int q0), .val (.long q1), .second, .val (.long q2), .second, .val (.int (0 : Int32)), .val (.int fx), .val (.int fy), .val (.int fz), .val (.ref nb4), .unset, .unset, .unset] []))
          have F33 : FA Z h22 b2 .long 64 (fun i => .long ((fun _ => (0 : Int64)) i)) := ((F_2.keep Kq16 (ninS (Ne.symm (Nat.ne_of_lt (by omega))) (ninS (Nat.ne_of_lt (by omega)) (ninS (Nat.ne_of_lt (by omega)) (ninS (Nat.ne_of_lt (by omega)) nin0))))).keep Kq22 (ninS (Ne.symm (Nat.ne_of_lt (by omega))) nin0))
          have F34 : FA Z h22 b3 .int 16 (fun i => .int ((updI (fun _ => (0 : Int32)) 0 (0 : Int32)) i)) := (F16_b3.keep Kq22 (ninS (Ne.symm (Nat.ne_of_lt (by omega))) nin0))
          have F35 : FA Z h22 b4 .int 16 (fun i => .int ((updI (fun _ => (0 : Int32)) 0 (0 : Int32)) i)) := (F16_b4.keep Kq22 (ninS (Ne.symm (Nat.ne_of_lt (by omega))) nin0))
          have F36 : FA Z h22 b5 .int 16 (fun i => .int ((updI (fun _ => (0 : Int32)) 0 (0 : Int32)) i)) := (F16_b5.keep Kq22 (ninS (Ne.symm (Nat.ne_of_lt (by omega))) nin0))
          have F37 : FA Z h22 b6 .int 96 (fun i => .int ((fun _ => (0 : Int32)) i)) := ((F_6.keep Kq16 (ninS (Ne.symm (Nat.ne_of_lt (by omega))) (ninS (Ne.symm (Nat.ne_of_lt (by omega))) (ninS (Ne.symm (Nat.ne_of_lt (by omega))) (ninS (Ne.symm (Nat.ne_of_lt (by omega))) nin0))))).keep Kq22 (ninS (Ne.symm (Nat.ne_of_lt (by omega))) nin0))
          have F38 : FA Z h22 b7 .int 32 (fun i => .int ((fun _ => (0 : Int32)) i)) := ((F_7.keep Kq16 (ninS (Ne.symm (Nat.ne_of_lt (by omega))) (ninS (Ne.symm (Nat.ne_of_lt (by omega))) (ninS (Ne.symm (Nat.ne_of_lt (by omega))) (ninS (Ne.symm (Nat.ne_of_lt (by omega))) nin0))))).keep Kq22 (ninS (Ne.symm (Nat.ne_of_lt (by omega))) nin0))
          exact bl120 T31 _ (0 : Int32) (0 : Int32) (0 : Int32) (1 : Int32) (0 : Int32) (0 : Int32) (0 : Int32) (0 : Int32) (0 : Int32) (-9223372036854775808 : Int64) (0 : Int32) (0 : Int32) (0 : Int32) (fun _ => (0 : Int64)) (fun _ => (0 : Int64)) (updI (fun _ => (0 : Int32)) 0 (0 : Int32)) (updI (fun _ => (0 : Int32)) 0 (0 : Int32)) (updI (fun _ => (0 : Int32)) 0 (0 : Int32)) (fun _ => (0 : Int32)) (fun _ => (0 : Int32)) h22 Z22 X31 e31 N22 O22 F32 F33 F34 F35 F36 F37 F38
  · show OEnds p e below s _ _ _ (T5.setTop (mkF m 58 #[.val (.int q0), .val (.long q1), .second, .val (.long q2), .second, .val (.int (1 : Int32)), .val (.int fx), .val (.int fy), .val (.int fz), .val (.ref nb4), .unset, .unset, .unset] []))
    refine own_by (fun _ k => XS.iload X5.here hx rfl (hb hby at_58) rfl k) ?_
    show OEnds p e below s _ _ _ (T5.setTop (mkF m 60 #[.val (.int q0), .val (.long q1), .second, .val (.long q2), .second, .val (.int (1 : Int32)), .val (.int fx), .val (.int fy), .val (.int fz), .val (.ref nb4), .unset, .unset, .unset] [(.int (1 : Int32))]))
    refine own_by (fun _ k => XS.iconst X5.here hx rfl (hb hby at_60) k) ?_
    show OEnds p e below s _ _ _ (T5.setTop (mkF m 61 #[.val (.int q0), .val (.long q1), .second, .val (.long q2), .second, .val (.int (1 : Int32)), .val (.int fx), .val (.int fy), .val (.int fz), .val (.ref nb4), .unset, .unset, .unset] [(.int (1 : Int32)), (.int (1 : Int32))]))
    refine own_by (fun _ k => XS.icmpNo X5.here hx rfl (hb hby at_61) rfl (flt (by decide : ¬ ((1 : Int32) < (1 : Int32)))).1 k) ?_
    show OEnds p e below s _ _ _ (T5.setTop (mkF m 64 #[.val (.int q0), .val (.long q1), .second, .val (.long q2), .second, .val (.int (1 : Int32)), .val (.int fx), .val (.int fy), .val (.int fz), .val (.ref nb4), .unset, .unset, .unset] []))
    refine own_by (fun _ k => XS.aload X5.here hx rfl (hb hby at_64) rfl rfl k) ?_
    show OEnds p e below s _ _ _ (T5.setTop (mkF m 66 #[.val (.int q0), .val (.long q1), .second, .val (.long q2), .second, .val (.int (1 : Int32)), .val (.int fx), .val (.int fy), .val (.int fz), .val (.ref nb4), .unset, .unset, .unset] [(.ref nb4)]))
    refine own_by (fun _ k => XS.lloadN X5.here hx rfl (hb hby at_66) rfl k) ?_
    show OEnds p e below s _ _ _ (T5.setTop (mkF m 67 #[.val (.int q0), .val (.long q1), .second, .val (.long q2), .second, .val (.int (1 : Int32)), .val (.int fx), .val (.int fy), .val (.int fz), .val (.ref nb4), .unset, .unset, .unset] [(.long q1), (.ref nb4)]))
    obtain ⟨v39, T39, L39, h39, X39, e39, hQ39, st39⟩ := own_callV X5 hx hZ (y := (⟨"com/example/graphweft/graphweft/RangeMaxTree", "add", "(J)V"⟩ : MethodName)) hown (hw _ (List.mem_of_getElem? (i := 70) rfl)) (hw _ (List.mem_of_getElem? (i := 71) rfl)) (hw _ (List.mem_of_getElem? (i := 73) rfl)) (hw _ (List.mem_of_getElem? (i := 72) rfl)) (hw _ (List.mem_of_getElem? (i := 74) rfl)) (hw _ (List.mem_of_getElem? (i := 3) rfl)) (by decide) O5.exa (rm_add_0 l Z a0 hw [] nb4 q1 b1 b2 b3 b4 b5 b6 b7 (0 : Int32) (0 : Int32) (0 : Int32) (0 : Int32) (0 : Int32) (0 : Int32) (0 : Int32) (0 : Int64) (0 : Int32) (0 : Int32) (0 : Int32) (fun _ => (0 : Int64)) h5 n0 Z5 O5 F_1 g_nb4 g_b1 hord) e5 (g := (mkF m 67 #[.val (.int q0), .val (.long q1), .second, .val (.long q2), .second, .val (.int (1 : Int32)), .val (.int fx), .val (.int fy), .val (.int fz), .val (.ref nb4), .unset, .unset, .unset] [(.long q1), (.ref nb4)])) rfl (by rw [hml]; rfl) (argsL := [(.long q1)]) (rest := []) (lenOf pd_pJrV rfl) rfl (W := 0) (by show 2 * 0 + _ ≤ _; exact Nat.le_of_eq rfl) (hb hby at_67) (by decide) (by decide) (by decide) (by decide)
    obtain ⟨rfl, Nq39, Kq39, O39, F39_b1⟩ := hQ39
    have N39 := Fr.app N5 Nq39
    have Z39 : n0 ≤ h39.size := Nat.le_trans Z5 Kq39.1
    refine own_tr st39 ?_
    show OEnds p e below s _ _ _ (T39.setTop (mkF m 70 #[.val (.int q0), .val (.long q1), .second, .val (.long q2), .second, .val (.int (1 : Int32)), .val (.int fx), .val (.int fy), .val (.int fz), .val (.ref nb4), .unset, .unset, .unset] []))
    refine own_by (fun _ k => XS.iload X39.here hx rfl (hb hby at_70) rfl k) ?_
    show OEnds p e below s _ _ _ (T39.setTop (mkF m 72 #[.val (.int q0), .val (.long q1), .second, .val (.long q2), .second, .val (.int (1 : Int32)), .val (.int fx), .val (.int fy), .val (.int fz), .val (.ref nb4), .unset, .unset, .unset] [(.int (1 : Int32))]))
    refine own_by (fun _ k => XS.iconst X39.here hx rfl (hb hby at_72) k) ?_
    show OEnds p e below s _ _ _ (T39.setTop (mkF m 73 #[.val (.int q0), .val (.long q1), .second, .val (.long q2), .second, .val (.int (1 : Int32)), .val (.int fx), .val (.int fy), .val (.int fz), .val (.ref nb4), .unset, .unset, .unset] [(.int (2 : Int32)), (.int (1 : Int32))]))
    refine own_by (fun _ k => XS.icmpYes X39.here hx rfl (pc0 := 73) (pc' := 82) rfl (hb hby at_73) rfl (tlt (by decide : (1 : Int32) < (2 : Int32))).1 (by decide) (by decide) k) ?_
    show OEnds p e below s _ _ _ (T39.setTop (mkF m 82 #[.val (.int q0), .val (.long q1), .second, .val (.long q2), .second, .val (.int (1 : Int32)), .val (.int fx), .val (.int fy), .val (.int fz), .val (.ref nb4), .unset, .unset, .unset] []))
    refine own_by (fun _ k => XS.iload X39.here hx rfl (hb hby at_82) rfl k) ?_
    show OEnds p e below s _ _ _ (T39.setTop (mkF m 84 #[.val (.int q0), .val (.long q1), .second, .val (.long q2), .second, .val (.int (1 : Int32)), .val (.int fx), .val (.int fy), .val (.int fz), .val (.ref nb4), .unset, .unset, .unset] [(.int fx)]))
    by_cases hc84_40 : fx = (0 : Int32)
    · refine own_by (fun _ k => XS.ifYes X39.here hx rfl (pc0 := 84) (pc' := 120) rfl (hb hby at_84) rfl ((if0 _ _).trans (teq hc84_40).1) (by decide) (by decide) k) ?_
      show OEnds p e below s _ _ _ (T39.setTop (mkF m 120 #[.val (.int q0), .val (.long q1), .second, .val (.long q2), .second, .val (.int (1 : Int32)), .val (.int fx), .val (.int fy), .val (.int fz), .val (.ref nb4), .unset, .unset, .unset] []))
      have F41 : FA Z h39 b2 .long 64 (fun i => .long ((fun _ => (0 : Int64)) i)) := (F_2.keep Kq39 (ninS (Ne.symm (Nat.ne_of_lt (by omega))) (ninS (Ne.symm (Nat.ne_of_lt (by omega))) nin0)))
      have F42 : FA Z h39 b3 .int 16 (fun i => .int ((fun _ => (0 : Int32)) i)) := (F_3.keep Kq39 (ninS (Ne.symm (Nat.ne_of_lt (by omega))) (ninS (Ne.symm (Nat.ne_of_lt (by omega))) nin0)))
      have F43 : FA Z h39 b4 .int 16 (fun i => .int ((fun _ => (0 : Int32)) i)) := (F_4.keep Kq39 (ninS (Ne.symm (Nat.ne_of_lt (by omega))) (ninS (Ne.symm (Nat.ne_of_lt (by omega))) nin0)))
      have F44 : FA Z h39 b5 .int 16 (fun i => .int ((fun _ => (0 : Int32)) i)) := (F_5.keep Kq39 (ninS (Ne.symm (Nat.ne_of_lt (by omega))) (ninS (Ne.symm (Nat.ne_of_lt (by omega))) nin0)))
      have F45 : FA Z h39 b6 .int 96 (fun i => .int ((fun _ => (0 : Int32)) i)) := (F_6.keep Kq39 (ninS (Ne.symm (Nat.ne_of_lt (by omega))) (ninS (Ne.symm (Nat.ne_of_lt (by omega))) nin0)))
      have F46 : FA Z h39 b7 .int 32 (fun i => .int ((fun _ => (0 : Int32)) i)) := (F_7.keep Kq39 (ninS (Ne.symm (Nat.ne_of_lt (by omega))) (ninS (Ne.symm (Nat.ne_of_lt (by omega))) nin0)))
      exact bl120 T39 _ (1 : Int32) (1 : Int32) (0 : Int32) (0 : Int32) (0 : Int32) (0 : Int32) (0 : Int32) (0 : Int32) (0 : Int32) (0 : Int64) (0 : Int32) (0 : Int32) (0 : Int32) (updL (fun _ => (0 : Int64)) 0 q1) (fun _ => (0 : Int64)) (fun _ => (0 : Int32)) (fun _ => (0 : Int32)) (fun _ => (0 : Int32)) (fun _ => (0 : Int32)) (fun _ => (0 : Int32)) h39 Z39 X39 e39 N39 O39 F39_b1 F41 F42 F43 F44 F45 F46
    · refine own_by (fun _ k => XS.ifNo X39.here hx rfl (hb hby at_84) rfl ((if0 _ _).trans (feq hc84_40).1) k) ?_
      show OEnds p e below s _ _ _ (T39.setTop (mkF m 87 #[.val (.int q0), .val (.long q1), .second, .val (.long q2), .second, .val (.int (1 : Int32)), .val (.int fx), .val (.int fy), .val (.int fz), .val (.ref nb4), .unset, .unset, .unset] []))
      refine own_by (fun _ k => XS.aload X39.here hx rfl (hb hby at_87) rfl rfl k) ?_
      show OEnds p e below s _ _ _ (T39.setTop (mkF m 89 #[.val (.int q0), .val (.long q1), .second, .val (.long q2), .second, .val (.int (1 : Int32)), .val (.int fx), .val (.int fy), .val (.int fz), .val (.ref nb4), .unset, .unset, .unset] [(.ref nb4)]))
      have F48 : FA Z h39 b2 .long 64 (fun i => .long ((fun _ => (0 : Int64)) i)) := (F_2.keep Kq39 (ninS (Ne.symm (Nat.ne_of_lt (by omega))) (ninS (Ne.symm (Nat.ne_of_lt (by omega))) nin0)))
      have F49 : FA Z h39 b3 .int 16 (fun i => .int ((fun _ => (0 : Int32)) i)) := (F_3.keep Kq39 (ninS (Ne.symm (Nat.ne_of_lt (by omega))) (ninS (Ne.symm (Nat.ne_of_lt (by omega))) nin0)))
      have F50 : FA Z h39 b4 .int 16 (fun i => .int ((fun _ => (0 : Int32)) i)) := (F_4.keep Kq39 (ninS (Ne.symm (Nat.ne_of_lt (by omega))) (ninS (Ne.symm (Nat.ne_of_lt (by omega))) nin0)))
      have F51 : FA Z h39 b5 .int 16 (fun i => .int ((fun _ => (0 : Int32)) i)) := (F_5.keep Kq39 (ninS (Ne.symm (Nat.ne_of_lt (by omega))) (ninS (Ne.symm (Nat.ne_of_lt (by omega))) nin0)))
      obtain ⟨v47, T47, L47, h47, X47, e47, hQ47, st47⟩ := own_callV X39 hx hZ (y := (⟨"com/example/graphweft/graphweft/RangeMaxTree", "index", "()I"⟩ : MethodName)) hown (hw _ (List.mem_of_getElem? (i := 57) rfl)) (hw _ (List.mem_of_getElem? (i := 58) rfl)) (hw _ (List.mem_of_getElem? (i := 60) rfl)) (hw _ (List.mem_of_getElem? (i := 59) rfl)) (hw _ (List.mem_of_getElem? (i := 61) rfl)) (hw _ (List.mem_of_getElem? (i := 3) rfl)) (by decide) O39.exa (rm_index_1 l Z a0 hw [] nb4 b1 b2 b3 b4 b5 b6 b7 (0 : Int32) (0 : Int32) (0 : Int32) (0 : Int32) (0 : Int32) (0 : Int64) (0 : Int32) (0 : Int32) (0 : Int32) (updL (fun _ => (0 : Int64)) 0 q1) (fun _ => (0 : Int64)) (fun _ => (0 : Int32)) (fun _ => (0 : Int32)) (fun _ => (0 : Int32)) h39 n0 Z39 O39 F39_b1 F48 F49 F50 F51 g_nb4 g_b2 g_b3 g_b4 g_b5 hord) e39 (g := (mkF m 89 #[.val (.int q0), .val (.long q1), .second, .val (.long q2), .second, .val (.int (1 : Int32)), .val (.int fx), .val (.int fy), .val (.int fz), .val (.ref nb4), .unset, .unset, .unset] [(.ref nb4)])) rfl (by rw [hml]; rfl) (argsL := []) (rest := []) (lenOf pd_prI rfl) rfl (W := 0) (by show 2 * 0 + _ ≤ _; exact Nat.le_of_eq rfl) (hb hby at_89) (by decide) (by decide) (by decide) (by decide)
      obtain ⟨rfl, Nq47, Kq47, O47, F47_b2, F47_b3, F47_b4, F47_b5⟩ := hQ47
      have N47 := Fr.app N39 Nq47
      have Z47 : n0 ≤ h47.size := Nat.le_trans Z39 Kq47.1
      obtain ⟨f47_b2, ef47_b2⟩ : ∃ f : Nat → Int64, f = (updL (updL (fun _ => (0 : Int64)) 1 (-9223372036854775808 : Int64)) 1 (jmax ((updL (fun _ => (0 : Int64)) 1 (-9223372036854775808 : Int64)) 1) ((updL (fun _ => (0 : Int64)) 0 q1) 0))) := ⟨_, rfl⟩
      rw [← ef47_b2] at F47_b2
      refine own_tr st47 ?_
      show OEnds p e below s _ _ _ (T47.setTop (mkF m 92 #[.val (.int q0), .val (.long q1), .second, .val (.long q2), .second, .val (.int (1 : Int32)), .val (.int fx), .val (.int fy), .val (.int fz), .val (.ref nb4), .unset, .unset, .unset] [(.int (0 : Int32))]))
      refine own_by (fun _ k => XS.pop X47.here hx rfl (hb hby at_92) rfl rfl k) ?_
      show OEnds p e below s _ _ _ (T47.setTop (mkF m 93 #[.val (.int q0), .val (.long q1), .second, .val (.long q2), .second, .val (.int (1 : Int32)), .val (.int fx), .val (.int fy), .val (.int fz), .val (.ref nb4), .unset, .unset, .unset] []))
      refine own_by (fun _ k => XS.iload X47.here hx rfl (hb hby at_93) rfl k) ?_
      show OEnds p e below s _ _ _ (T47.setTop (mkF m 95 #[.val (.int q0), .val (.long q1), .second, .val (.long q2), .second, .val (.int (1 : Int32)), .val (.int fx), .val (.int fy), .val (.int fz), .val (.ref nb4), .unset, .unset, .unset] [(.int fy)]))
      by_cases hc95_52 : fy = (0 : Int32)
      · refine own_by (fun _ k => XS.ifYes X47.here hx rfl (pc0 := 95) (pc' := 120) rfl (hb hby at_95) rfl ((if0 _ _).trans (teq hc95_52).1) (by decide) (by decide) k) ?_
        show OEnds p e below s _ _ _ (T47.setTop (mkF m 120 #[.val (.int q0), .val (.long q1), .second, .val (.long q2), .second, .val (.int (1 : Int32)), .val (.int fx), .val (.int fy), .val (.int fz), .val (.ref nb4), .unset, .unset, .unset] []))
        have F53 : FA Z h47 b1 .long 64 (fun i => .long ((updL (fun _ => (0 : Int64)) 0 q1) i)) := (F39_b1.keep Kq47 (ninS (Ne.symm (Nat.ne_of_lt (by omega))) (ninS (Nat.ne_of_lt (by omega)) (ninS (Nat.ne_of_lt (by omega)) (ninS (Nat.ne_of_lt (by omega)) (ninS (Nat.ne_of_lt (by omega)) nin0))))))
        have F54 : FA Z h47 b6 .int 96 (fun i => .int ((fun _ => (0 : Int32)) i)) := ((F_6.keep Kq39 (ninS (Ne.symm (Nat.ne_of_lt (by omega))) (ninS (Ne.symm (Nat.ne_of_lt (by omega))) nin0))).keep Kq47 (ninS (Ne.symm (Nat.ne_of_lt (by omega))) (ninS (Ne.symm (Nat.ne_of_lt (by omega))) (ninS (Ne.symm (Nat.ne_of_lt (by omega))) (ninS (Ne.symm (Nat.ne_of_lt (by omega))) (ninS (Ne.symm (Nat.ne_of_lt (by omega))) nin0))))))
        have F55 : FA Z h47 b7 .int 32 (fun i => .int ((fun _ => (0 : Int32)) i)) := ((F_7.keep Kq39 (ninS (Ne.symm (Nat.ne_of_lt (by omega))) (ninS (Ne.symm (Nat.ne_of_lt (by omega))) nin0))).keep Kq47 (ninS (Ne.symm (Nat.ne_of_lt (by omega))) (ninS (Ne.symm (Nat.ne_of_lt (by omega))) (ninS (Ne.symm (Nat.ne_of_lt (by omega))) (ninS (Ne.symm (Nat.ne_of_lt (by omega))) (ninS (Ne.symm (Nat.ne_of_lt (by omega))) nin0))))))
        exact bl120 T47 _ (1 : Int32) (1 : Int32) (2 : Int32) (1 : Int32) (0 : Int32) (0 : Int32) (0 : Int32) (0 : Int32) (0 : Int32) (0 : Int64) (0 : Int32) (0 : Int32) (0 : Int32) (updL (fun _ => (0 : Int64)) 0 q1) f47_b2 (updI (fun _ => (0 : Int32)) 0 (0 : Int32)) (updI (fun _ => (0 : Int32)) 0 (1 : Int32)) (updI (fun _ => (0 : Int32)) 0 (0 : Int32)) (fun _ => (0 : Int32)) (fun _ => (0 : Int32)) h47 Z47 X47 e47 N47 O47 F53 F47_b2 F47_b3 F47_b4 F47_b5 F54 F55
      · refine own_by (fun _ k => XS.ifNo X47.here hx rfl (hb hby at_95) rfl ((if0 _ _).trans (feq hc95_52).1) k) ?_
        show OEnds p e below s _ _ _ (T47.setTop (mkF m 98 #[.val (.int q0), .val (.long q1), .second, .val (.long q2), .second, .val (.int (1 : Int32)), .val (.int fx), .val (.int fy), .val (.int fz), .val (.ref nb4), .unset, .unset, .unset] []))
        refine own_by (fun _ k => XS.aload X47.here hx rfl (hb hby at_98) rfl rfl k) ?_
        show OEnds p e below s _ _ _ (T47.setTop (mkF m 100 #[.val (.int q0), .val (.long q1), .second, .val (.long q2), .second, .val (.int (1 : Int32)), .val (.int fx), .val (.int fy), .val (.int fz), .val (.ref nb4), .unset, .unset, .unset] [(.ref nb4)]))
        refine own_by (fun _ k => XS.iconst X47.here hx rfl (hb hby at_100) k) ?_
        show OEnds p e below s _ _ _ (T47.setTop (mkF m 101 #[.val (.int q0), .val (.long q1), .second, .val (.long q2), .second, .val (.int (1 : Int32)), .val (.int fx), .val (.int fy), .val (.int fz), .val (.ref nb4), .unset, .unset, .unset] [(.int (0 : Int32)), (.ref nb4)]))
        refine own_by (fun _ k => XS.iload X47.here hx rfl (hb hby at_101) rfl k) ?_
        show OEnds p e below s _ _ _ (T47.setTop (mkF m 103 #[.val (.int q0), .val (.long q1), .second, .val (.long q2), .second, .val (.int (1 : Int32)), .val (.int fx), .val (.int fy), .val (.int fz), .val (.ref nb4), .unset, .unset, .unset] [(.int (1 : Int32)), (.int (0 : Int32)), (.ref nb4)]))
        refine own_by (X47.ldc2Long hx hown (mvT hZ (hw _ (List.mem_of_getElem? (i := 79) rfl))) (g := (mkF m 103 #[.val (.int q0), .val (.long q1), .second, .val (.long q2), .second, .val (.int (1 : Int32)), .val (.int fx), .val (.int fy), .val (.int fz), .val (.ref nb4), .unset, .unset, .unset] [(.int (1 : Int32)), (.int (0 : Int32)), (.ref nb4)])) rfl (hb hby at_103)) ?_
        show OEnds p e below s _ _ _ (T47.setTop (mkF m 106 #[.val (.int q0), .val (.long q1), .second, .val (.long q2), .second, .val (.int (1 : Int32)), .val (.int fx), .val (.int fy), .val (.int fz), .val (.ref nb4), .unset, .unset, .unset] [(.long (-9223372036854775808 : Int64)), (.int (1 : Int32)), (.int (0 : Int32)), (.ref nb4)]))
        obtain ⟨v56, T56, L56, h56, X56, e56, hQ56, st56⟩ := own_callV X47 hx hZ (y := (⟨"com/example/graphweft/graphweft/RangeMaxTree", "find", "(IIJ)V"⟩ : MethodName)) hown (hw _ (List.mem_of_getElem? (i := 80) rfl)) (hw _ (List.mem_of_getElem? (i := 81) rfl)) (hw _ (List.mem_of_getElem? (i := 83) rfl)) (hw _ (List.mem_of_getElem? (i := 82) rfl)) (hw _ (List.mem_of_getElem? (i := 84) rfl)) (hw _ (List.mem_of_getElem? (i := 3) rfl)) (by decide) O47.exa (rm_find_1 l Z a0 hw [] nb4 (-9223372036854775808 : Int64) b1 b2 b3 b4 b5 b6 b7 (1 : Int32) (2 : Int32) (1 : Int32) (0 : Int32) (0 : Int32) (0 : Int32) (0 : Int32) (0 : Int32) (0 : Int64) (0 : Int32) (0 : Int32) (0 : Int32) (updI (fun _ => (0 : Int32)) 0 (0 : Int32)) (updI (fun _ => (0 : Int32)) 0 (1 : Int32)) (updI (fun _ => (0 : Int32)) 0 (0 : Int32)) h47 n0 Z47 O47 F47_b3 F47_b4 F47_b5 g_nb4 hord (by subst ef47_b2; rfl) (by subst ef47_b2; rfl) (by subst ef47_b2; rfl)) e47 (g := (mkF m 106 #[.val (.int q0), .val (.long q1), .second, .val (.long q2), .second, .val (.int (1 : Int32)), .val (.int fx), .val (.int fy), .val (.int fz), .val (.ref nb4), .unset, .unset, .unset] [(.long (-9223372036854775808 : Int64)), (.int (1 : Int32)), (.int (0 : Int32)), (.ref nb4)])) rfl (by rw [hml]; rfl) (argsL := [(.int (0 : Int32)), (.int (1 : Int32)), (.long (-9223372036854775808 : Int64))]) (rest := []) (lenOf pd_pIIJrV rfl) rfl (W := 0) (by show 2 * 0 + _ ≤ _; exact Nat.le_of_eq rfl) (hb hby at_106) (by decide) (by decide) (by decide) (by decide)
        obtain ⟨rfl, Nq56, Kq56, O56⟩ := hQ56
        have N56 := Fr.app N47 Nq56
        have Z56 : n0 ≤ h56.size := Nat.le_trans Z47 Kq56.1
        refine own_tr st56 ?_
        show OEnds p e below s _ _ _ (T56.setTop (mkF m 109 #[.val (.int q0), .val (.long q1), .second, .val (.long q2), .second, .val (.int (1 : Int32)), .val (.int fx), .val (.int fy), .val (.int fz), .val (.ref nb4), .unset, .unset, .unset] []))
        refine own_by (fun _ k => XS.iload X56.here hx rfl (hb hby at_109) rfl k) ?_
        show OEnds p e below s _ _ _ (T56.setTop (mkF m 111 #[.val (.int q0), .val (.long q1), .second, .val (.long q2), .second, .val (.int (1 : Int32)), .val (.int fx), .val (.int fy), .val (.int fz), .val (.ref nb4), .unset, .unset, .unset] [(.int fz)]))
        by_cases hc111_57 : fz = (0 : Int32)
        · refine own_by (fun _ k => XS.ifYes X56.here hx rfl (pc0 := 111) (pc' := 120) rfl (hb hby at_111) rfl ((if0 _ _).trans (teq hc111_57).1) (by decide) (by decide) k) ?_
          show OEnds p e below s _ _ _ (T56.setTop (mkF m 120 #[.val (.int q0), .val (.long q1), .second, .val (.long q2), .second, .val (.int (1 : Int32)), .val (.int fx), .val (.int fy), .val (.int fz), .val (.ref nb4), .unset, .unset, .unset] []))
          have F58 : FA Z h56 b1 .long 64 (fun i => .long ((updL (fun _ => (0 : Int64)) 0 q1) i)) := ((F39_b1.keep Kq47 (ninS (Ne.symm (Nat.ne_of_lt (by omega))) (ninS (Nat.ne_of_lt (by omega)) (ninS (Nat.ne_of_lt (by omega)) (ninS (Nat.ne_of_lt (by omega)) (ninS (Nat.ne_of_lt (by omega)) nin0)))))).keep Kq56 (ninS (Ne.symm (Nat.ne_of_lt (by omega))) nin0))
          have F59 : FA Z h56 b2 .long 64 (fun i => .long (f47_b2 i)) := (F47_b2.keep Kq56 (ninS (Ne.symm (Nat.ne_of_lt (by omega))) nin0))
          have F60 : FA Z h56 b3 .int 16 (fun i => .int ((updI (fun _ => (0 : Int32)) 0 (0 : Int32)) i)) := (F47_b3.keep Kq56 (ninS (Ne.symm (Nat.ne_of_lt (by omega))) nin0))
          have F61 : FA Z h56 b4 .int 16 (fun i => .int ((updI (fun _ => (0 : Int32)) 0 (1 : Int32)) i)) := (F47_b4.keep Kq56 (ninS (Ne.symm (Nat.ne_of_lt (by omega))) nin0))
          have F62 : FA Z h56 b5 .int 16 (fun i => .int ((updI (fun _ => (0 : Int32)) 0 (0 : Int32)) i)) := (F47_b5.keep Kq56 (ninS (Ne.symm (Nat.ne_of_lt (by omega))) nin0))
          have F63 : FA Z h56 b6 .int 96 (fun i => .int ((fun _ => (0 : Int32)) i)) := (((F_6.keep Kq39 (ninS (Ne.symm (Nat.ne_of_lt (by omega))) (ninS (Ne.symm (Nat.ne_of_lt (by omega))) nin0))).keep Kq47 (ninS (Ne.symm (Nat.ne_of_lt (by omega))) (ninS (Ne.symm (Nat.ne_of_lt (by omega))) (ninS (Ne.symm (Nat.ne_of_lt (by omega))) (ninS (Ne.symm (Nat.ne_of_lt (by omega))) (ninS (Ne.symm (Nat.ne_of_lt (by omega))) nin0)))))).keep Kq56 (ninS (Ne.symm (Nat.ne_of_lt (by omega))) nin0))
          have F64 : FA Z h56 b7 .int 32 (fun i => .int ((fun _ => (0 : Int32)) i)) := (((F_7.keep Kq39 (ninS (Ne.symm (Nat.ne_of_lt (by omega))) (ninS (Ne.symm (Nat.ne_of_lt (by omega))) nin0))).keep Kq47 (ninS (Ne.symm (Nat.ne_of_lt (by omega))) (ninS (Ne.symm (Nat.ne_of_lt (by omega))) (ninS (Ne.symm (Nat.ne_of_lt (by omega))) (ninS (Ne.symm (Nat.ne_of_lt (by omega))) (ninS (Ne.symm (Nat.ne_of_lt (by omega))) nin0)))))).keep Kq56 (ninS (Ne.symm (Nat.ne_of_lt (by omega))) nin0))
          exact bl120 T56 _ (1 : Int32) (1 : Int32) (2 : Int32) (1 : Int32) (1 : Int32) (0 : Int32) (0 : Int32) (0 : Int32) (0 : Int32) (-9223372036854775808 : Int64) (0 : Int32) (0 : Int32) (1 : Int32) (updL (fun _ => (0 : Int64)) 0 q1) f47_b2 (updI (fun _ => (0 : Int32)) 0 (0 : Int32)) (updI (fun _ => (0 : Int32)) 0 (1 : Int32)) (updI (fun _ => (0 : Int32)) 0 (0 : Int32)) (fun _ => (0 : Int32)) (fun _ => (0 : Int32)) h56 Z56 X56 e56 N56 O56 F58 F59 F60 F61 F62 F63 F64
        · refine own_by (fun _ k => XS.ifNo X56.here hx rfl (hb hby at_111) rfl ((if0 _ _).trans (feq hc111_57).1) k) ?_
          show OEnds p e below s _ _ _ (T56.setTop (mkF m 114 #[.val (.int q0), .val (.long q1), .second, .val (.long q2), .second, .val (.int (1 : Int32)), .val (.int fx), .val (.int fy), .val (.int fz), .val (.ref nb4), .unset, .unset, .unset] []))
          refine own_by (fun _ k => XS.aload X56.here hx rfl (hb hby at_114) rfl rfl k) ?_
          show OEnds p e below s _ _ _ (T56.setTop (mkF m 116 #[.val (.int q0), .val (.long q1), .second, .val (.long q2), .second, .val (.int (1 : Int32)), .val (.int fx), .val (.int fy), .val (.int fz), .val (.ref nb4), .unset, .unset, .unset] [(.ref nb4)]))
          have F66 : FA Z h56 b1 .long 64 (fun i => .long ((updL (fun _ => (0 : Int64)) 0 q1) i)) := ((F39_b1.keep Kq47 (ninS (Ne.symm (Nat.ne_of_lt (by omega))) (ninS (Nat.ne_of_lt (by omega)) (ninS (Nat.ne_of_lt (by omega)) (ninS (Nat.ne_of_lt (by omega)) (ninS (Nat.ne_of_lt (by omega)) nin0)))))).keep Kq56 (ninS (Ne.symm (Nat.ne_of_lt (by omega))) nin0))
          obtain ⟨v65, T65, L65, h65, X65, e65, hQ65, st65⟩ := own_callV X56 hx hZ (y := (⟨"com/example/graphweft/graphweft/RangeMaxTree", "next", "()I"⟩ : MethodName)) hown (hw _ (List.mem_of_getElem? (i := 52) rfl)) (hw _ (List.mem_of_getElem? (i := 53) rfl)) (hw _ (List.mem_of_getElem? (i := 55) rfl)) (hw _ (List.mem_of_getElem? (i := 54) rfl)) (hw _ (List.mem_of_getElem? (i := 56) rfl)) (hw _ (List.mem_of_getElem? (i := 3) rfl)) (by decide) O56.exa (rm_next_1 l Z a0 hw [] nb4 b1 b2 b3 b4 b5 b6 b7 (1 : Int32) (2 : Int32) (1 : Int32) (-9223372036854775808 : Int64) (0 : Int32) (0 : Int32) (1 : Int32) (updL (fun _ => (0 : Int64)) 0 q1) h56 n0 Z56 O56 F66 g_nb4 hord (own_ge _)) e56 (g := (mkF m 116 #[.val (.int q0), .val (.long q1), .second, .val (.long q2), .second, .val (.int (1 : Int32)), .val (.int fx), .val (.int fy), .val (.int fz), .val (.ref nb4), .unset, .unset, .unset] [(.ref nb4)])) rfl (by rw [hml]; rfl) (argsL := []) (rest := []) (lenOf pd_prI rfl) rfl (W := 0) (by show 2 * 0 + _ ≤ _; exact Nat.le_of_eq rfl) (hb hby at_116) (by decide) (by decide) (by decide) (by decide)
          obtain ⟨rfl, Nq65, Kq65, O65⟩ := hQ65
          have N65 := Fr.app N56 Nq65
          have Z65 : n0 ≤ h65.size := Nat.le_trans Z56 Kq65.1
          refine own_tr st65 ?_
          show OEnds p e below s _ _ _ (T65.setTop (mkF m 119 #[.val (.int q0), .val (.long q1), .second, .val (.long q2), .second, .val (.int (1 : Int32)), .val (.int fx), .val (.int fy), .val (.int fz), .val (.ref nb4), .unset, .unset, .unset] [(.int (0 : Int32))]))
          refine own_by (fun _ k => XS.pop X65.here hx rfl (hb hby at_119) rfl rfl k) ?_
          show OEnds p e below s _ _ _ (T65.setTop (mkF m 120 #[.val (.int q0), .val (.long q1), .second, .val (.long q2), .second, .val (.int (1 : Int32)), .val (.int fx), .val (.int fy), .val (.int fz), .val (.ref nb4), .unset, .unset, .unset] []))
          have F67 : FA Z h65 b1 .long 64 (fun i => .long ((updL (fun _ => (0 : Int64)) 0 q1) i)) := (F66.keep Kq65 (ninS (Ne.symm (Nat.ne_of_lt (by omega))) nin0))
          have F68 : FA Z h65 b2 .long 64 (fun i => .long (f47_b2 i)) := ((F47_b2.keep Kq56 (ninS (Ne.symm (Nat.ne_of_lt (by omega))) nin0)).keep Kq65 (ninS (Ne.symm (Nat.ne_of_lt (by omega))) nin0))
          have F69 : FA Z h65 b3 .int 16 (fun i => .int ((updI (fun _ => (0 : Int32)) 0 (0 : Int32)) i)) := ((F47_b3.keep Kq56 (ninS (Ne.symm (Nat.ne_of_lt (by omega))) nin0)).keep Kq65 (ninS (Ne.symm (Nat.ne_of_lt (by omega))) nin0))
          have F70 : FA Z h65 b4 .int 16 (fun i => .int ((updI (fun _ => (0 : Int32)) 0 (1 : Int32)) i)) := ((F47_b4.keep Kq56 (ninS (Ne.symm (Nat.ne_of_lt (by omega))) nin0)).keep Kq65 (ninS (Ne.symm (Nat.ne_of_lt (by omega))) nin0))
          have F71 : FA Z h65 b5 .int 16 (fun i => .int ((updI (fun _ => (0 : Int32)) 0 (0 : Int32)) i)) := ((F47_b5.keep Kq56 (ninS (Ne.symm (Nat.ne_of_lt (by omega))) nin0)).keep Kq65 (ninS (Ne.symm (Nat.ne_of_lt (by omega))) nin0))
          have F72 : FA Z h65 b6 .int 96 (fun i => .int ((fun _ => (0 : Int32)) i)) := ((((F_6.keep Kq39 (ninS (Ne.symm (Nat.ne_of_lt (by omega))) (ninS (Ne.symm (Nat.ne_of_lt (by omega))) nin0))).keep Kq47 (ninS (Ne.symm (Nat.ne_of_lt (by omega))) (ninS (Ne.symm (Nat.ne_of_lt (by omega))) (ninS (Ne.symm (Nat.ne_of_lt (by omega))) (ninS (Ne.symm (Nat.ne_of_lt (by omega))) (ninS (Ne.symm (Nat.ne_of_lt (by omega))) nin0)))))).keep Kq56 (ninS (Ne.symm (Nat.ne_of_lt (by omega))) nin0)).keep Kq65 (ninS (Ne.symm (Nat.ne_of_lt (by omega))) nin0))
          have F73 : FA Z h65 b7 .int 32 (fun i => .int ((fun _ => (0 : Int32)) i)) := ((((F_7.keep Kq39 (ninS (Ne.symm (Nat.ne_of_lt (by omega))) (ninS (Ne.symm (Nat.ne_of_lt (by omega))) nin0))).keep Kq47 (ninS (Ne.symm (Nat.ne_of_lt (by omega))) (ninS (Ne.symm (Nat.ne_of_lt (by omega))) (ninS (Ne.symm (Nat.ne_of_lt (by omega))) (ninS (Ne.symm (Nat.ne_of_lt (by omega))) (ninS (Ne.symm (Nat.ne_of_lt (by omega))) nin0)))))).keep Kq56 (ninS (Ne.symm (Nat.ne_of_lt (by omega))) nin0)).keep Kq65 (ninS (Ne.symm (Nat.ne_of_lt (by omega))) nin0))
          exact bl120 T65 _ (1 : Int32) (1 : Int32) (2 : Int32) (1 : Int32) (1 : Int32) (1 : Int32) (1 : Int32) (1 : Int32) (0 : Int32) (-9223372036854775808 : Int64) (0 : Int32) (0 : Int32) (1 : Int32) (updL (fun _ => (0 : Int64)) 0 q1) f47_b2 (updI (fun _ => (0 : Int32)) 0 (0 : Int32)) (updI (fun _ => (0 : Int32)) 0 (1 : Int32)) (updI (fun _ => (0 : Int32)) 0 (0 : Int32)) (fun _ => (0 : Int32)) (fun _ => (0 : Int32)) h65 Z65 X65 e65 N65 O65 F67 F68 F69 F70 F71 F72 F73
  · show OEnds p e below s _ _ _ (T5.setTop (mkF m 58 #[.val (.int q0), .val (.long q1), .second, .val (.long q2), .second, .val (.int (2 : Int32)), .val (.int fx), .val (.int fy), .val (.int fz), .val (.ref nb4), .unset, .unset, .unset] []))
    refine own_by (fun _ k => XS.iload X5.here hx rfl (hb hby at_58) rfl k) ?_
    show OEnds p e below s _ _ _ (T5.setTop (mkF m 60 #[.val (.int q0), .val (.long q1), .second, .val (.long q2), .second, .val (.int (2 : Int32)), .val (.int fx), .val (.int fy), .val (.int fz), .val (.ref nb4), .unset, .unset, .unset] [(.int (2 : Int32))]))
    refine own_by (fun _ k => XS.iconst X5.here hx rfl (hb hby at_60) k) ?_
    show OEnds p e below s _ _ _ (T5.setTop (mkF m 61 #[.val (.int q0), .val (.long q1), .second, .val (.long q2), .second, .val (.int (2 : Int32)), .val (.int fx), .val (.int fy), .val (.int fz), .val (.ref nb4), .unset, .unset, .unset] [(.int (1 : Int32)), (.int (2 : Int32))]))
    refine own_by (fun _ k => XS.icmpNo X5.here hx rfl (hb hby at_61) rfl (flt (by decide : ¬ ((2 : Int32) < (1 : Int32)))).1 k) ?_
    show OEnds p e below s _ _ _ (T5.setTop (mkF m 64 #[.val (.int q0), .val (.long q1), .second, .val (.long q2), .second, .val (.int (2 : Int32)), .val (.int fx), .val (.int fy), .val (.int fz), .val (.ref nb4), .unset, .unset, .unset] []))
    refine own_by (fun _ k => XS.aload X5.here hx rfl (hb hby at_64) rfl rfl k) ?_
    show OEnds p e below s _ _ _ (T5.setTop (mkF m 66 #[.val (.int q0), .val (.long q1), .second, .val (.long q2), .second, .val (.int (2 : Int32)), .val (.int fx), .val (.int fy), .val (.int fz), .val (.ref nb4), .unset, .unset, .unset] [(.ref nb4)]))
    refine own_by (fun _ k => XS.lloadN X5.here hx rfl (hb hby at_66) rfl k) ?_
    show OEnds p e below s _ _ _ (T5.setTop (mkF m 67 #[.val (.int q0), .val (.long q1), .second, .val (.long q2), .second, .val (.int (2 : Int32)), .val (.int fx), .val (.int fy), .val (.int fz), .val (.ref nb4), .unset, .unset, .unset] [(.long q1), (.ref nb4)]))
    obtain ⟨v74, T74, L74, h74, X74, e74, hQ74, st74⟩ := own_callV X5 hx hZ (y := (⟨"com/example/graphweft/graphweft/RangeMaxTree", "add", "(J)V"⟩ : MethodName)) hown (hw _ (List.mem_of_getElem? (i := 70) rfl)) (hw _ (List.mem_of_getElem? (i := 71) rfl)) (hw _ (List.mem_of_getElem? (i := 73) rfl)) (hw _ (List.mem_of_getElem? (i := 72) rfl)) (hw _ (List.mem_of_getElem? (i := 74) rfl)) (hw _ (List.mem_of_getElem? (i := 3) rfl)) (by decide) O5.exa (rm_add_0 l Z a0 hw [] nb4 q1 b1 b2 b3 b4 b5 b6 b7 (0 : Int32) (0 : Int32) (0 : Int32) (0 : Int32) (0 : Int32) (0 : Int32) (0 : Int32) (0 : Int64) (0 : Int32) (0 : Int32) (0 : Int32) (fun _ => (0 : Int64)) h5 n0 Z5 O5 F_1 g_nb4 g_b1 hord) e5 (g := (mkF m 67 #[.val (.int q0), .val (.long q1), .second, .val (.long q2), .second, .val (.int (2 : Int32)), .val (.int fx), .val (.int fy), .val (.int fz), .val (.ref nb4), .unset, .unset, .unset] [(.long q1), (.ref nb4)])) rfl (by rw [hml]; rfl) (argsL := [(.long q1)]) (rest := []) (lenOf pd_pJrV rfl) rfl (W := 0) (by show 2 * 0 + _ ≤ _; exact Nat.le_of_eq rfl) (hb hby at_67) (by decide) (by decide) (by decide) (by decide)
    obtain ⟨rfl, Nq74, Kq74, O74, F74_b1⟩ := hQ74
    have N74 := Fr.app N5 Nq74
    have Z74 : n0 ≤ h74.size := Nat.le_trans Z5 Kq74.1
    refine own_tr st74 ?_
    show OEnds p e below s _ _ _ (T74.setTop (mkF m 70 #[.val (.int q0), .val (.long q1), .second, .val (.long q2), .second, .val (.int (2 : Int32)), .val (.int fx), .val (.int fy), .val (.int fz), .val (.ref nb4), .unset, .unset, .unset] []))
    refine own_by (fun _ k => XS.iload X74.here hx rfl (hb hby at_70) rfl k) ?_
    show OEnds p e below s _ _ _ (T74.setTop (mkF m 72 #[.val (.int q0), .val (.long q1), .second, .val (.long q2), .second, .val (.int (2 : Int32)), .val (.int fx), .val (.int fy), .val (.int fz), .val (.ref nb4), .unset, .unset, .unset] [(.int (2 : Int32))]))
    refine own_by (fun _ k => XS.iconst X74.here hx rfl (hb hby at_72) k) ?_
    show OEnds p e below s _ _ _ (T74.setTop (mkF m 73 #[.val (.int q0), .val (.long q1), .second, .val (.long q2), .second, .val (.int (2 : Int32)), .val (.int fx), .val (.int fy), .val (.int fz), .val (.ref nb4), .unset, .unset, .unset] [(.int (2 : Int32)), (.int (2 : Int32))]))
    refine own_by (fun _ k => XS.icmpNo X74.here hx rfl (hb hby at_73) rfl (flt (by decide : ¬ ((2 : Int32) < (2 : Int32)))).1 k) ?_
    show OEnds p e below s _ _ _ (T74.setTop (mkF m 76 #[.val (.int q0), .val (.long q1), .second, .val (.long q2), .second, .val (.int (2 : Int32)), .val (.int fx), .val (.int fy), .val (.int fz), .val (.ref nb4), .unset, .unset, .unset] []))
    refine own_by (fun _ k => XS.aload X74.here hx rfl (hb hby at_76) rfl rfl k) ?_
    show OEnds p e below s _ _ _ (T74.setTop (mkF m 78 #[.val (.int q0), .val (.long q1), .second, .val (.long q2), .second, .val (.int (2 : Int32)), .val (.int fx), .val (.int fy), .val (.int fz), .val (.ref nb4), .unset, .unset, .unset] [(.ref nb4)]))
    refine own_by (fun _ k => XS.lloadN X74.here hx rfl (hb hby at_78) rfl k) ?_
    show OEnds p e below s _ _ _ (T74.setTop (mkF m 79 #[.val (.int q0), .val (.long q1), .second, .val (.long q2), .second, .val (.int (2 : Int32)), .val (.int fx), .val (.int fy), .val (.int fz), .val (.ref nb4), .unset, .unset, .unset] [(.long q2), (.ref nb4)]))
    obtain ⟨v75, T75, L75, h75, X75, e75, hQ75, st75⟩ := own_callV X74 hx hZ (y := (⟨"com/example/graphweft/graphweft/RangeMaxTree", "add", "(J)V"⟩ : MethodName)) hown (hw _ (List.mem_of_getElem? (i := 70) rfl)) (hw _ (List.mem_of_getElem? (i := 71) rfl)) (hw _ (List.mem_of_getElem? (i := 73) rfl)) (hw _ (List.mem_of_getElem? (i := 72) rfl)) (hw _ (List.mem_of_getElem? (i := 74) rfl)) (hw _ (List.mem_of_getElem? (i := 3) rfl)) (by decide) O74.exa (rm_add_1 l Z a0 hw [] nb4 q2 b1 b2 b3 b4 b5 b6 b7 (0 : Int32) (0 : Int32) (0 : Int32) (0 : Int32) (0 : Int32) (0 : Int32) (0 : Int32) (0 : Int64) (0 : Int32) (0 : Int32) (0 : Int32) (updL (fun _ => (0 : Int64)) 0 q1) h74 n0 Z74 O74 F74_b1 g_nb4 g_b1 hord) e74 (g := (mkF m 79 #[.val (.int q0), .val (.long q1), .second, .val (.long q2), .second, .val (.int (2 : Int32)), .val (.int fx), .val (.int fy), .val (.int fz), .val (.ref nb4), .unset, .unset, .unset] [(.long q2), (.ref nb4)])) rfl (by rw [hml]; rfl) (argsL := [(.long q2)]) (rest := []) (lenOf pd_pJrV rfl) rfl (W := 0) (by show 2 * 0 + _ ≤ _; exact Nat.le_of_eq rfl) (hb hby at_79) (by decide) (by decide) (by decide) (by decide)
    obtain ⟨rfl, Nq75, Kq75, O75, F75_b1⟩ := hQ75
    have N75 := Fr.app N74 Nq75
    have Z75 : n0 ≤ h75.size := Nat.le_trans Z74 Kq75.1
    refine own_tr st75 ?_
    show OEnds p e below s _ _ _ (T75.setTop (mkF m 82 #[.val (.int q0), .val (.long q1), .second, .val (.long q2), .second, .val (.int (2 : Int32)), .val (.int fx), .val (.int fy), .val (.int fz), .val (.ref nb4), .unset, .unset, .unset] []))
    refine own_by (fun _ k => XS.iload X75.here hx rfl (hb hby at_82) rfl k) ?_
    show OEnds p e below s _ _ _ (T75.setTop (mkF m 84 #[.val (.int q0), .val (.long q1), .second, .val (.long q2), .second, .val (.int (2 : Int32)), .val (.int fx), .val (.int fy), .val (.int fz), .val (.ref nb4), .unset, .unset, .unset] [(.int fx)]))
    by_cases hc84_76 : fx = (0 : Int32)
    · refine own_by (fun _ k => XS.ifYes X75.here hx rfl (pc0 := 84) (pc' := 120) rfl (hb hby at_84) rfl ((if0 _ _).trans (teq hc84_76).1) (by decide) (by decide) k) ?_
      show OEnds p e below s _ _ _ (T75.setTop (mkF m 120 #[.val (.int q0), .val (.long q1), .second, .val (.long q2), .second, .val (.int (2 : Int32)), .val (.int fx), .val (.int fy), .val (.int fz), .val (.ref nb4), .unset, .unset, .unset] []))
      have F77 : FA Z h75 b2 .long 64 (fun i => .long ((fun _ => (0 : Int64)) i)) := ((F_2.keep Kq74 (ninS (Ne.symm (Nat.ne_of_lt (by omega))) (ninS (Ne.symm (Nat.ne_of_lt (by omega))) nin0))).keep Kq75 (ninS (Ne.symm (Nat.ne_of_lt (by omega))) (ninS (Ne.symm (Nat.ne_of_lt (by omega))) nin0)))
      have F78 : FA Z h75 b3 .int 16 (fun i => .int ((fun _ => (0 : Int32)) i)) := ((F_3.keep Kq74 (ninS (Ne.symm (Nat.ne_of_lt (by omega))) (ninS (Ne.symm (Nat.ne_of_lt (by omega))) nin0))).keep Kq75 (ninS (Ne.symm (Nat.ne_of_lt (by omega))) (ninS (Ne.symm (Nat.ne_of_lt (by omega))) nin0)))
      have F79 : FA Z h75 b4 .int 16 (fun i => .int ((fun _ => (0 : Int32)) i)) := ((F_4.keep Kq74 (ninS (Ne.symm (Nat.ne_of_lt (by omega))) (ninS (Ne.symm (Nat.ne_of_lt (by omega))) nin0))).keep Kq75 (ninS (Ne.symm (Nat.ne_of_lt (by omega))) (ninS (Ne.symm (Nat.ne_of_lt (by omega))) nin0)))
      have F80 : FA Z h75 b5 .int 16 (fun i => .int ((fun _ => (0 : Int32)) i)) := ((F_5.keep Kq74 (ninS (Ne.symm (Nat.ne_of_lt (by omega))) (ninS (Ne.symm (Nat.ne_of_lt (by omega))) nin0))).keep Kq75 (ninS (Ne.symm (Nat.ne_of_lt (by omega))) (ninS (Ne.symm (Nat.ne_of_lt (by omega))) nin0)))
      have F81 : FA Z h75 b6 .int 96 (fun i => .int ((fun _ => (0 : Int32)) i)) := ((F_6.keep Kq74 (ninS (Ne.symm (Nat.ne_of_lt (by omega))) (ninS (Ne.symm (Nat.ne_of_lt (by omega))) nin0))).keep Kq75 (ninS (Ne.symm (Nat.ne_of_lt (by omega))) (ninS (Ne.symm (Nat.ne_of_lt (by omega))) nin0)))
      have F82 : FA Z h75 b7 .int 32 (fun i => .int ((fun _ => (0 : Int32)) i)) := ((F_7.keep Kq74 (ninS (Ne.symm (Nat.ne_of_lt (by omega))) (ninS (Ne.symm (Nat.ne_of_lt (by omega))) nin0))).keep Kq75 (ninS (Ne.symm (Nat.ne_of_lt (by omega))) (ninS (Ne.symm (Nat.ne_of_lt (by omega))) nin0)))
      exact bl120 T75 _ (2 : Int32) (2 : Int32) (0 : Int32) (0 : Int32) (0 : Int32) (0 : Int32) (0 : Int32) (0 : Int32) (0 : Int32) (0 : Int64) (0 : Int32) (0 : Int32) (0 : Int32) (updL (updL (fun _ => (0 : Int64)) 0 q1) 1 q2) (fun _ => (0 : Int64)) (fun _ => (0 : Int32)) (fun _ => (0 : Int32)) (fun _ => (0 : Int32)) (fun _ => (0 : Int32)) (fun _ => (0 : Int32)) h75 Z75 X75 e75 N75 O75 F75_b1 F77 F78 F79 F80 F81 F82
    · refine own_by (fun _ k => XS.ifNo X75.here hx rfl (hb hby at_84) rfl ((if0 _ _).trans (feq hc84_76).1) k) ?_
      show OEnds p e below s _ _ _ (T75.setTop (mkF m 87 #[.val (.int q0), .val (.long q1), .second, .val (.long q2), .second, .val (.int (2 : Int32)), .val (.int fx), .val (.int fy), .val (.int fz), .val (.ref nb4), .unset, .unset, .unset] []))
      refine own_by (fun _ k => XS.aload X75.here hx rfl (hb hby at_87) rfl rfl k) ?_
      show OEnds p e below s _ _ _ (T75.setTop (mkF m 89 #[.val (.int q0), .val (.long q1), .second, .val (.long q2), .second, .val (.int (2 : Int32)), .val (.int fx), .val (.int fy), .val (.int fz), .val (.ref nb4), .unset, .unset, .unset] [(.ref nb4)]))
      have F84 : FA Z h75 b2 .long 64 (fun i => .long ((fun _ => (0 : Int64)) i)) := ((F_2.keep Kq74 (ninS (Ne.symm (Nat.ne_of_lt (by omega))) (ninS (Ne.symm (Nat.ne_of_lt (by omega))) nin0))).keep Kq75 (ninS (Ne.symm (Nat.ne_of_lt (by omega))) (ninS (Ne.symm (Nat.ne_of_lt (by omega))) nin0)))
      have F85 : FA Z h75 b3 .int 16 (fun i => .int ((fun _ => (0 : Int32)) i)) := ((F_3.keep Kq74 (ninS (Ne.symm (Nat.ne_of_lt (by omega))) (ninS (Ne.symm (Nat.ne_of_lt (by omega))) nin0))).keep Kq75 (ninS (Ne.symm (Nat.ne_of_lt (by omega))) (ninS (Ne.symm (Nat.ne_of_lt (by omega))) nin0)))
      have F86 : FA Z h75 b4 .int 16 (fun i => .int ((fun _ => (0 : Int32)) i)) := ((F_4.keep Kq74 (ninS (Ne.symm (Nat.ne_of_lt (by omega))) (ninS (Ne.symm (Nat.ne_of_lt (by omega))) nin0))).keep Kq75 (ninS (Ne.symm (Nat.ne_of_lt (by omega))) (ninS (Ne.symm (Nat.ne_of_lt (by omega))) nin0)))
      have F87 : FA Z h75 b5 .int 16 (fun i => .int ((fun _ => (0 : Int32)) i)) := ((F_5.keep Kq74 (ninS (Ne.symm (Nat.ne_of_lt (by omega))) (ninS (Ne.symm (Nat.ne_of_lt (by omega))) nin0))).keep Kq75 (ninS (Ne.symm (Nat.ne_of_lt (by omega))) (ninS (Ne.symm (Nat.ne_of_lt (by omega))) nin0)))
      obtain ⟨v83, T83, L83, h83, X83, e83, hQ83, st83⟩ := own_callV X75 hx hZ (y := (⟨"com/example/graphweft/graphweft/RangeMaxTree", "index", "()I"⟩ : MethodName)) hown (hw _ (List.mem_of_getElem? (i := 57) rfl)) (hw _ (List.mem_of_getElem? (i := 58) rfl)) (hw _ (List.mem_of_getElem? (i := 60) rfl)) (hw _ (List.mem_of_getElem? (i := 59) rfl)) (hw _ (List.mem_of_getElem? (i := 61) rfl)) (hw _ (List.mem_of_getElem? (i := 3) rfl)) (by decide) O75.exa (rm_index_2 l Z a0 hw [] nb4 b1 b2 b3 b4 b5 b6 b7 (0 : Int32) (0 : Int32) (0 : Int32) (0 : Int32) (0 : Int32) (0 : Int64) (0 : Int32) (0 : Int32) (0 : Int32) (updL (updL (fun _ => (0 : Int64)) 0 q1) 1 q2) (fun _ => (0 : Int64)) (fun _ => (0 : Int32)) (fun _ => (0 : Int32)) (fun _ => (0 : Int32)) h75 n0 Z75 O75 F75_b1 F84 F85 F86 F87 g_nb4 g_b2 g_b3 g_b4 g_b5 hord) e75 (g := (mkF m 89 #[.val (.int q0), .val (.long q1), .second, .val (.long q2), .second, .val (.int (2 : Int32)), .val (.int fx), .val (.int fy), .val (.int fz), .val (.ref nb4), .unset, .unset, .unset] [(.ref nb4)])) rfl (by rw [hml]; rfl) (argsL := []) (rest := []) (lenOf pd_prI rfl) rfl (W := 0) (by show 2 * 0 + _ ≤ _; exact Nat.le_of_eq rfl) (hb hby at_89) (by decide) (by decide) (by decide) (by decide)
      obtain ⟨rfl, Nq83, Kq83, O83, F83_b2, F83_b3, F83_b4, F83_b5⟩ := hQ83
      have N83 := Fr.app N75 Nq83
      have Z83 : n0 ≤ h83.size := Nat.le_trans Z75 Kq83.1
      obtain ⟨f83_b2, ef83_b2⟩ : ∃ f : Nat → Int64, f = (updL (updL (updL (fun _ => (0 : Int64)) 1 (-9223372036854775808 : Int64)) 1 (jmax ((updL (fun _ => (0 : Int64)) 1 (-9223372036854775808 : Int64)) 1) ((updL (updL (fun _ => (0 : Int64)) 0 q1) 1 q2) 0))) 1 (jmax ((updL (updL (fun _ => (0 : Int64)) 1 (-9223372036854775808 : Int64)) 1 (jmax ((updL (fun _ => (0 : Int64)) 1 (-9223372036854775808 : Int64)) 1) ((updL (updL (fun _ => (0 : Int64)) 0 q1) 1 q2) 0))) 1) ((updL (updL (fun _ => (0 : Int64)) 0 q1) 1 q2) 1))) := ⟨_, rfl⟩
      rw [← ef83_b2] at F83_b2
      refine own_tr st83 ?_
      show OEnds p e below s _ _ _ (T83.setTop (mkF m 92 #[.val (.int q0), .val (.long q1), .second, .val (.long q2), .second, .val (.int (2 : Int32)), .val (.int fx), .val (.int fy), .val (.int fz), .val (.ref nb4), .unset, .unset, .unset] [(.int (0 : Int32))]))
      refine own_by (fun _ k => XS.pop X83.here hx rfl (hb hby at_92) rfl rfl k) ?_
      show OEnds p e below s _ _ _ (T83.setTop (mkF m 93 #[.val (.int q0), .val (.long q1), .second, .val (.long q2), .second, .val (.int (2 : Int32)), .val (.int fx), .val (.int fy), .val (.int fz), .val (.ref nb4), .unset, .unset, .unset] []))
      refine own_by (fun _ k => XS.iload X83.here hx rfl (hb hby at_93) rfl k) ?_
      show OEnds p e below s _ _ _ (T83.setTop (mkF m 95 #[.val (.int q0), .val (.long q1), .second, .val (.long q2), .second, .val (.int (2 : Int32)), .val (.int fx), .val (.int fy), .val (.int fz), .val (.ref nb4), .unset, .unset, .unset] [(.int fy)]))
      by_cases hc95_88 : fy = (0 : Int32)
      · refine own_by (fun _ k => XS.ifYes X83.here hx rfl (pc0 := 95) (pc' := 120) rfl (hb hby at_95) rfl ((if0 _ _).trans (teq hc95_88).1) (by decide) (by decide) k) ?_
        show OEnds p e below s _ _ _ (T83.setTop (mkF m 120 #[.val (.int q0), .val (.long q1), .second, .val (.long q2), .second, .val (.int (2 : Int32)), .val (.int fx), .val (.int fy), .val (.int fz), .val (.ref nb4), .unset, .unset, .unset] []))
        have F89 : FA Z h83 b1 .long 64 (fun i => .long ((updL (updL (fun _ => (0 : Int64)) 0 q1) 1 q2) i)) := (F75_b1.keep Kq83 (ninS (Ne.symm (Nat.ne_of_lt (by omega))) (ninS (Nat.ne_of_lt (by omega)) (ninS (Nat.ne_of_lt (by omega)) (ninS (Nat.ne_of_lt (by omega)) (ninS (Nat.ne_of_lt (by omega)) nin0))))))
        have F90 : FA Z h83 b6 .int 96 (fun i => .int ((fun _ => (0 : Int32)) i)) := (((F_6.keep Kq74 (ninS (Ne.symm (Nat.ne_of_lt (by omega))) (ninS (Ne.symm (Nat.ne_of_lt (by omega))) nin0))).keep Kq75 (ninS (Ne.symm (Nat.ne_of_lt (by omega))) (ninS (Ne.symm (Nat.ne_of_lt (by omega))) nin0))).keep Kq83 (ninS (Ne.symm (Nat.ne_of_lt (by omega))) (ninS (Ne.symm (Nat.ne_of_lt (by omega))) (ninS (Ne.symm (Nat.ne_of_lt (by omega))) (ninS (Ne.symm (Nat.ne_of_lt (by omega))) (ninS (Ne.symm (Nat.ne_of_lt (by omega))) nin0))))))
        have F91 : FA Z h83 b7 .int 32 (fun i => .int ((fun _ => (0 : Int32)) i)) := (((F_7.keep Kq74 (ninS (Ne.symm (Nat.ne_of_lt (by omega))) (ninS (Ne.symm (Nat.ne_of_lt (by omega))) nin0))).keep Kq75 (ninS (Ne.symm (Nat.ne_of_lt (by omega))) (ninS (Ne.symm (Nat.ne_of_lt (by omega))) nin0))).keep Kq83 (ninS (Ne.symm (Nat.ne_of_lt (by omega))) (ninS (Ne.symm (Nat.ne_of_lt (by omega))) (ninS (Ne.symm (Nat.ne_of_lt (by omega))) (ninS (Ne.symm (Nat.ne_of_lt (by omega))) (ninS (Ne.symm (Nat.ne_of_lt (by omega))) nin0))))))
        exact bl120 T83 _ (2 : Int32) (2 : Int32) (2 : Int32) (1 : Int32) (0 : Int32) (0 : Int32) (0 : Int32) (0 : Int32) (0 : Int32) (0 : Int64) (0 : Int32) (0 : Int32) (0 : Int32) (updL (updL (fun _ => (0 : Int64)) 0 q1) 1 q2) f83_b2 (updI (fun _ => (0 : Int32)) 0 (0 : Int32)) (updI (fun _ => (0 : Int32)) 0 (2 : Int32)) (updI (fun _ => (0 : Int32)) 0 (0 : Int32)) (fun _ => (0 : Int32)) (fun _ => (0 : Int32)) h83 Z83 X83 e83 N83 O83 F89 F83_b2 F83_b3 F83_b4 F83_b5 F90 F91
      · refine own_by (fun _ k => XS.ifNo X83.here hx rfl (hb hby at_95) rfl ((if0 _ _).trans (feq hc95_88).1) k) ?_
        show OEnds p e below s _ _ _ (T83.setTop (mkF m 98 #[.val (.int q0), .val (.long q1), .second, .val (.long q2), .second, .val (.int (2 : Int32)), .val (.int fx), .val (.int fy), .val (.int fz), .val (.ref nb4), .unset, .unset, .unset] []))
        refine own_by (fun _ k => XS.aload X83.here hx rfl (hb hby at_98) rfl rfl k) ?_
        show OEnds p e below s _ _ _ (T83.setTop (mkF m 100 #[.val (.int q0), .val (.long q1), .second, .val (.long q2), .second, .val (.int (2 : Int32)), .val (.int fx), .val (.int fy), .val (.int fz), .val (.ref nb4), .unset, .unset, .unset] [(.ref nb4)]))
        refine own_by (fun _ k => XS.iconst X83.here hx rfl (hb hby at_100) k) ?_
        show OEnds p e below s _ _ _ (T83.setTop (mkF m 101 #[.val (.int q0), .val (.long q1), .second, .val (.long q2), .second, .val (.int (2 : Int32)), .val (.int fx), .val (.int fy), .val (.int fz), .val (.ref nb4), .unset, .unset, .unset] [(.int (0 : Int32)), (.ref nb4)]))
        refine own_by (fun _ k => XS.iload X83.here hx rfl (hb hby at_101) rfl k) ?_
        show OEnds p e below s _ _ _ (T83.setTop (mkF m 103 #[.val (.int q0), .val (.long q1), .second, .val (.long q2), .second, .val (.int (2 : Int32)), .val (.int fx), .val (.int fy), .val (.int fz), .val (.ref nb4), .unset, .unset, .unset] [(.int (2 : Int32)), (.int (0 : Int32)), (.ref nb4)]))
        refine own_by (X83.ldc2Long hx hown (mvT hZ (hw _ (List.mem_of_getElem? (i := 79) rfl))) (g := (mkF m 103 #[.val (.int q0), .val (.long q1), .second, .val (.long q2), .second, .val (.int (2 : Int32)), .val (.int fx), .val (.int fy), .val (.int fz), .val (.ref nb4), .unset, .unset, .unset] [(.int (2 : Int32)), (.int (0 : Int32)), (.ref nb4)])) rfl (hb hby at_103)) ?_
        show OEnds p e below s _ _ _ (T83.setTop (mkF m 106 #[.val (.int q0), .val (.long q1), .second, .val (.long q2), .second, .val (.int (2 : Int32)), .val (.int fx), .val (.int fy), .val (.int fz), .val (.ref nb4), .unset, .unset, .unset] [(.long (-9223372036854775808 : Int64)), (.int (2 : Int32)), (.int (0 : Int32)), (.ref nb4)]))
        obtain ⟨v92, T92, L92, h92, X92, e92, hQ92, st92⟩ := own_callV X83 hx hZ (y := (⟨"com/example/graphweft/graphweft/RangeMaxTree", "find", "(IIJ)V"⟩ : MethodName)) hown (hw _ (List.mem_of_getElem? (i := 80) rfl)) (hw _ (List.mem_of_getElem? (i := 81) rfl)) (hw _ (List.mem_of_getElem? (i := 83) rfl)) (hw _ (List.mem_of_getElem? (i := 82) rfl)) (hw _ (List.mem_of_getElem? (i := 84) rfl)) (hw _ (List.mem_of_getElem? (i := 3) rfl)) (by decide) O83.exa (rm_find_2 l Z a0 hw [] nb4 (-9223372036854775808 : Int64) b1 b2 b3 b4 b5 b6 b7 (2 : Int32) (2 : Int32) (1 : Int32) (0 : Int32) (0 : Int32) (0 : Int32) (0 : Int32) (0 : Int32) (0 : Int64) (0 : Int32) (0 : Int32) (0 : Int32) (updI (fun _ => (0 : Int32)) 0 (0 : Int32)) (updI (fun _ => (0 : Int32)) 0 (2 : Int32)) (updI (fun _ => (0 : Int32)) 0 (0 : Int32)) h83 n0 Z83 O83 F83_b3 F83_b4 F83_b5 g_nb4 hord (by subst ef83_b2; rfl) (by subst ef83_b2; rfl) (by subst ef83_b2; rfl)) e83 (g := (mkF m 106 #[.val (.int q0), .val (.long q1), .second, .val (.long q2), .second, .val (.int (2 : Int32)), .val (.int fx), .val (.int fy), .val (.int fz), .val (.ref nb4), .unset, .unset, .unset] [(.long (-9223372036854775808 : Int64)), (.int (2 : Int32)), (.int (0 : Int32)), (.ref nb4)])) rfl (by rw [hml]; rfl) (argsL := [(.int (0 : Int32)), (.int (2 : Int32)), (.long (-9223372036854775808 : Int64))]) (rest := []) (lenOf pd_pIIJrV rfl) rfl (W := 0) (by show 2 * 0 + _ ≤ _; exact Nat.le_of_eq rfl) (hb hby at_106) (by decide) (by decide) (by decide) (by decide)
        obtain ⟨rfl, Nq92, Kq92, O92⟩ := hQ92
        have N92 := Fr.app N83 Nq92
        have Z92 : n0 ≤ h92.size := Nat.le_trans Z83 Kq92.1
        refine own_tr st92 ?_
        show OEnds p e below s _ _ _ (T92.setTop (mkF m 109 #[.val (.int q0), .val (.long q1), .second, .val (.long q2), .second, .val (.int (2 : Int32)), .val (.int fx), .val (.int fy), .val (.int fz), .val (.ref nb4), .unset, .unset, .unset] []))
        refine own_by (fun _ k => XS.iload X92.here hx rfl (hb hby at_109) rfl k) ?_
        show OEnds p e below s _ _ _ (T92.setTop (mkF m 111 #[.val (.int q0), .val (.long q1), .second, .val (.long q2), .second, .val (.int (2 : Int32)), .val (.int fx), .val (.int fy), .val (.int fz), .val (.ref nb4), .unset, .unset, .unset] [(.int fz)]))
        by_cases hc111_93 : fz = (0 : Int32)
        · refine own_by (fun _ k => XS.ifYes X92.here hx rfl (pc0 := 111) (pc' := 120) rfl (hb hby at_111) rfl ((if0 _ _).trans (teq hc111_93).1) (by decide) (by decide) k) ?_
          show OEnds p e below s _ _ _ (T92.setTop (mkF m 120 #[.val (.int q0), .val (.long q1), .second, .val (.long q2), .second, .val (.int (2 : Int32)), .val (.int fx), .val (.int fy), .val (.int fz), .val (.ref nb4), .unset, .unset, .unset] []))
          have F94 : FA Z h92 b1 .long 64 (fun i => .long ((updL (updL (fun _ => (0 : Int64)) 0 q1) 1 q2) i)) := ((F75_b1.keep Kq83 (ninS (Ne.symm (Nat.ne_of_lt (by omega))) (ninS (Nat.ne_of_lt (by omega)) (ninS (Nat.ne_of_lt (by omega)) (ninS (Nat.ne_of_lt (by omega)) (ninS (Nat.ne_of_lt (by omega)) nin0)))))).keep Kq92 (ninS (Ne.symm (Nat.ne_of_lt (by omega))) nin0))
          have F95 : FA Z h92 b2 .long 64 (fun i => .long (f83_b2 i)) := (F83_b2.keep Kq92 (ninS (Ne.symm (Nat.ne_of_lt (by omega))) nin0))
          have F96 : FA Z h92 b3 .int 16 (fun i => .int ((updI (fun _ => (0 : Int32)) 0 (0 : Int32)) i)) := (F83_b3.keep Kq92 (ninS (Ne.symm (Nat.ne_of_lt (by omega))) nin0))
          have F97 : FA Z h92 b4 .int 16 (fun i => .int ((updI (fun _ => (0 : Int32)) 0 (2 : Int32)) i)) := (F83_b4.keep Kq92 (ninS (Ne.symm (Nat.ne_of_lt (by omega))) nin0))
          have F98 : FA Z h92 b5 .int 16 (fun i => .int ((updI (fun _ => (0 : Int32)) 0 (0 : Int32)) i)) := (F83_b5.keep Kq92 (ninS (Ne.symm (Nat.ne_of_lt (by omega))) nin0))
          have F99 : FA Z h92 b6 .int 96 (fun i => .int ((fun _ => (0 : Int32)) i)) := ((((F_6.keep Kq74 (ninS (Ne.symm (Nat.ne_of_lt (by omega))) (ninS (Ne.symm (Nat.ne_of_lt (by omega))) nin0))).keep Kq75 (ninS (Ne.symm (Nat.ne_of_lt (by omega))) (ninS (Ne.symm (Nat.ne_of_lt (by omega))) nin0))).keep Kq83 (ninS (Ne.symm (Nat.ne_of_lt (by omega))) (ninS (Ne.symm (Nat.ne_of_lt (by omega))) (ninS (Ne.symm (Nat.ne_of_lt (by omega))) (ninS (Ne.symm (Nat.ne_of_lt (by omega))) (ninS (Ne.symm (Nat.ne_of_lt (by omega))) nin0)))))).keep Kq92 (ninS (Ne.symm (Nat.ne_of_lt (by omega))) nin0))
          have F100 : FA Z h92 b7 .int 32 (fun i => .int ((fun _ => (0 : Int32)) i)) := ((((F_7.keep Kq74 (ninS (Ne.symm (Nat.ne_of_lt (by omega))) (ninS (Ne.symm (Nat.ne_of_lt (by omega))) nin0))).keep Kq75 (ninS (Ne.symm (Nat.ne_of_lt (by omega))) (ninS (Ne.symm (Nat.ne_of_lt (by omega))) nin0))).keep Kq83 (ninS (Ne.symm (Nat.ne_of_lt (by omega))) (ninS (Ne.symm (Nat.ne_of_lt (by omega))) (ninS (Ne.symm (Nat.ne_of_lt (by omega))) (ninS (Ne.symm (Nat.ne_of_lt (by omega))) (ninS (Ne.symm (Nat.ne_of_lt (by omega))) nin0)))))).keep Kq92 (ninS (Ne.symm (Nat.ne_of_lt (by omega))) nin0))
          exact bl120 T92 _ (2 : Int32) (2 : Int32) (2 : Int32) (1 : Int32) (2 : Int32) (0 : Int32) (0 : Int32) (0 : Int32) (0 : Int32) (-9223372036854775808 : Int64) (0 : Int32) (0 : Int32) (1 : Int32) (updL (updL (fun _ => (0 : Int64)) 0 q1) 1 q2) f83_b2 (updI (fun _ => (0 : Int32)) 0 (0 : Int32)) (updI (fun _ => (0 : Int32)) 0 (2 : Int32)) (updI (fun _ => (0 : Int32)) 0 (0 : Int32)) (fun _ => (0 : Int32)) (fun _ => (0 : Int32)) h92 Z92 X92 e92 N92 O92 F94 F95 F96 F97 F98 F99 F100
        · refine own_by (fun _ k => XS.ifNo X92.here hx rfl (hb hby at_111) rfl ((if0 _ _).trans (feq hc111_93).1) k) ?_
          show OEnds p e below s _ _ _ (T92.setTop (mkF m 114 #[.val (.int q0), .val (.long q1), .second, .val (.long q2), .second, .val (.int (2 : Int32)), .val (.int fx), .val (.int fy), .val (.int fz), .val (.ref nb4), .unset, .unset, .unset] []))
          refine own_by (fun _ k => XS.aload X92.here hx rfl (hb hby at_114) rfl rfl k) ?_
          show OEnds p e below s _ _ _ (T92.setTop (mkF m 116 #[.val (.int q0), .val (.long q1), .second, .val (.long q2), .second, .val (.int (2 : Int32)), .val (.int fx), .val (.int fy), .val (.int fz), .val (.ref nb4), .unset, .unset, .unset] [(.ref nb4)]))
          have F102 : FA Z h92 b1 .long 64 (fun i => .long ((updL (updL (fun _ => (0 : Int64)) 0 q1) 1 q2) i)) := ((F75_b1.keep Kq83 (ninS (Ne.symm (Nat.ne_of_lt (by omega))) (ninS (Nat.ne_of_lt (by omega)) (ninS (Nat.ne_of_lt (by omega)) (ninS (Nat.ne_of_lt (by omega)) (ninS (Nat.ne_of_lt (by omega)) nin0)))))).keep Kq92 (ninS (Ne.symm (Nat.ne_of_lt (by omega))) nin0))
          obtain ⟨v101, T101, L101, h101, X101, e101, hQ101, st101⟩ := own_callV X92 hx hZ (y := (⟨"com/example/graphweft/graphweft/RangeMaxTree", "next", "()I"⟩ : MethodName)) hown (hw _ (List.mem_of_getElem? (i := 52) rfl)) (hw _ (List.mem_of_getElem? (i := 53) rfl)) (hw _ (List.mem_of_getElem? (i := 55) rfl)) (hw _ (List.mem_of_getElem? (i := 54) rfl)) (hw _ (List.mem_of_getElem? (i := 56) rfl)) (hw _ (List.mem_of_getElem? (i := 3) rfl)) (by decide) O92.exa (rm_next_2 l Z a0 hw [] nb4 b1 b2 b3 b4 b5 b6 b7 (2 : Int32) (2 : Int32) (1 : Int32) (-9223372036854775808 : Int64) (0 : Int32) (0 : Int32) (1 : Int32) (updL (updL (fun _ => (0 : Int64)) 0 q1) 1 q2) h92 n0 Z92 O92 F102 g_nb4 hord (own_ge _)) e92 (g := (mkF m 116 #[.val (.int q0), .val (.long q1), .second, .val (.long q2), .second, .val (.int (2 : Int32)), .val (.int fx), .val (.int fy), .val (.int fz), .val (.ref nb4), .unset, .unset, .unset] [(.ref nb4)])) rfl (by rw [hml]; rfl) (argsL := []) (rest := []) (lenOf pd_prI rfl) rfl (W := 0) (by show 2 * 0 + _ ≤ _; exact Nat.le_of_eq rfl) (hb hby at_116) (by decide) (by decide) (by decide) (by decide)
          obtain ⟨rfl, Nq101, Kq101, O101⟩ := hQ101
          have N101 := Fr.app N92 Nq101
          have Z101 : n0 ≤ h101.size := Nat.le_trans Z92 Kq101.1
          refine own_tr st101 ?_
          show OEnds p e below s _ _ _ (T101.setTop (mkF m 119 #[.val (.int q0), .val (.long q1), .second, .val (.long q2), .second, .val (.int (2 : Int32)), .val (.int fx), .val (.int fy), .val (.int fz), .val (.ref nb4), .unset, .unset, .unset] [(.int (0 : Int32))]))
          refine own_by (fun _ k => XS.pop X101.here hx rfl (hb hby at_119) rfl rfl k) ?_
          show OEnds p e below s _ _ _ (T101.setTop (mkF m 120 #[.val (.int q0), .val (.long q1), .second, .val (.long q2), .second, .val (.int (2 : Int32)), .val (.int fx), .val (.int fy), .val (.int fz), .val (.ref nb4), .unset, .unset, .unset] []))
          have F103 : FA Z h101 b1 .long 64 (fun i => .long ((updL (updL (fun _ => (0 : Int64)) 0 q1) 1 q2) i)) := (F102.keep Kq101 (ninS (Ne.symm (Nat.ne_of_lt (by omega))) nin0))
          have F104 : FA Z h101 b2 .long 64 (fun i => .long (f83_b2 i)) := ((F83_b2.keep Kq92 (ninS (Ne.symm (Nat.ne_of_lt (by omega))) nin0)).keep Kq101 (ninS (Ne.symm (Nat.ne_of_lt (by omega))) nin0))
          have F105 : FA Z h101 b3 .int 16 (fun i => .int ((updI (fun _ => (0 : Int32)) 0 (0 : Int32)) i)) := ((F83_b3.keep Kq92 (ninS (Ne.symm (Nat.ne_of_lt (by omega))) nin0)).keep Kq101 (ninS (Ne.symm (Nat.ne_of_lt (by omega))) nin0))
          have F106 : FA Z h101 b4 .int 16 (fun i => .int ((updI (fun _ => (0 : Int32)) 0 (2 : Int32)) i)) := ((F83_b4.keep Kq92 (ninS (Ne.symm (Nat.ne_of_lt (by omega))) nin0)).keep Kq101 (ninS (Ne.symm (Nat.ne_of_lt (by omega))) nin0))
          have F107 : FA Z h101 b5 .int 16 (fun i => .int ((updI (fun _ => (0 : Int32)) 0 (0 : Int32)) i)) := ((F83_b5.keep Kq92 (ninS (Ne.symm (Nat.ne_of_lt (by omega))) nin0)).keep Kq101 (ninS (Ne.symm (Nat.ne_of_lt (by omega))) nin0))
          have F108 : FA Z h101 b6 .int 96 (fun i => .int ((fun _ => (0 : Int32)) i)) := (((((F_6.keep Kq74 (ninS (Ne.symm (Nat.ne_of_lt (by omega))) (ninS (Ne.symm (Nat.ne_of_lt (by omega))) nin0))).keep Kq75 (ninS (Ne.symm (Nat.ne_of_lt (by omega))) (ninS (Ne.symm (Nat.ne_of_lt (by omega))) nin0))).keep Kq83 (ninS (Ne.symm (Nat.ne_of_lt (by omega))) (ninS (Ne.symm (Nat.ne_of_lt (by omega))) (ninS (Ne.symm (Nat.ne_of_lt (by omega))) (ninS (Ne.symm (Nat.ne_of_lt (by omega))) (ninS (Ne.symm (Nat.ne_of_lt (by omega))) nin0)))))).keep Kq92 (ninS (Ne.symm (Nat.ne_of_lt (by omega))) nin0)).keep Kq101 (ninS (Ne.symm (Nat.ne_of_lt (by omega))) nin0))
          have F109 : FA Z h101 b7 .int 32 (fun i => .int ((fun _ => (0 : Int32)) i)) := (((((F_7.keep Kq74 (ninS (Ne.symm (Nat.ne_of_lt (by omega))) (ninS (Ne.symm (Nat.ne_of_lt (by omega))) nin0))).keep Kq75 (ninS (Ne.symm (Nat.ne_of_lt (by omega))) (ninS (Ne.symm (Nat.ne_of_lt (by omega))) nin0))).keep Kq83 (ninS (Ne.symm (Nat.ne_of_lt (by omega))) (ninS (Ne.symm (Nat.ne_of_lt (by omega))) (ninS (Ne.symm (Nat.ne_of_lt (by omega))) (ninS (Ne.symm (Nat.ne_of_lt (by omega))) (ninS (Ne.symm (Nat.ne_of_lt (by omega))) nin0)))))).keep Kq92 (ninS (Ne.symm (Nat.ne_of_lt (by omega))) nin0)).keep Kq101 (ninS (Ne.symm (Nat.ne_of_lt (by omega))) nin0))
          exact bl120 T101 _ (2 : Int32) (2 : Int32) (2 : Int32) (1 : Int32) (2 : Int32) (2 : Int32) (2 : Int32) (1 : Int32) (0 : Int32) (-9223372036854775808 : Int64) (0 : Int32) (0 : Int32) (1 : Int32) (updL (updL (fun _ => (0 : Int64)) 0 q1) 1 q2) f83_b2 (updI (fun _ => (0 : Int32)) 0 (0 : Int32)) (updI (fun _ => (0 : Int32)) 0 (2 : Int32)) (updI (fun _ => (0 : Int32)) 0 (0 : Int32)) (fun _ => (0 : Int32)) (fun _ => (0 : Int32)) h101 Z101 X101 e101 N101 O101 F103 F104 F105 F106 F107 F108 F109
set_option maxRecDepth 65536 in
set_option maxHeartbeats 40000000 in
theorem comes_1 {Post : Tables → Env → Array Value → State → Outcome → State → Prop} (hpost : ∀ tb e args s v u, (limb_1_1.after args s (.returned v) u = true ∧ limb_1_2.after args s (.returned v) u = true ∧ True) → FrameEnd s (.returned v) u (Jvm.fieldLocs frame_1_writes args s ++ Jvm.arrayLocs frame_1_arrays args s ++ Jvm.staticLocs frame_1_statics s) 24 768 → Post tb e args s (.returned v) u) :
    ArmFor flags0 classFile x code maxLocals ret World_1 tables_1 room_1 Calls_1 rest_1 Pre_1 Post := by
  intro l hfl _ _ p e ha hc hk s m args below hf hA hF happ hP
  obtain ⟨hcalls, hrest, hpre⟩ := hP
  obtain ⟨-, -, -, hnamed, -, -, -, hat⟩ := (Spec.applies_iff hf).mp happ
  obtain ⟨hg, hn⟩ := and_e (Cond.before_iff.mp (show (Jvm.Cond.and given_1 narrow_1).before args s = true from hpre))
  obtain ⟨hct, hg0⟩ := and_e hg
  obtain ⟨ga0, hg1⟩ := and_e hg0
  obtain ⟨ga1, hg2⟩ := and_e hg1
  have ga2 := hg2
  obtain ⟨w0, w1, w2, rfl⟩ : ∃ w0 w1 w2 : Value, args = #[w0, w1, w2] := by
    have hs : args.size = 3 := by simpa [Cond.value, given_1] using hct
    obtain ⟨L⟩ := args
    match L, hs with
    | [w0, w1, w2], _ => exact ⟨w0, w1, w2, rfl⟩
  have hw := fun d (hd : d ∈ tables_1) => atoms_spec (ws := Jvm.Cond.code x code maxLocals ret :: tables_1) hat d (List.mem_cons_of_mem _ hd)
  obtain ⟨i0, ei0⟩ := is_v ga0
  obtain rfl : w0 = (.int i0) := Option.some.inj ei0
  obtain ⟨i1, ei1⟩ := isL_v ga1
  obtain rfl : w1 = (.long i1) := Option.some.inj ei1
  obtain ⟨i2, ei2⟩ := isL_v ga2
  obtain rfl : w2 = (.long i2) := Option.some.inj ei2
  obtain ⟨n, o, h1, h2, h3, _, L, rfl, ⟨rfl, N⟩, hq⟩ := rm_law l s _ hw tables_1 i0 i1 i2 s.heap s.heap.size (Nat.le_refl _) p e ha hc hk s m _ below hf ((Spec.applies_iff_loose hf).mp happ).1 ⟨rfl, State.Warmed39.refl s, rfl⟩ trivial
  refine ⟨n, _, h1, h2, h3, hpost _ _ _ _ _ _ ⟨Cond.after_iff.mpr rfl, Cond.after_iff.mpr (eq_i res_at (Term.int_eval (1)) rfl), trivial⟩ ⟨hq.1, hq.2.1, (hq.2.2.sift fun y hy => Or.inr (N y hy)).mono (by decide) (by decide)⟩⟩
theorem main_1_1 : Claimed_1_1 := comes_1 fun _ _ _ _ _ _ h hF => ⟨h.1, hF⟩
theorem main_1_2 : Claimed_1_2 := comes_1 fun _ _ _ _ _ _ h hF => ⟨h.2.1, hF⟩
end Jvm.Pilot.@@N@@
namespace Jvm.Pilot.@@N@@
open Jvm Jvm.ClassFile Sem Op Lib Jvm.Free Jvm.Stand Jvm.Pilot.@@N@@.Jvm.D
/-! MADE BY PROGRAM (witnessworld.py) out of the Statement's table words and the real class files: 13 classes; the members and pool entries that the words name. The judged class is class 1, her method 1. -/
namespace start1
open Jvm.ClassFile
def u (s : String) : CpInfo := .utf8 (stringToUtf16 s)
/-- a pool by its gaps: so many unusable entries, then the entry; so many at the end -/
def gap : Nat → List CpInfo → List CpInfo
  | 0, r => r
  | n + 1, r => .unusable :: gap n r
def poolList (es : List (Nat × CpInfo)) (last : Nat) : List CpInfo := es.foldr (fun e r => gap e.1 (e.2 :: r)) (gap last [])
def pool (es : List (Nat × CpInfo)) (last : Nat) : Array CpInfo := ⟨poolList es last⟩
def fileOf (pool : Array CpInfo) (this : Nat) (attrs : Array Attribute := #[]) (ms : Array MethodInfo := #[]) (fl : Nat := 33) (sup : Nat := 0) (ifs : Array Nat := #[]) (fds : Array FieldInfo := #[]) : ClassFile where
  minorVersion := 0
  majorVersion := 65
  constantPool := pool
  accessFlags := fl
  thisClass := this
  superClass := sup
  interfaces := ifs
  fields := fds
  methods := ms
  attributes := attrs
def plain (name : String) (sup : Option ClassId) : Class where
  name := name
  kind := .ordinary
  loader := none
  accessFlags := 33
  super := sup
  interfaces := #[]
  cf := none
  fields := #[]
  methods := #[]
  instanceTypes := #[]
  staticTypes := #[]
  resolved := #[]
  callSites := []
  init := .initialized
  statics := none
  mirror := none

def pool0 : Array CpInfo := pool [(5, u "<init>"), (0, u "()V"), (1, .class_ 10), (1, u "java/lang/Object")] 113

def k0c0 : Code := { maxStack := 0, maxLocals := 1, code := object_method_1_code, exceptionTable := #[], attributes := #[] }
def k0m0 : Method := { name := "<init>", desc := "()V", sig := { parameters := [], returnType := none }, accessFlags := 1, code := some k0c0 }
/-- java/lang/Object -/
def k0 : Class := { plain "java/lang/Object" none with
  accessFlags := 33
  interfaces := #[]
  cf := some (fileOf pool0 8 #[] #[{ accessFlags := 1, nameIndex := 5, descriptorIndex := 6, attributes := #[] }] 33 0 #[] #[])
  fields := #[]
  methods := #[k0m0]
  instanceTypes := #[]
  staticTypes := #[]
  resolved := Array.replicate 124 none
  statics := none }

def pool1 : Array CpInfo := pool [(2, .class_ 4), (0, .nameAndType 5 6), (0, u "java/lang/Object"), (0, u "<init>"), (0, u "()V"), (0, .integer 2147483647), (0, .class_ 9), (0, u "com/example/graphweft/graphweft/RangeMaxTree"), (0, .methodref 8 3), (0, .methodref 8 12), (0, .nameAndType 13 14), (0, u "add"), (0, u "(J)V"), (0, .methodref 8 16), (0, .nameAndType 17 18), (0, u "index"), (0, u "()I"), (2, .long 9223372036854775808), (1, .methodref 8 24), (0, .nameAndType 25 26), (0, u "find"), (0, u "(IIJ)V"), (0, .methodref 8 28), (0, .nameAndType 29 18), (0, u "next"), (0, .methodref 8 31), (0, .nameAndType 32 6), (0, u "clear"), (0, .methodref 8 34), (0, .nameAndType 35 18), (0, u "size"), (0, .class_ 37), (0, u "com/example/graphweft/graphweft/RangeMaxTreeClearPinLaw"), (2, u "law"), (0, u "(IJJ)Z")] 3

def k1m0 : Method := { name := "<init>", desc := "()V", sig := { parameters := [], returnType := none }, accessFlags := 1, code := none }
def k1c1 : Code := { maxStack := 5, maxLocals := 13, code := code, exceptionTable := #[], attributes := #[] }
def k1m1 : Method := { name := "law", desc := "(IJJ)Z", sig := { parameters := [.int, .long, .long], returnType := some .boolean }, accessFlags := 9, code := some k1c1 }
/-- com/example/graphweft/graphweft/RangeMaxTreeClearPinLaw -/
def k1 : Class := { plain "com/example/graphweft/graphweft/RangeMaxTreeClearPinLaw" (some 0) with
  accessFlags := 49
  interfaces := #[]
  cf := some (fileOf pool1 36 #[] #[{ accessFlags := 1, nameIndex := 5, descriptorIndex := 6, attributes := #[] }, { accessFlags := 9, nameIndex := 40, descriptorIndex := 41, attributes := #[] }] 49 2 #[] #[])
  fields := #[]
  methods := #[k1m0, k1m1]
  instanceTypes := #[]
  staticTypes := #[]
  resolved := Array.replicate 45 none
  statics := none }

def pool2 : Array CpInfo := pool [(1, .methodref 2 3), (0, .class_ 4), (0, .nameAndType 5 6), (0, u "java/lang/Object"), (0, u "<init>"), (0, u "()V"), (0, .fieldref 8 9), (0, .class_ 10), (0, .nameAndType 11 12), (0, u "com/example/graphweft/graphweft/RangeMaxTree"), (0, u "values"), (0, u "[J"), (0, .fieldref 8 14), (0, .nameAndType 15 12), (0, u "maxima"), (0, .fieldref 8 17), (0, .nameAndType 18 19), (0, u "spanStarts"), (0, u "[I"), (0, .fieldref 8 21), (0, .nameAndType 22 19), (0, u "spanEnds"), (0, .fieldref 8 24), (0, .nameAndType 25 19), (0, u "spanBases"), (0, .fieldref 8 27), (0, .nameAndType 28 19), (0, u "pending"), (0, .fieldref 8 30), (0, .nameAndType 31 19), (0, u "lowNodes"), (0, .fieldref 8 33), (0, .nameAndType 34 35), (0, u "size"), (0, u "I"), (0, .fieldref 8 37), (0, .nameAndType 38 35), (0, u "nodeCount"), (0, .fieldref 8 40), (0, .nameAndType 41 35), (0, u "spanCount"), (0, .fieldref 8 43), (0, .nameAndType 44 35), (0, u "tailEnd"), (0, .fieldref 8 46), (0, .nameAndType 47 35), (0, u "tailAt"), (0, .fieldref 8 49), (0, .nameAndType 50 35), (0, u "scanEnd"), (0, .fieldref 8 52), (0, .nameAndType 53 35), (0, u "scanAt"), (0, .fieldref 8 55), (0, .nameAndType 56 35), (0, u "pendingCount"), (1, .class_ 60), (1, u "java/util/Arrays"), (3, .class_ 66), (1, u "java/lang/Math"), (0, u "max"), (6, .long 9223372036854775808), (1, .methodref 58 77), (0, .nameAndType 78 79), (0, u "fill"), (0, u "([JIIJ)V"), (0, .methodref 64 81), (0, .nameAndType 67 82), (0, u "(JJ)J"), (0, .fieldref 8 84), (0, .nameAndType 85 86), (0, u "bound"), (0, u "J"), (0, .fieldref 8 88), (0, .nameAndType 89 35), (0, u "spanStart"), (0, .fieldref 8 91), (0, .nameAndType 92 35), (0, u "base"), (0, .fieldref 8 94), (0, .nameAndType 95 35), (0, u "blockCount"), (4, u "BLOCK"), (4, u "clear"), (0, u "()I"), (0, u "add"), (0, u "(J)V"), (1, u "index"), (2, u "find"), (0, u "(IIJ)V"), (0, u "next")] 2

def k2c0 : Code := { maxStack := 2, maxLocals := 1, code := prog_32_method_1_code, exceptionTable := #[], attributes := #[] }
def k2m0 : Method := { name := "<init>", desc := "()V", sig := { parameters := [], returnType := none }, accessFlags := 0, code := some k2c0 }
def k2c1 : Code := { maxStack := 7, maxLocals := 1, code := prog_32_method_2_code, exceptionTable := #[], attributes := #[] }
def k2m1 : Method := { name := "clear", desc := "()V", sig := { parameters := [], returnType := none }, accessFlags := 0, code := some k2c1 }
def k2c2 : Code := { maxStack := 1, maxLocals := 1, code := prog_32_method_3_code, exceptionTable := #[], attributes := #[] }
def k2m2 : Method := { name := "size", desc := "()I", sig := { parameters := [], returnType := some .int }, accessFlags := 0, code := some k2c2 }
def k2c3 : Code := { maxStack := 5, maxLocals := 3, code := prog_32_method_4_code, exceptionTable := #[], attributes := #[] }
def k2m3 : Method := { name := "add", desc := "(J)V", sig := { parameters := [.long], returnType := none }, accessFlags := 0, code := some k2c3 }
def k2c4 : Code := { maxStack := 8, maxLocals := 5, code := prog_32_method_5_code, exceptionTable := #[], attributes := #[] }
def k2m4 : Method := { name := "index", desc := "()I", sig := { parameters := [], returnType := some .int }, accessFlags := 0, code := some k2c4 }
def k2c5 : Code := { maxStack := 5, maxLocals := 10, code := prog_32_method_8_code, exceptionTable := #[], attributes := #[] }
def k2m5 : Method := { name := "find", desc := "(IIJ)V", sig := { parameters := [.int, .int, .long], returnType := none }, accessFlags := 0, code := some k2c5 }
def k2c6 : Code := { maxStack := 5, maxLocals := 2, code := prog_32_method_9_code, exceptionTable := #[], attributes := #[] }
def k2m6 : Method := { name := "next", desc := "()I", sig := { parameters := [], returnType := some .int }, accessFlags := 0, code := some k2c6 }
/-- com/example/graphweft/graphweft/RangeMaxTree -/
def k2 : Class := { plain "com/example/graphweft/graphweft/RangeMaxTree" (some 0) with
  accessFlags := 48
  interfaces := #[]
  cf := some (fileOf pool2 8 #[] #[{ accessFlags := 0, nameIndex := 5, descriptorIndex := 6, attributes := #[] }, { accessFlags := 0, nameIndex := 105, descriptorIndex := 6, attributes := #[] }, { accessFlags := 0, nameIndex := 34, descriptorIndex := 106, attributes := #[] }, { accessFlags := 0, nameIndex := 107, descriptorIndex := 108, attributes := #[] }, { accessFlags := 0, nameIndex := 110, descriptorIndex := 106, attributes := #[] }, { accessFlags := 0, nameIndex := 113, descriptorIndex := 114, attributes := #[] }, { accessFlags := 0, nameIndex := 115, descriptorIndex := 106, attributes := #[] }] 48 2 #[] #[{ accessFlags := 26, nameIndex := 100, descriptorIndex := 35, attributes := #[] }, { accessFlags := 2, nameIndex := 11, descriptorIndex := 12, attributes := #[] }, { accessFlags := 2, nameIndex := 34, descriptorIndex := 35, attributes := #[] }, { accessFlags := 2, nameIndex := 15, descriptorIndex := 12, attributes := #[] }, { accessFlags := 2, nameIndex := 38, descriptorIndex := 35, attributes := #[] }, { accessFlags := 2, nameIndex := 18, descriptorIndex := 19, attributes := #[] }, { accessFlags := 2, nameIndex := 22, descriptorIndex := 19, attributes := #[] }, { accessFlags := 2, nameIndex := 25, descriptorIndex := 19, attributes := #[] }, { accessFlags := 2, nameIndex := 41, descriptorIndex := 35, attributes := #[] }, { accessFlags := 18, nameIndex := 28, descriptorIndex := 19, attributes := #[] }, { accessFlags := 2, nameIndex := 56, descriptorIndex := 35, attributes := #[] }, { accessFlags := 18, nameIndex := 31, descriptorIndex := 19, attributes := #[] }, { accessFlags := 2, nameIndex := 92, descriptorIndex := 35, attributes := #[] }, { accessFlags := 2, nameIndex := 95, descriptorIndex := 35, attributes := #[] }, { accessFlags := 2, nameIndex := 89, descriptorIndex := 35, attributes := #[] }, { accessFlags := 2, nameIndex := 53, descriptorIndex := 35, attributes := #[] }, { accessFlags := 2, nameIndex := 50, descriptorIndex := 35, attributes := #[] }, { accessFlags := 2, nameIndex := 47, descriptorIndex := 35, attributes := #[] }, { accessFlags := 2, nameIndex := 44, descriptorIndex := 35, attributes := #[] }, { accessFlags := 2, nameIndex := 85, descriptorIndex := 86, attributes := #[] }])
  fields := #[{ name := "BLOCK", type := .int, accessFlags := 26, slot := 0, constantValue := 0 }, { name := "values", type := (.array .long), accessFlags := 2, slot := 0, constantValue := 0 }, { name := "size", type := .int, accessFlags := 2, slot := 1, constantValue := 0 }, { name := "maxima", type := (.array .long), accessFlags := 2, slot := 2, constantValue := 0 }, { name := "nodeCount", type := .int, accessFlags := 2, slot := 3, constantValue := 0 }, { name := "spanStarts", type := (.array .int), accessFlags := 2, slot := 4, constantValue := 0 }, { name := "spanEnds", type := (.array .int), accessFlags := 2, slot := 5, constantValue := 0 }, { name := "spanBases", type := (.array .int), accessFlags := 2, slot := 6, constantValue := 0 }, { name := "spanCount", type := .int, accessFlags := 2, slot := 7, constantValue := 0 }, { name := "pending", type := (.array .int), accessFlags := 18, slot := 8, constantValue := 0 }, { name := "pendingCount", type := .int, accessFlags := 2, slot := 9, constantValue := 0 }, { name := "lowNodes", type := (.array .int), accessFlags := 18, slot := 10, constantValue := 0 }, { name := "base", type := .int, accessFlags := 2, slot := 11, constantValue := 0 }, { name := "blockCount", type := .int, accessFlags := 2, slot := 12, constantValue := 0 }, { name := "spanStart", type := .int, accessFlags := 2, slot := 13, constantValue := 0 }, { name := "scanAt", type := .int, accessFlags := 2, slot := 14, constantValue := 0 }, { name := "scanEnd", type := .int, accessFlags := 2, slot := 15, constantValue := 0 }, { name := "tailAt", type := .int, accessFlags := 2, slot := 16, constantValue := 0 }, { name := "tailEnd", type := .int, accessFlags := 2, slot := 17, constantValue := 0 }, { name := "bound", type := .long, accessFlags := 2, slot := 18, constantValue := 0 }]
  methods := #[k2m0, k2m1, k2m2, k2m3, k2m4, k2m5, k2m6]
  instanceTypes := #[(.array .long), .int, (.array .long), .int, (.array .int), (.array .int), (.array .int), .int, (.array .int), .int, (.array .int), .int, .int, .int, .int, .int, .int, .int, .long]
  staticTypes := #[.int]
  resolved := Array.replicate 118 none
  statics := none }

def pool3 : Array CpInfo := pool [(2, .class_ 4), (1, u "java/lang/Object"), (0, u "<init>"), (0, u "()V"), (6, .methodref 14 15), (0, .class_ 16), (0, .nameAndType 17 18), (0, u "java/util/Arrays"), (0, u "rangeCheck"), (0, u "(III)V"), (55, .class_ 76), (1, u "java/util/Arrays$NaturalOrder"), (36, .class_ 115), (1, u "java/util/Arrays$LegacyMergeSort"), (1, u "Z"), (257, .class_ 376), (0, u "java/util/Arrays$ArrayList"), (68, u "$assertionsDisabled"), (269, u "MIN_ARRAY_SORT_GRAN"), (0, u "I"), (2, u "INSERTIONSORT_THRESHOLD"), (120, u "fill"), (3, u "([JIIJ)V"), (130, .class_ 976), (0, u "java/util/Arrays$ArrayItr")] 52

def k3m0 : Method := { name := "<init>", desc := "()V", sig := { parameters := [], returnType := none }, accessFlags := 2, code := none }
def k3c1 : Code := { maxStack := 4, maxLocals := 3, code := jdk_65_method_30_code, exceptionTable := #[], attributes := #[] }
def k3m1 : Method := { name := "rangeCheck", desc := "(III)V", sig := { parameters := [.int, .int, .int], returnType := none }, accessFlags := 8, code := some k3c1 }
def k3c2 : Code := { maxStack := 4, maxLocals := 6, code := jdk_65_method_102_code, exceptionTable := #[], attributes := #[] }
def k3m2 : Method := { name := "fill", desc := "([JIIJ)V", sig := { parameters := [(.array .long), .int, .int, .long], returnType := none }, accessFlags := 9, code := some k3c2 }
/-- java/util/Arrays -/
def k3 : Class := { plain "java/util/Arrays" (some 0) with
  accessFlags := 49
  interfaces := #[]
  cf := some (fileOf pool3 14 #[.nestMembers #[975, 375, 113, 74]] #[{ accessFlags := 2, nameIndex := 5, descriptorIndex := 6, attributes := #[] }, { accessFlags := 8, nameIndex := 17, descriptorIndex := 18, attributes := #[] }, { accessFlags := 9, nameIndex := 840, descriptorIndex := 844, attributes := #[] }] 49 2 #[] #[{ accessFlags := 26, nameIndex := 715, descriptorIndex := 716, attributes := #[] }, { accessFlags := 26, nameIndex := 719, descriptorIndex := 716, attributes := #[] }, { accessFlags := 4120, nameIndex := 445, descriptorIndex := 117, attributes := #[] }])
  fields := #[{ name := "MIN_ARRAY_SORT_GRAN", type := .int, accessFlags := 26, slot := 0, constantValue := 0 }, { name := "INSERTIONSORT_THRESHOLD", type := .int, accessFlags := 26, slot := 1, constantValue := 0 }, { name := "$assertionsDisabled", type := .boolean, accessFlags := 4120, slot := 2, constantValue := 0 }]
  methods := #[k3m0, k3m1, k3m2]
  instanceTypes := #[]
  staticTypes := #[.int, .int, .boolean]
  resolved := Array.replicate 1029 none
  statics := none }

def pool4 : Array CpInfo := pool [(1, .class_ 2), (0, u "java/lang/Math"), (1, .class_ 6), (1, u "java/lang/Object"), (0, u "<init>"), (0, u "()V"), (89, .class_ 100), (1, u "java/lang/Math$RandomNumberGeneratorHolder"), (20, u "(JJ)J"), (50, u "negativeZeroFloatBits"), (0, u "J"), (2, u "negativeZeroDoubleBits"), (21, u "max"), (46, u "$assertionsDisabled"), (0, u "Z"), (91, u "twoToTheDoubleScaleDown"), (0, u "D"), (4, u "twoToTheDoubleScaleUp"), (9, u "E"), (3, u "PI"), (2, u "TAU"), (2, u "DEGREES_TO_RADIANS"), (0, u "RADIANS_TO_DEGREES")] 94

def k4m0 : Method := { name := "<init>", desc := "()V", sig := { parameters := [], returnType := none }, accessFlags := 2, code := none }
def k4c1 : Code := { maxStack := 4, maxLocals := 4, code := jdk_29_method_66_code, exceptionTable := #[], attributes := #[] }
def k4m1 : Method := { name := "max", desc := "(JJ)J", sig := { parameters := [.long, .long], returnType := some .long }, accessFlags := 9, code := some k4c1 }
/-- java/lang/Math -/
def k4 : Class := { plain "java/lang/Math" (some 0) with
  accessFlags := 49
  interfaces := #[]
  cf := some (fileOf pool4 1 #[.nestMembers #[98]] #[{ accessFlags := 2, nameIndex := 7, descriptorIndex := 8, attributes := #[] }, { accessFlags := 9, nameIndex := 198, descriptorIndex := 121, attributes := #[] }] 49 4 #[] #[{ accessFlags := 25, nameIndex := 354, descriptorIndex := 339, attributes := #[] }, { accessFlags := 25, nameIndex := 358, descriptorIndex := 339, attributes := #[] }, { accessFlags := 25, nameIndex := 361, descriptorIndex := 339, attributes := #[] }, { accessFlags := 26, nameIndex := 364, descriptorIndex := 339, attributes := #[] }, { accessFlags := 26, nameIndex := 365, descriptorIndex := 339, attributes := #[] }, { accessFlags := 26, nameIndex := 172, descriptorIndex := 173, attributes := #[] }, { accessFlags := 26, nameIndex := 176, descriptorIndex := 173, attributes := #[] }, { accessFlags := 8, nameIndex := 344, descriptorIndex := 339, attributes := #[] }, { accessFlags := 8, nameIndex := 338, descriptorIndex := 339, attributes := #[] }, { accessFlags := 4120, nameIndex := 245, descriptorIndex := 246, attributes := #[] }])
  fields := #[{ name := "E", type := .double, accessFlags := 25, slot := 0, constantValue := 0 }, { name := "PI", type := .double, accessFlags := 25, slot := 1, constantValue := 0 }, { name := "TAU", type := .double, accessFlags := 25, slot := 2, constantValue := 0 }, { name := "DEGREES_TO_RADIANS", type := .double, accessFlags := 26, slot := 3, constantValue := 0 }, { name := "RADIANS_TO_DEGREES", type := .double, accessFlags := 26, slot := 4, constantValue := 0 }, { name := "negativeZeroFloatBits", type := .long, accessFlags := 26, slot := 5, constantValue := 0 }, { name := "negativeZeroDoubleBits", type := .long, accessFlags := 26, slot := 6, constantValue := 0 }, { name := "twoToTheDoubleScaleUp", type := .double, accessFlags := 8, slot := 7, constantValue := 0 }, { name := "twoToTheDoubleScaleDown", type := .double, accessFlags := 8, slot := 8, constantValue := 0 }, { name := "$assertionsDisabled", type := .boolean, accessFlags := 4120, slot := 9, constantValue := 0 }]
  methods := #[k4m0, k4m1]
  instanceTypes := #[]
  staticTypes := #[.double, .double, .double, .double, .double, .long, .long, .double, .double, .boolean]
  resolved := Array.replicate 460 none
  statics := none }

def pool5 : Array CpInfo := pool [(1, u "java/lang/Cloneable"), (0, .class_ 1), (0, u "java/lang/Object"), (0, .class_ 3)] 3

/-- java/lang/Cloneable -/
def k5 : Class := { plain "java/lang/Cloneable" (some 0) with
  accessFlags := 1537
  interfaces := #[]
  cf := some (fileOf pool5 2 #[] #[] 1537 4 #[] #[])
  fields := #[]
  methods := #[]
  instanceTypes := #[]
  staticTypes := #[]
  resolved := Array.replicate 8 none
  statics := none }

def pool6 : Array CpInfo := pool [(1, u "java/io/Serializable"), (0, .class_ 1), (0, u "java/lang/Object"), (0, .class_ 3)] 3

/-- java/io/Serializable -/
def k6 : Class := { plain "java/io/Serializable" (some 0) with
  accessFlags := 1537
  interfaces := #[]
  cf := some (fileOf pool6 2 #[] #[] 1537 4 #[] #[])
  fields := #[]
  methods := #[]
  instanceTypes := #[]
  staticTypes := #[]
  resolved := Array.replicate 8 none
  statics := none }

/-- the primitive byte -/
def k7 : Class := { plain "byte" none with kind := .primitive 'B', accessFlags := 0x411 }
/-- [B -/
def k8 : Class := { plain "[B" (some 0) with kind := .array 7 .byte, interfaces := #[5, 6], accessFlags := 1041 }

/-- the primitive int -/
def k9 : Class := { plain "int" none with kind := .primitive 'I', accessFlags := 0x411 }
/-- [I -/
def k10 : Class := { plain "[I" (some 0) with kind := .array 9 .int, interfaces := #[5, 6], accessFlags := 1041 }

/-- the primitive long -/
def k11 : Class := { plain "long" none with kind := .primitive 'J', accessFlags := 0x411 }
/-- [J -/
def k12 : Class := { plain "[J" (some 0) with kind := .array 11 .long, interfaces := #[5, 6], accessFlags := 1041 }

def heap : Heap := #[]
def classes : Array Class := #[k0, k1, k2, k3, k4, k5, k6, k7, k8, k9, k10, k11, k12]
def interned : List (Array UInt16 × Addr) := []
def slotsUsed : Nat := 0
def theMethod : MethodId := ⟨1, 1⟩
def args0 : Array Value := #[.int 5, .long 3, .long 4]
def aboutOver (below : List Frame) : State where
  vm := { classes := classes, interned := interned.toArray }
  heap := heap
  slotsUsed := slotsUsed
  threads := #[{ frames := .invoking theMethod args0 :: below }]
def below0 : List Frame := [.native { method := ⟨0, 0⟩, args := #[] }]
def about1 : State := aboutOver below0
def p0 : Program := .bare "" "" ""
def e0 : Env := launch0.env 0 0 0
theorem w_frames : about1.frames = Frame.invoking theMethod args0 :: below0 := rfl
set_option maxRecDepth 65536 in
theorem w_args : argsFit about1.vm theMethod args0 = true := by decide +kernel
set_option maxRecDepth 65536 in
theorem w_heap : heapFits about1 = true := by decide +kernel
set_option maxRecDepth 65536 in
theorem w_runnable : about1.curStatus? = some .runnable := by decide +kernel
set_option maxRecDepth 65536 in
theorem w_alone : about1.alone = true := by decide +kernel
set_option maxRecDepth 65536 in
theorem w_named : about1.methodNamed? x = some theMethod := by decide +kernel
set_option maxRecDepth 65536 in
theorem w_hears : about1.hears theMethod below0 = true := by decide +kernel
set_option maxRecDepth 65536 in
theorem w_ripe : about1.ripe theMethod args0 below0 = true := by decide +kernel
theorem w_running : about1.status = .running := rfl
set_option maxRecDepth 65536 in
theorem w_room : about1.hasRoom e0.platform room_1 = true :=
  launch0.hasRoom_least _ room_1 (by decide +kernel) (by decide +kernel) (by decide +kernel) (by decide +kernel) (by decide +kernel) (by decide +kernel)
theorem allAtoms_all (ts : List Jvm.Cond) (a : Array Jvm.Value) (st : Jvm.State) : (allAtoms ts).before a st = ts.all (fun c => c.before a st) := by
  induction ts with
  | nil => rfl
  | cons c t ih =>
    show (Jvm.Cond.and c (allAtoms t)).before a st = _
    rw [Jvm.Cond.before_and, ih, List.all_cons]
def words1 : List Jvm.Cond := Jvm.Cond.code x code maxLocals ret :: tables_1
/-- a 'code' word, met by the world's own term for the bytes: nothing is compared byte by byte -/
theorem code_word {y : MethodName} {bytes : ByteArray} {mx : Nat} {rt : Option FieldType} {a : Array Value} {s : State} {m : MethodId} {meth : Method} {c : Code} (h1 : s.methodNamed? y = some m) (h2 : s.vm.method? m = some meth) (h3 : meth.code = some c) (h4 : c.code = bytes)
    (h5 : (c.maxLocals == mx && c.exceptionTable.isEmpty && decide (c.maxStack ≤ mostOperands) && decide (meth.sig.returnType = rt) && !meth.locks && decide (parseMethodDescriptor y.desc = some meth.sig)) = true) : (Jvm.Cond.code y bytes mx rt).before a s = true := by
  simp only [Bool.and_eq_true, beq_iff_eq, Bool.not_eq_true', decide_eq_true_eq] at h5
  obtain ⟨⟨⟨⟨⟨g1, g2⟩, g3⟩, g4⟩, g5⟩, g6⟩ := h5
  simp [Cond.before, Cond.holds, Cond.value, h1, h2, h3, h4, g1, g2, g3, g4, g5, g6]
def isCode : Jvm.Cond → Bool
  | .code _ _ _ _ => true
  | _ => false
theorem all_split {L : List Jvm.Cond} {P : Jvm.Cond → Bool} (h1 : L.all (fun c => isCode c || P c) = true) (h2 : ∀ c ∈ L.filter isCode, P c = true) : L.all P = true := by
  refine List.all_eq_true.mpr fun c hc => ?_
  have h := List.all_eq_true.mp h1 c hc
  rcases Bool.eq_false_or_eq_true (isCode c) with hi | hi
  · exact h2 c (List.mem_filter.mpr ⟨hc, hi⟩)
  · simpa [hi] using h
set_option maxRecDepth 65536 in
theorem w_c0 : (Jvm.Cond.code x code maxLocals ret).before args0 about1 = true := code_word (m := ⟨1, 1⟩) (meth := k1m1) (c := k1c1) (by decide +kernel) rfl rfl rfl (by decide +kernel)
set_option maxRecDepth 65536 in
theorem w_c1 : (Jvm.Cond.code ({ cls := "com/example/graphweft/graphweft/RangeMaxTree", name := "<init>", desc := "()V" } : Jvm.MethodName) prog_32_method_1_code (1 : Nat) (Option.none : Option Jvm.ClassFile.FieldType)).before args0 about1 = true := code_word (m := ⟨2, 0⟩) (meth := k2m0) (c := k2c0) (by decide +kernel) rfl rfl rfl (by decide +kernel)
set_option maxRecDepth 65536 in
theorem w_c2 : (Jvm.Cond.code ({ cls := "java/lang/Object", name := "<init>", desc := "()V" } : Jvm.MethodName) object_method_1_code (1 : Nat) (Option.none : Option Jvm.ClassFile.FieldType)).before args0 about1 = true := code_word (m := ⟨0, 0⟩) (meth := k0m0) (c := k0c0) (by decide +kernel) rfl rfl rfl (by decide +kernel)
set_option maxRecDepth 65536 in
theorem w_c3 : (Jvm.Cond.code ({ cls := "com/example/graphweft/graphweft/RangeMaxTree", name := "clear", desc := "()V" } : Jvm.MethodName) prog_32_method_2_code (1 : Nat) (Option.none : Option Jvm.ClassFile.FieldType)).before args0 about1 = true := code_word (m := ⟨2, 1⟩) (meth := k2m1) (c := k2c1) (by decide +kernel) rfl rfl rfl (by decide +kernel)
set_option maxRecDepth 65536 in
theorem w_c4 : (Jvm.Cond.code ({ cls := "com/example/graphweft/graphweft/RangeMaxTree", name := "size", desc := "()I" } : Jvm.MethodName) prog_32_method_3_code (1 : Nat) (Option.some Jvm.ClassFile.FieldType.int)).before args0 about1 = true := code_word (m := ⟨2, 2⟩) (meth := k2m2) (c := k2c2) (by decide +kernel) rfl rfl rfl (by decide +kernel)
set_option maxRecDepth 65536 in
theorem w_c5 : (Jvm.Cond.code ({ cls := "com/example/graphweft/graphweft/RangeMaxTree", name := "next", desc := "()I" } : Jvm.MethodName) prog_32_method_9_code (2 : Nat) (Option.some Jvm.ClassFile.FieldType.int)).before args0 about1 = true := code_word (m := ⟨2, 6⟩) (meth := k2m6) (c := k2c6) (by decide +kernel) rfl rfl rfl (by decide +kernel)
set_option maxRecDepth 65536 in
theorem w_c6 : (Jvm.Cond.code ({ cls := "com/example/graphweft/graphweft/RangeMaxTree", name := "index", desc := "()I" } : Jvm.MethodName) prog_32_method_5_code (5 : Nat) (Option.some Jvm.ClassFile.FieldType.int)).before args0 about1 = true := code_word (m := ⟨2, 4⟩) (meth := k2m4) (c := k2c4) (by decide +kernel) rfl rfl rfl (by decide +kernel)
set_option maxRecDepth 65536 in
theorem w_c7 : (Jvm.Cond.code ({ cls := "java/util/Arrays", name := "fill", desc := "([JIIJ)V" } : Jvm.MethodName) jdk_65_method_102_code (6 : Nat) (Option.none : Option Jvm.ClassFile.FieldType)).before args0 about1 = true := code_word (m := ⟨3, 2⟩) (meth := k3m2) (c := k3c2) (by decide +kernel) rfl rfl rfl (by decide +kernel)
set_option maxRecDepth 65536 in
theorem w_c8 : (Jvm.Cond.code ({ cls := "java/util/Arrays", name := "rangeCheck", desc := "(III)V" } : Jvm.MethodName) jdk_65_method_30_code (3 : Nat) (Option.none : Option Jvm.ClassFile.FieldType)).before args0 about1 = true := code_word (m := ⟨3, 1⟩) (meth := k3m1) (c := k3c1) (by decide +kernel) rfl rfl rfl (by decide +kernel)
set_option maxRecDepth 65536 in
theorem w_c9 : (Jvm.Cond.code ({ cls := "com/example/graphweft/graphweft/RangeMaxTree", name := "add", desc := "(J)V" } : Jvm.MethodName) prog_32_method_4_code (3 : Nat) (Option.none : Option Jvm.ClassFile.FieldType)).before args0 about1 = true := code_word (m := ⟨2, 3⟩) (meth := k2m3) (c := k2c3) (by decide +kernel) rfl rfl rfl (by decide +kernel)
set_option maxRecDepth 65536 in
theorem w_c10 : (Jvm.Cond.code ({ cls := "java/lang/Math", name := "max", desc := "(JJ)J" } : Jvm.MethodName) jdk_29_method_66_code (4 : Nat) (Option.some Jvm.ClassFile.FieldType.long)).before args0 about1 = true := code_word (m := ⟨4, 1⟩) (meth := k4m1) (c := k4c1) (by decide +kernel) rfl rfl rfl (by decide +kernel)
set_option maxRecDepth 65536 in
theorem w_c11 : (Jvm.Cond.code ({ cls := "com/example/graphweft/graphweft/RangeMaxTree", name := "find", desc := "(IIJ)V" } : Jvm.MethodName) prog_32_method_8_code (10 : Nat) (Option.none : Option Jvm.ClassFile.FieldType)).before args0 about1 = true := code_word (m := ⟨2, 5⟩) (meth := k2m5) (c := k2c5) (by decide +kernel) rfl rfl rfl (by decide +kernel)
def codes1 : List Jvm.Cond := [Jvm.Cond.code x code maxLocals ret, Jvm.Cond.code ({ cls := "com/example/graphweft/graphweft/RangeMaxTree", name := "<init>", desc := "()V" } : Jvm.MethodName) prog_32_method_1_code (1 : Nat) (Option.none : Option Jvm.ClassFile.FieldType), Jvm.Cond.code ({ cls := "java/lang/Object", name := "<init>", desc := "()V" } : Jvm.MethodName) object_method_1_code (1 : Nat) (Option.none : Option Jvm.ClassFile.FieldType), Jvm.Cond.code ({ cls := "com/example/graphweft/graphweft/RangeMaxTree", name := "clear", desc := "()V" } : Jvm.MethodName) prog_32_method_2_code (1 : Nat) (Option.none : Option Jvm.ClassFile.FieldType), Jvm.Cond.code ({ cls := "com/example/graphweft/graphweft/RangeMaxTree", name := "size", desc := "()I" } : Jvm.MethodName) prog_32_method_3_code (1 : Nat) (Option.some Jvm.ClassFile.FieldType.int), Jvm.Cond.code ({ cls := "com/example/graphweft/graphweft/RangeMaxTree", name := "next", desc := "()I" } : Jvm.MethodName) prog_32_method_9_code (2 : Nat) (Option.some Jvm.ClassFile.FieldType.int), Jvm.Cond.code ({ cls := "com/example/graphweft/graphweft/RangeMaxTree", name := "index", desc := "()I" } : Jvm.MethodName) prog_32_method_5_code (5 : Nat) (Option.some Jvm.ClassFile.FieldType.int), Jvm.Cond.code ({ cls := "java/util/Arrays", name := "fill", desc := "([JIIJ)V" } : Jvm.MethodName) jdk_65_method_102_code (6 : Nat) (Option.none : Option Jvm.ClassFile.FieldType), Jvm.Cond.code ({ cls := "java/util/Arrays", name := "rangeCheck", desc := "(III)V" } : Jvm.MethodName) jdk_65_method_30_code (3 : Nat) (Option.none : Option Jvm.ClassFile.FieldType), Jvm.Cond.code ({ cls := "com/example/graphweft/graphweft/RangeMaxTree", name := "add", desc := "(J)V" } : Jvm.MethodName) prog_32_method_4_code (3 : Nat) (Option.none : Option Jvm.ClassFile.FieldType), Jvm.Cond.code ({ cls := "java/lang/Math", name := "max", desc := "(JJ)J" } : Jvm.MethodName) jdk_29_method_66_code (4 : Nat) (Option.some Jvm.ClassFile.FieldType.long), Jvm.Cond.code ({ cls := "com/example/graphweft/graphweft/RangeMaxTree", name := "find", desc := "(IIJ)V" } : Jvm.MethodName) prog_32_method_8_code (10 : Nat) (Option.none : Option Jvm.ClassFile.FieldType)]
set_option maxRecDepth 65536 in
theorem codes_eq : words1.filter isCode = codes1 := rfl
theorem w_codes : ∀ c ∈ words1.filter isCode, c.before args0 about1 = true := by
  rw [codes_eq]
  intro c hc
  simp only [codes1, List.mem_cons, List.not_mem_nil, or_false] at hc
  rcases hc with rfl | rfl | rfl | rfl | rfl | rfl | rfl | rfl | rfl | rfl | rfl | rfl
  · exact w_c0
  · exact w_c1
  · exact w_c2
  · exact w_c3
  · exact w_c4
  · exact w_c5
  · exact w_c6
  · exact w_c7
  · exact w_c8
  · exact w_c9
  · exact w_c10
  · exact w_c11
set_option maxRecDepth 65536 in
theorem w_t1 : (words1.take 24).all (fun c => isCode c || c.before args0 about1) = true := by decide +kernel
set_option maxRecDepth 65536 in
theorem w_t2 : ((words1.drop 24).take 24).all (fun c => isCode c || c.before args0 about1) = true := by decide +kernel
set_option maxRecDepth 65536 in
theorem w_t3 : (((words1.drop 24).drop 24).take 24).all (fun c => isCode c || c.before args0 about1) = true := by decide +kernel
set_option maxRecDepth 65536 in
theorem w_t4 : (((words1.drop 24).drop 24).drop 24).all (fun c => isCode c || c.before args0 about1) = true := by decide +kernel
theorem w_tables : (allAtoms (Jvm.Cond.code x code maxLocals ret :: tables_1)).before args0 about1 = true := by
  rw [allAtoms_all]
  show words1.all (fun c => c.before args0 about1) = true
  refine all_split ?_ w_codes
  rw [← List.take_append_drop 24 words1, List.all_append, w_t1, ← List.take_append_drop 24 (words1.drop 24), List.all_append, w_t2, ← List.take_append_drop 24 ((words1.drop 24).drop 24), List.all_append, w_t3, w_t4]
  rfl
set_option maxRecDepth 65536 in
theorem w_case : (Jvm.Cond.and given_1 narrow_1).before args0 about1 = true := by decide +kernel
theorem w_applies : (headSpec (Jvm.Cond.code x code maxLocals ret :: tables_1) room_1).applies x e0.platform about1 = true :=
  (Spec.applies_iff w_frames).mpr ⟨w_running, w_runnable, w_alone, w_named, w_hears, w_ripe, w_room, w_tables⟩
theorem atStart : AtStart classFile x code maxLocals ret World_1 tables_1 room_1 Calls_1 rest_1 Pre_1 launch0 p0 e0 about1 theMethod args0 below0 :=
  ⟨lists_1, trivial, launch0.admits_env _ _ _, launch0.least_env, fairChoices_fair.cas, fairChoices_fair.clock, w_frames, w_args, w_heap, w_applies, trivial, trivial, w_case⟩
end start1
theorem witness_1 : WitnessClaimed_1 := ⟨start1.p0, start1.e0, start1.about1, start1.theMethod, start1.args0, start1.below0, start1.atStart⟩
end Jvm.Pilot.@@N@@
