import JvmDerived
import JvmDerived.Pilot.@@N@@Statement
import JvmDerived.Pilot.@@N@@Code
set_option linter.unusedVariables false
set_option linter.unusedSimpArgs false
namespace Jvm.Pilot.@@N@@
open Jvm Jvm.ClassFile Sem Op Lib Jvm.Free Jvm.Stand Jvm.LawKit Jvm.RoadKit Bundle Jvm.Pilot.@@N@@.Jvm.D
section Own
variable {p : Program} {l : Launch} {e : Env} {R : Room} {s : State} {m : MethodId} {args : Array Value} {below : List Frame} {meth : Method} {c : Code} {T : State} {locs : List Loc} {cells slots : Nat} {Z : State} {a0 : Array Value} {h h' : Heap}
/-- from S the walk comes to the method's end, where Q holds of what is returned, the heap and the written places -/
def OEnds (p : Program) (e : Env) (below : List Frame) (s : State) (Q : Option Value → Heap → List Loc → Prop) (K N : Nat) (S : State) : Prop :=
  ∃ s₂ o, Steps p.tables e below S s₂ ∧ s₂.status = .running ∧ Ended s₂ below o ∧ ∃ v L, o = .returned v ∧ Q v s₂.heap L ∧ FrameEnd s o s₂ L K N
variable {Q Q' : Option Value → Heap → List Loc → Prop} {K N : Nat} {S S' : State}
theorem own_by (st : ∀ t, Steps p.tables e below S' t → Steps p.tables e below S t) (k : OEnds p e below s Q K N S') : OEnds p e below s Q K N S := by
  obtain ⟨a, o, h1, h2⟩ := k
  exact ⟨a, o, st _ h1, h2⟩
theorem own_tr (st : Steps p.tables e below S S') (k : OEnds p e below s Q K N S') : OEnds p e below s Q K N S := by
  obtain ⟨a, o, h1, h2⟩ := k
  exact ⟨a, o, st.trans h1, h2⟩
theorem own_mono (f : ∀ v h L, Q' v h L → Q v h L) (k : OEnds p e below s Q' K N S) : OEnds p e below s Q K N S := by
  obtain ⟨a, o, h1, h2, h3, v, L, h4, h5, h6⟩ := k
  exact ⟨a, o, h1, h2, h3, v, L, h4, f _ _ _ h5, h6⟩
theorem own_fin (X : Stand p l e R s m args below meth c T locs cells slots) (hlk : meth.locks = false) {v : Option Value} (hv : meth.sig.returnType = none → v = none) (hQ : Q v T.heap locs) (hK : cells ≤ K) (hN : slots ≤ N)
    (hst : ∀ fs, (∀ (f : JFrame) (acts : List Action), f.method = m → f.locked = none → f.entered = [] → (doReturn e (T.setTop f) acts v).1 = T.setFrames fs) → Steps p.tables e below S (T.setFrames fs)) : OEnds p e below s Q K N S := by
  obtain ⟨fs, hr, hrun, hended, hW, hsame⟩ := X.leave hv hlk
  exact ⟨_, _, hst fs hr, hrun, hended, _, _, rfl, hQ, ⟨_, rfl⟩, hW, hsame.mono hK hN⟩
theorem own_retI (X : Stand p l e R s m args below meth c T locs cells slots) (hx : p.tables.exec = Jvm.exec) (hlk : meth.locks = false) {pc : Nat} {Ls : Array Slot} {z : Int32} {rest : List Value} (hret : meth.sig.returnType = some .int) (hd : decode c.code pc = .ok (.ireturn, 1))
    (hQ : Q (some (.int z)) T.heap locs) (hK : cells ≤ K) (hN : slots ≤ N) : OEnds p e below s Q K N (T.setTop (mkF m pc Ls (.int z :: rest))) :=
  own_fin X hlk (fun q => by rw [hret] at q; cases q) hQ hK hN fun _ hr => retOut X hx hret rfl (Or.inl ⟨rfl, Or.inl rfl, _, rfl⟩) hd hr
theorem own_retN (X : Stand p l e R s m args below meth c T locs cells slots) (hx : p.tables.exec = Jvm.exec) (hlk : meth.locks = false) (t : FieldType) (ht : t = .boolean ∨ t = .byte ∨ t = .char ∨ t = .short) {pc : Nat} {Ls : Array Slot} {z : Int32} {rest : List Value} (hret : meth.sig.returnType = some t) (hd : decode c.code pc = .ok (.ireturn, 1))
    (hQ : Q (some (.int (nar t z))) T.heap locs) (hK : cells ≤ K) (hN : slots ≤ N) : OEnds p e below s Q K N (T.setTop (mkF m pc Ls (.int z :: rest))) :=
  own_fin X hlk (fun q => by rw [hret] at q; cases q) hQ hK hN fun _ hr => retN X hx hret ht hd hr
theorem own_retJ (X : Stand p l e R s m args below meth c T locs cells slots) (hx : p.tables.exec = Jvm.exec) (hlk : meth.locks = false) {pc : Nat} {Ls : Array Slot} {z : Int64} {rest : List Value} (hret : meth.sig.returnType = some .long) (hd : decode c.code pc = .ok (.lreturn, 1))
    (hQ : Q (some (.long z)) T.heap locs) (hK : cells ≤ K) (hN : slots ≤ N) : OEnds p e below s Q K N (T.setTop (mkF m pc Ls (.long z :: rest))) :=
  own_fin X hlk (fun q => by rw [hret] at q; cases q) hQ hK hN fun _ hr => retOut X hx hret rfl (Or.inr (Or.inl ⟨rfl, rfl, _, rfl⟩)) hd hr
theorem own_retA (X : Stand p l e R s m args below meth c T locs cells slots) (hx : p.tables.exec = Jvm.exec) (hlk : meth.locks = false) {t : FieldType} (ht : t.isReference = true) {pc : Nat} {Ls : Array Slot} {a : Addr} {rest : List Value} (hret : meth.sig.returnType = some t) (hn : narrow t (.ref a) = .ref a) (hd : decode c.code pc = .ok (.areturn, 1))
    (hQ : Q (some (.ref a)) T.heap locs) (hK : cells ≤ K) (hN : slots ≤ N) : OEnds p e below s Q K N (T.setTop (mkF m pc Ls (.ref a :: rest))) :=
  own_fin X hlk (fun q => by rw [hret] at q; cases q) hQ hK hN fun _ hr => retOut X hx hret hn (Or.inr (Or.inr (Or.inr (Or.inr ⟨rfl, ht, rfl⟩)))) hd hr
theorem own_retV (X : Stand p l e R s m args below meth c T locs cells slots) (hx : p.tables.exec = Jvm.exec) (hlk : meth.locks = false) {pc : Nat} {Ls : Array Slot} (hret : meth.sig.returnType = none) (hd : decode c.code pc = .ok (.return_, 1))
    (hQ : Q none T.heap locs) (hK : cells ≤ K) (hN : slots ≤ N) : OEnds p e below s Q K N (T.setTop (mkF m pc Ls [])) :=
  own_fin X hlk (fun _ => rfl) hQ hK hN fun _ hr => X.returnOut hx hret hd hr
/-- what a plain method leaves: its value, nothing written, the heap as it was -/
def QP (r : Value) (h0 : Heap) (v : Option Value) (h : Heap) (L : List Loc) : Prop := v = some r ∧ L = [] ∧ h = h0
theorem own_eq {r r' : Value} {h0 : Heap} (q : r = r') (k : OEnds p e below s (QP r' h0) K N S) : OEnds p e below s (QP r h0) K N S := by subst q; exact k
theorem own_lrem {g : JFrame} {target : State} (X : Stand p l e R s m args below meth c T locs cells slots) (hx : p.tables.exec = Jvm.exec) (hg : g.method = m) {x y : Int64} {rest : List Value} (hd : decode c.code g.pc = .ok (.lrem, 1)) (hs : g.stack = .long y :: .long x :: rest) (hy : y ≠ 0)
    (hr : Steps p.tables e below (T.setTop { g with pc := g.pc + 1, stack := .long (x % y) :: rest }) target) : Steps p.tables e below (T.setTop g) target := by
  have q : x - x / y * y = x % y := lrem_mod x y
  exact XS.lrem X.here hx hg hd hs hy (by rw [q]; exact hr)
/-- a call of a plain static method by its contract -/
theorem own_callP (X : Stand p l e R s m args below meth c T locs cells slots) (hx : p.tables.exec = Jvm.exec) (hZ : Z.Warmed39 s.vm) {own : String} {index : Nat} {y : MethodName} {bytes : ByteArray} {maxL : Nat} {ret : Option FieldType} {fr lo : Nat} {r : Value} {argsL rest : List Value} {g : JFrame}
    (hown : s.vm.findClass own = some m.cls) (w1 : (Cond.methodLink own index y).before a0 Z = true) (w2 : (Cond.static y).before a0 Z = true) (w3 : (Cond.initialized y.cls).before a0 Z = true) (w4 : (Cond.code y bytes maxL ret).before a0 Z = true)
    (hy : y.cls ≠ "java/lang/invoke/MethodHandle" ∧ y.cls ≠ "java/lang/invoke/VarHandle")
    (hM : MetFree l y (head1 [Cond.code y bytes maxL ret] ({ frames := fr, cells := 0, slots := 0, locals := lo } : Room)) (fun a U => a = argsL.toArray ∧ Z.Warmed39 U.vm ∧ U.heap = h) (fun _ _ _ _ _ => True) (fun _ U o U' => ∃ v L, o = .returned v ∧ QP r h v U'.heap L ∧ FrameEnd U o U' L 0 0))
    (eT : T.heap = h) (hg : g.method = m) (hsize : g.locals.size = c.maxLocals) (hlen : ∀ sig, parseMethodDescriptor y.desc = some sig → argsL.length = sig.parameters.length) (hstack : g.stack = argsL.reverse ++ rest) {W : Nat} (hW : 2 * g.monitorRoom + (rest.map fun v => v.category).sum ≤ W)
    (hd : decode c.code g.pc = .ok (.invokestatic index, 3)) (hf : fr + 1 ≤ R.frames) (hl : W + (maxL + 11) + lo ≤ R.locals) (hc : cells ≤ R.cells) (hs : slots ≤ R.slots) :
    ∃ T', Stand p l e R s m args below meth c T' locs cells slots ∧ T'.heap = h ∧ ∀ target, Steps p.tables e below (T'.setTop { g with pc := g.pc + 3, stack := r :: rest }) target → Steps p.tables e below (T.setTop g) target := by
  obtain ⟨_, _, ⟨T1, L1, k1, n1⟩, -, X1, ⟨Lc, hQ, l1, y1, z1⟩, st⟩ := Jvm.LawKit.callS X hx (y := y) hown (mvT hZ w1) (mvT hZ w2) (mvT hZ w3) (mvT hZ w4) hy (backOf (rm := ({ frames := fr, cells := 0, slots := 0, locals := lo } : Room)) (W := W) hM hZ w4 w3 hf hl) (g := g) hg hsize (argsL := argsL) (rest := rest) hlen hstack hW hd (fun _ _ => ⟨rfl, eT, hc, hs⟩)
  dsimp only [Pt.U, Pt.locs, Pt.cells, Pt.slots] at X1 l1 y1 z1 st hQ
  subst l1 y1 z1
  obtain ⟨rfl, rfl, e1⟩ := hQ
  rw [List.append_nil] at X1
  exact ⟨T1, X1, e1, st⟩
end Own
section Own2
variable {p : Program} {l : Launch} {e : Env} {R : Room} {s : State} {m : MethodId} {args : Array Value} {below : List Frame} {meth : Method} {c : Code} {T : State} {locs : List Loc} {cells slots : Nat} {Z : State} {a0 : Array Value} {h h' : Heap}
  {a b : Addr} {C : String} {sch : List (String × String)} {vs : List Value} {ws : List Addr} {sl : Nat} {v : Value}
/-- the object at a is exactly a C, and its fields (in the order of sch) hold vs -/
def Obj (Z : State) (h : Heap) (a : Addr) (C : String) (sch : List (String × String)) (vs : List Value) : Prop :=
  Exa Z h a C ∧ ∀ (i : Nat) (n d : String) (v : Value), sch[i]? = some (n, d) → vs[i]? = some v → Fld Z h a C n d v
def SchOk (Z : State) (a0 : Array Value) (C : String) (sch : List (String × String)) : Prop :=
  (∀ q ∈ sch, Laid Z a0 C C q.1 q.2) ∧ (∀ q ∈ sch, (parseFieldDescriptor q.2).isSome = true) ∧ (sch.map (·.1)).Nodup
theorem Obj.exa (O : Obj Z h a C sch vs) : Exa Z h a C := O.1
theorem Obj.lt (O : Obj Z h a C sch vs) : a < h.size := O.1.lt
theorem Obj.fld (O : Obj Z h a C sch vs) (i : Nat) {n d : String} {v : Value} (h1 : sch[i]? = some (n, d)) (h2 : vs[i]? = some v) : Fld Z h a C n d v := O.2 i n d v h1 h2
theorem Obj.ext (O : Obj Z h a C sch vs) (E : Ext h h') : Obj Z h' a C sch vs := ⟨O.1.ext E, fun i n d v h1 h2 => (O.2 i n d v h1 h2).ext E⟩
theorem Obj.other (O : Obj Z h b C sch vs) (W : Wr h h' a sl v) (q : b ≠ a) : Obj Z h' b C sch vs := ⟨O.1.wr W, fun i n d v h1 h2 => (O.2 i n d v h1 h2).other W (Or.inl q)⟩
theorem Obj.keep (O : Obj Z h a C sch vs) (K : Keep h h' ws) (q : a ∉ ws) : Obj Z h' a C sch vs := ⟨O.1.keep K, fun i n d v h1 h2 => (O.2 i n d v h1 h2).keep K q⟩
theorem sch_ne (S : SchOk Z a0 C sch) {i j : Nat} {n d n' d' : String} (hi : sch[i]? = some (n, d)) (hj : sch[j]? = some (n', d')) (ne : i ≠ j) : n ≠ n' := by
  intro q
  have h3 := S.2.2
  rw [List.nodup_iff_pairwise_ne, List.pairwise_iff_getElem] at h3
  have e1 : (sch.map (·.1))[i]? = some n := by rw [List.getElem?_map, hi]; rfl
  have e2 : (sch.map (·.1))[j]? = some n' := by rw [List.getElem?_map, hj]; rfl
  obtain ⟨l1, f1⟩ := List.getElem?_eq_some_iff.mp e1
  obtain ⟨l2, f2⟩ := List.getElem?_eq_some_iff.mp e2
  rcases Nat.lt_or_gt_of_ne ne with k | k
  · exact h3 i j l1 l2 k (by rw [f1, f2, q])
  · exact h3 j i l2 l1 k (by rw [f1, f2, q])
theorem sch_ty (S : SchOk Z a0 C sch) {i : Nat} {n d : String} (hi : sch[i]? = some (n, d)) : ∃ t, parseFieldDescriptor d = some t :=
  Option.isSome_iff_exists.mp (S.2.1 _ (List.mem_of_getElem? hi))
theorem Obj.set (O : Obj Z h a C sch vs) (S : SchOk Z a0 C sch) {n d : String} (W : Wr h h' a (Jvm.RoadKit.slotOf Z C n d) v) (i : Nat) (hi : sch[i]? = some (n, d)) (hl : i < vs.length) : Obj Z h' a C sch (vs.set i v) := by
  refine ⟨O.1.wr W, fun j n' d' w h1 h2 => ?_⟩
  by_cases q : j = i
  · subst q
    cases hi.symm.trans h1
    rw [List.getElem?_set_self hl] at h2
    cases h2
    exact Fld.same W (O.2 j n d _ hi (List.getElem?_eq_getElem hl))
  · rw [List.getElem?_set_ne (Ne.symm q)] at h2
    obtain ⟨t, ht⟩ := sch_ty S hi
    obtain ⟨t', ht'⟩ := sch_ty S h1
    have L1 : Laid Z a0 C C n' d' := S.1 (n', d') (List.mem_of_getElem? h1)
    have L2 : Laid Z a0 C C n d := S.1 (n, d) (List.mem_of_getElem? hi)
    exact Fld.other W (O.2 j n' d' w h1 h2) (Or.inr (slot_ne L1 L2 (sch_ne S h1 hi q) ht' ht))
theorem Obj.new (S : SchOk Z a0 C sch) (A : Exa Z h a C) (D : ∀ {O nm d : String} {ty : FieldType}, Laid Z a0 C O nm d → parseFieldDescriptor d = some ty → Fld Z h a O nm d (defaultValue ty)) (tys : List FieldType) (ht : sch.map (fun q => parseFieldDescriptor q.2) = tys.map some) : Obj Z h a C sch (tys.map defaultValue) := by
  refine ⟨A, fun i n d v h1 h2 => ?_⟩
  rw [List.getElem?_map] at h2
  have e1 : (sch.map (fun q => parseFieldDescriptor q.2))[i]? = some (parseFieldDescriptor d) := by rw [List.getElem?_map, h1]; rfl
  rw [ht, List.getElem?_map] at e1
  cases hq : tys[i]? with
  | none => rw [hq] at e1; cases e1
  | some t =>
    rw [hq] at e1 h2
    cases h2
    exact D (S.1 _ (List.mem_of_getElem? h1)) (Option.some.inj e1).symm
/-- an array of n places whose i-th holds f i -/
def FA (Z : State) (h : Heap) (a : Addr) (ty : FieldType) (n : Nat) (f : Nat → Value) : Prop :=
  ∃ c : Cell, Arr Z h a c ty ∧ c.slots.size = n ∧ n < 2 ^ 31 ∧ ∀ i, i < n → c.slots[i]? = some (f i)
variable {ty ty' : FieldType} {n n' : Nat} {f f' : Nat → Value}
theorem FA.lt (F : FA Z h a ty n f) : a < h.size := by obtain ⟨c, A, -⟩ := F; exact A.lt
theorem FA.ext (F : FA Z h a ty n f) (E : Ext h h') : FA Z h' a ty n f := by obtain ⟨c, A, r⟩ := F; exact ⟨c, A.ext E, r⟩
theorem FA.other (F : FA Z h b ty n f) (W : Wr h h' a sl v) (q : b ≠ a) : FA Z h' b ty n f := by obtain ⟨c, A, r⟩ := F; exact ⟨c, A.other W q, r⟩
theorem FA.keep (F : FA Z h a ty n f) (K : Keep h h' ws) (q : a ∉ ws) : FA Z h' a ty n f := by obtain ⟨c, A, r⟩ := F; exact ⟨c, ⟨K.2.1 _ _ A.1 q, A.2⟩, r⟩
theorem FA.congr (F : FA Z h a ty n f) (q : ∀ i, i < n → f i = f' i) : FA Z h a ty n f' := by
  obtain ⟨c, A, r1, r2, r3⟩ := F
  exact ⟨c, A, r1, r2, fun i hi => by rw [r3 i hi, q i hi]⟩
theorem FA.new {k : ClassId} {z : Int32} (A : Arr Z h a (newA k ty z) ty) (q : ¬ z < 0) (hn : z.toNatClampNeg = n) {d : Value} (hd : defaultValue ty = d) : FA Z h a ty n (fun _ => d) := by
  subst hn hd
  refine ⟨_, A, sz_new _ _ _, (back32 q).2, fun i hi => ?_⟩
  show (Array.replicate z.toNatClampNeg (defaultValue ty))[i]? = _
  simp [hi]
theorem FA.set (F : FA Z h a ty n f) {k : Nat} (W : Wr h h' a k v) : FA Z h' a ty n (fun i => if i = k then v else f i) := by
  obtain ⟨c, A, r1, r2, r3⟩ := F
  refine ⟨c.setSlot k v, A.same W, by rw [sz_set]; exact r1, r2, fun i hi => ?_⟩
  show (c.slots.setIfInBounds k v)[i]? = _
  by_cases q : i = k
  · subst q; simp [r1, hi]
  · rw [Array.getElem?_setIfInBounds_ne (Ne.symm q), r3 i hi]; simp [q]
theorem FA.ne_ty (F : FA Z h a ty n f) (G : FA Z h b ty' n' f') (q : ty ≠ ty') : a ≠ b := fun e => by
  subst e
  obtain ⟨c, A, -⟩ := F
  obtain ⟨c', A', -⟩ := G
  cases A.1.symm.trans A'.1
  obtain ⟨-, k1, j1, comp, j2⟩ := A.2.1
  obtain ⟨-, k2, i1, comp', i2⟩ := A'.2.1
  cases j1.symm.trans i1
  rw [j2] at i2
  cases i2
  exact q rfl
theorem Obj.ne_fa {kk : Nat} (O : Obj Z h a C sch vs) (wi : (Cond.instantiable C kk).before a0 Z = true) (F : FA Z h b ty n f) : a ≠ b := by
  obtain ⟨c, A, -⟩ := F
  exact ne_arr O.1 wi A
theorem nat_at {j : Int32} {k : Nat} (hk : j.toInt = (k : Int)) : j.toNatClampNeg = k ∧ ¬ j < 0 := by
  refine ⟨by show j.toInt.toNat = k; rw [hk]; rfl, fun q => ?_⟩
  rw [Int32.lt_iff_toInt_lt, hk] at q
  have : (0 : Int32).toInt = 0 := by decide
  omega
theorem inb {j : Int32} {k : Nat} {c : Cell} (hk : j.toInt = (k : Int)) (hn : c.slots.size = n) (hl : k < n) : ¬ (j < 0 ∨ c.slots.size ≤ j.toNatClampNeg) := by
  obtain ⟨h1, h2⟩ := nat_at hk
  rw [h1, hn]
  rintro (q | q)
  · exact h2 q
  · omega
theorem own_laload (X : Stand p l e R s m args below meth c T locs cells slots) (hx : p.tables.exec = Jvm.exec) (hZ : Z.Warmed39 s.vm) (eT : T.heap = h) (F : FA Z h a .long n f) {j : Int32} (k : Nat) (hk : j.toInt = (k : Int)) (hl : k < n) (hv : f k = v)
    {g : JFrame} (hg : g.method = m) {rest : List Value} (hs : g.stack = .int j :: .ref a :: rest) (hd : decode c.code g.pc = .ok (.laload, 1)) : ∀ target, Steps p.tables e below (T.setTop { g with pc := g.pc + 1, stack := v :: rest }) target → Steps p.tables e below (T.setTop g) target := by
  obtain ⟨cl, A, r1, r2, r3⟩ := F
  exact fun t k' => X.laload hx (by rw [eT]; exact A.1) (State.isArrayOf_alike hZ.alike A.2.1) A.2.2 (inb hk r1 hl) (by rw [(nat_at hk).1, r3 k hl, hv]) hg hs hd t k'
theorem own_iaload (X : Stand p l e R s m args below meth c T locs cells slots) (hx : p.tables.exec = Jvm.exec) (hZ : Z.Warmed39 s.vm) (eT : T.heap = h) (F : FA Z h a .int n f) {j : Int32} (k : Nat) (hk : j.toInt = (k : Int)) (hl : k < n) (hv : f k = v)
    {g : JFrame} (hg : g.method = m) {rest : List Value} (hs : g.stack = .int j :: .ref a :: rest) (hd : decode c.code g.pc = .ok (.iaload, 1)) : ∀ target, Steps p.tables e below (T.setTop { g with pc := g.pc + 1, stack := v :: rest }) target → Steps p.tables e below (T.setTop g) target := by
  obtain ⟨cl, A, r1, r2, r3⟩ := F
  exact fun t k' => X.iaload hx (by rw [eT]; exact A.1) (State.isArrayOf_alike hZ.alike A.2.1) A.2.2 (inb hk r1 hl) (by rw [(nat_at hk).1, r3 k hl, hv]) hg hs hd t k'
theorem own_baload (X : Stand p l e R s m args below meth c T locs cells slots) (hx : p.tables.exec = Jvm.exec) (hZ : Z.Warmed39 s.vm) (eT : T.heap = h) (F : FA Z h a .byte n f) {j : Int32} (k : Nat) (hk : j.toInt = (k : Int)) (hl : k < n) (hv : f k = v)
    {g : JFrame} (hg : g.method = m) {rest : List Value} (hs : g.stack = .int j :: .ref a :: rest) (hd : decode c.code g.pc = .ok (.baload, 1)) : ∀ target, Steps p.tables e below (T.setTop { g with pc := g.pc + 1, stack := v :: rest }) target → Steps p.tables e below (T.setTop g) target := by
  obtain ⟨cl, A, r1, r2, r3⟩ := F
  exact fun t k' => X.baloadBytes hx (by rw [eT]; exact A.1) (State.isArrayOf_alike hZ.alike A.2.1) A.2.2 (inb hk r1 hl) (by rw [(nat_at hk).1, r3 k hl, hv]) hg hs hd t k'
theorem own_aaload (X : Stand p l e R s m args below meth c T locs cells slots) (hx : p.tables.exec = Jvm.exec) (hZ : Z.Warmed39 s.vm) (eT : T.heap = h) (F : FA Z h a ty n f) (hty : ty.isReference = true) {j : Int32} (k : Nat) (hk : j.toInt = (k : Int)) (hl : k < n) (hv : f k = v)
    {g : JFrame} (hg : g.method = m) {rest : List Value} (hs : g.stack = .int j :: .ref a :: rest) (hd : decode c.code g.pc = .ok (.aaload, 1)) : ∀ target, Steps p.tables e below (T.setTop { g with pc := g.pc + 1, stack := v :: rest }) target → Steps p.tables e below (T.setTop g) target := by
  obtain ⟨cl, A, r1, r2, r3⟩ := F
  exact fun t k' => X.aaload hx (by rw [eT]; exact A.1) (State.isArrayOf_alike hZ.alike A.2.1) hty A.2.2 (inb hk r1 hl) (by rw [(nat_at hk).1, r3 k hl, hv]) hg hs hd t k'
theorem own_len (X : Stand p l e R s m args below meth c T locs cells slots) (hx : p.tables.exec = Jvm.exec) (hZ : Z.Warmed39 s.vm) (eT : T.heap = h) (F : FA Z h a ty n f) {z : Int32} (hz : n.toInt32 = z)
    {g : JFrame} (hg : g.method = m) {rest : List Value} (hs : g.stack = .ref a :: rest) (hd : decode c.code g.pc = .ok (.arraylength, 1)) : ∀ target, Steps p.tables e below (T.setTop { g with pc := g.pc + 1, stack := .int z :: rest }) target → Steps p.tables e below (T.setTop g) target := by
  obtain ⟨cl, A, r1, r2, r3⟩ := F
  refine fun t k' => X.arraylength hx (by rw [eT]; exact A.1) (State.isArrayOf_alike hZ.alike A.2.1) hg hs hd t ?_
  rw [r1, hz]; exact k'
theorem own_iastore (X : Stand p l e R s m args below meth c T locs cells slots) (hx : p.tables.exec = Jvm.exec) (hZ : Z.Warmed39 s.vm) (eT : T.heap = h) (F : FA Z h a .int n f) {j x : Int32} (k : Nat) (hk : j.toInt = (k : Int)) (hl : k < n)
    {g : JFrame} (hg : g.method = m) {rest : List Value} (hs : g.stack = .int x :: .int j :: .ref a :: rest) (hd : decode c.code g.pc = .ok (.iastore, 1)) :
    ∃ T' h', Stand p l e R s m args below meth c T' (locs ++ [⟨a, k⟩]) cells slots ∧ T'.heap = h' ∧ Wr h h' a k (.int x) ∧ ∀ target, Steps p.tables e below (T'.setTop { g with pc := g.pc + 1, stack := rest }) target → Steps p.tables e below (T.setTop g) target := by
  obtain ⟨cl, A, r1, r2, r3⟩ := F
  have q := stI X hx hZ eT A (x := x) (inb hk r1 hl) hg hs hd
  rw [(nat_at hk).1] at q
  exact q
theorem own_lastore (X : Stand p l e R s m args below meth c T locs cells slots) (hx : p.tables.exec = Jvm.exec) (hZ : Z.Warmed39 s.vm) (eT : T.heap = h) (F : FA Z h a .long n f) {j : Int32} {x : Int64} (k : Nat) (hk : j.toInt = (k : Int)) (hl : k < n)
    {g : JFrame} (hg : g.method = m) {rest : List Value} (hs : g.stack = .long x :: .int j :: .ref a :: rest) (hd : decode c.code g.pc = .ok (.lastore, 1)) :
    ∃ T' h', Stand p l e R s m args below meth c T' (locs ++ [⟨a, k⟩]) cells slots ∧ T'.heap = h' ∧ Wr h h' a k (.long x) ∧ ∀ target, Steps p.tables e below (T'.setTop { g with pc := g.pc + 1, stack := rest }) target → Steps p.tables e below (T.setTop g) target := by
  obtain ⟨cl, A, r1, r2, r3⟩ := F
  have q := stJ X hx hZ eT A (x := x) (inb hk r1 hl) hg hs hd
  rw [(nat_at hk).1] at q
  exact q
theorem own_bastore (X : Stand p l e R s m args below meth c T locs cells slots) (hx : p.tables.exec = Jvm.exec) (hZ : Z.Warmed39 s.vm) (eT : T.heap = h) (F : FA Z h a .byte n f) {j x : Int32} (k : Nat) (hk : j.toInt = (k : Int)) (hl : k < n)
    {g : JFrame} (hg : g.method = m) {rest : List Value} (hs : g.stack = .int x :: .int j :: .ref a :: rest) (hd : decode c.code g.pc = .ok (.bastore, 1)) :
    ∃ T' h', Stand p l e R s m args below meth c T' (locs ++ [⟨a, k⟩]) cells slots ∧ T'.heap = h' ∧ Wr h h' a k (.int (nar .byte x)) ∧ ∀ target, Steps p.tables e below (T'.setTop { g with pc := g.pc + 1, stack := rest }) target → Steps p.tables e below (T.setTop g) target := by
  obtain ⟨cl, A, r1, r2, r3⟩ := F
  have q := stB X hx hZ eT A (x := x) (inb hk r1 hl) hg hs hd
  rw [(nat_at hk).1] at q
  exact q
/-- the typed updates -/
def updL (f : Nat → Int64) (k : Nat) (x : Int64) : Nat → Int64 := fun i => if i = k then x else f i
def updI (f : Nat → Int32) (k : Nat) (x : Int32) : Nat → Int32 := fun i => if i = k then x else f i
theorem FA.setL {f : Nat → Int64} {x : Int64} (F : FA Z h a ty n (fun i => .long (f i))) {k : Nat} (W : Wr h h' a k (.long x)) : FA Z h' a ty n (fun i => .long (updL f k x i)) :=
  (F.set W).congr fun i _ => by by_cases q : i = k <;> simp [updL, q]
theorem FA.setI {f : Nat → Int32} {x : Int32} (F : FA Z h a ty n (fun i => .int (f i))) {k : Nat} (W : Wr h h' a k (.int x)) : FA Z h' a ty n (fun i => .int (updI f k x i)) :=
  (F.set W).congr fun i _ => by by_cases q : i = k <;> simp [updI, q]
/-- a call by a contract, whatever it writes or makes: static, virtual, a constructor's -/
theorem own_callS (X : Stand p l e R s m args below meth c T locs cells slots) (hx : p.tables.exec = Jvm.exec) (hZ : Z.Warmed39 s.vm) {own : String} {index : Nat} {y : MethodName} {bytes : ByteArray} {maxL : Nat} {ret : Option FieldType} {rm : Room} {Q : Option Value → Heap → List Loc → Prop} {argsL rest : List Value} {g : JFrame}
    (hown : s.vm.findClass own = some m.cls) (w1 : (Cond.methodLink own index y).before a0 Z = true) (w2 : (Cond.static y).before a0 Z = true) (w3 : (Cond.initialized y.cls).before a0 Z = true) (w4 : (Cond.code y bytes maxL ret).before a0 Z = true)
    (hy : y.cls ≠ "java/lang/invoke/MethodHandle" ∧ y.cls ≠ "java/lang/invoke/VarHandle")
    (hM : MetFree l y (head1 [Cond.code y bytes maxL ret] rm) (fun a U => a = argsL.toArray ∧ Z.Warmed39 U.vm ∧ U.heap = h) (fun _ _ _ _ _ => True) (fun _ U o U' => ∃ v L, o = .returned v ∧ Q v U'.heap L ∧ FrameEnd U o U' L rm.cells rm.slots))
    (eT : T.heap = h) (hg : g.method = m) (hsize : g.locals.size = c.maxLocals) (hlen : ∀ sig, parseMethodDescriptor y.desc = some sig → argsL.length = sig.parameters.length) (hstack : g.stack = argsL.reverse ++ rest) {W : Nat} (hW : 2 * g.monitorRoom + (rest.map fun v => v.category).sum ≤ W)
    (hd : decode c.code g.pc = .ok (.invokestatic index, 3)) (hf : rm.frames + 1 ≤ R.frames) (hl : W + (maxL + 11) + rm.locals ≤ R.locals) (hc : cells + rm.cells ≤ R.cells) (hs : slots + rm.slots ≤ R.slots) :
    ∃ v T' L h', Stand p l e R s m args below meth c T' (locs ++ L) (cells + rm.cells) (slots + rm.slots) ∧ T'.heap = h' ∧ Q v h' L ∧ Steps p.tables e below (T.setTop g) (T'.setTop { g with pc := g.pc + 3, stack := v.toList ++ rest }) := by
  obtain ⟨v, _, ⟨T1, L1, k1, n1⟩, -, X1, ⟨Lc, hQ, l1, y1, z1⟩, st⟩ := Jvm.LawKit.callS X hx (y := y) hown (mvT hZ w1) (mvT hZ w2) (mvT hZ w3) (mvT hZ w4) hy (backOf (rm := rm) (W := W) hM hZ w4 w3 hf hl) (g := g) hg hsize (argsL := argsL) (rest := rest) hlen hstack hW hd (fun _ _ => ⟨rfl, eT, hc, hs⟩)
  dsimp only [Pt.U, Pt.locs, Pt.cells, Pt.slots] at X1 l1 y1 z1 st hQ
  subst l1 y1 z1
  exact ⟨v, T1, Lc, _, X1, rfl, hQ, st _ (Steps.refl _)⟩
theorem own_callV (X : Stand p l e R s m args below meth c T locs cells slots) (hx : p.tables.exec = Jvm.exec) (hZ : Z.Warmed39 s.vm) {own : String} {index : Nat} {y : MethodName} {bytes : ByteArray} {maxL : Nat} {ret : Option FieldType} {rm : Room} {Q : Option Value → Heap → List Loc → Prop} {argsL rest : List Value} {g : JFrame}
    (hown : s.vm.findClass own = some m.cls) (w1 : (Cond.methodLink own index y).before a0 Z = true) (w2 : (Cond.declares y).before a0 Z = true) (w3 : (Cond.selects C y y).before a0 Z = true) (w4 : (Cond.instanceMethod y).before a0 Z = true) (w5 : (Cond.code y bytes maxL ret).before a0 Z = true) (w6 : (Cond.initialized y.cls).before a0 Z = true)
    (hy : y.cls ≠ "java/lang/invoke/MethodHandle" ∧ y.cls ≠ "java/lang/invoke/VarHandle") (E : Exa Z h b C)
    (hM : MetFree l y (head1 [Cond.code y bytes maxL ret] rm) (fun a U => a = (.ref b :: argsL).toArray ∧ Z.Warmed39 U.vm ∧ U.heap = h) (fun _ _ _ _ _ => True) (fun _ U o U' => ∃ v L, o = .returned v ∧ Q v U'.heap L ∧ FrameEnd U o U' L rm.cells rm.slots))
    (eT : T.heap = h) (hg : g.method = m) (hsize : g.locals.size = c.maxLocals) (hlen : ∀ sig, parseMethodDescriptor y.desc = some sig → argsL.length = sig.parameters.length) (hstack : g.stack = argsL.reverse ++ .ref b :: rest) {W : Nat} (hW : 2 * g.monitorRoom + (rest.map fun v => v.category).sum ≤ W)
    (hd : decode c.code g.pc = .ok (.invokevirtual index, 3)) (hf : rm.frames + 1 ≤ R.frames) (hl : W + (maxL + 11) + rm.locals ≤ R.locals) (hc : cells + rm.cells ≤ R.cells) (hs : slots + rm.slots ≤ R.slots) :
    ∃ v T' L h', Stand p l e R s m args below meth c T' (locs ++ L) (cells + rm.cells) (slots + rm.slots) ∧ T'.heap = h' ∧ Q v h' L ∧ Steps p.tables e below (T.setTop g) (T'.setTop { g with pc := g.pc + 3, stack := v.toList ++ rest }) := by
  obtain ⟨cq, kq, qa, qb, qc⟩ := isOf hZ eT E
  obtain ⟨v, _, ⟨T1, L1, k1, n1⟩, -, X1, ⟨Lc, hQ, l1, y1, z1⟩, st⟩ := X.virtualBack hx (y := y) (z := y) hown (mvT hZ w1) (mvT hZ w2) (notFace_of_selects (args := #[]) (mvT hZ w3)) (mvT hZ w3) (mvT hZ w4) hy (backOf (rm := rm) (W := W) hM hZ w5 w6 hf hl) qa qc (g := g) hg hsize (Steps.refl _) (argsL := argsL) (rest := rest) hlen hstack hW hd (fun _ _ => ⟨rfl, eT, hc, hs⟩)
  dsimp only [Pt.U, Pt.locs, Pt.cells, Pt.slots] at X1 l1 y1 z1 st hQ
  subst l1 y1 z1
  exact ⟨v, T1, Lc, _, X1, rfl, hQ, st⟩
theorem own_callI (X : Stand p l e R s m args below meth c T locs cells slots) (hx : p.tables.exec = Jvm.exec) (hZ : Z.Warmed39 s.vm) {own : String} {index : Nat} {y : MethodName} {bytes : ByteArray} {maxL : Nat} {rm : Room} {Q : Option Value → Heap → List Loc → Prop} {argsL rest : List Value} {g : JFrame} (hy1 : y.name = "<init>")
    (hown : s.vm.findClass own = some m.cls) (w1 : (Cond.methodLink own index y).before a0 Z = true) (w2 : (Cond.instanceMethod y).before a0 Z = true) (w3 : (Cond.code y bytes maxL none).before a0 Z = true) (w4 : (Cond.initialized y.cls).before a0 Z = true)
    (hy : y.cls ≠ "java/lang/invoke/MethodHandle" ∧ y.cls ≠ "java/lang/invoke/VarHandle")
    (hM : MetFree l y (head1 [Cond.code y bytes maxL none] rm) (fun a U => a = (.ref b :: argsL).toArray ∧ Z.Warmed39 U.vm ∧ U.heap = h) (fun _ _ _ _ _ => True) (fun _ U o U' => ∃ v L, o = .returned v ∧ Q v U'.heap L ∧ FrameEnd U o U' L rm.cells rm.slots))
    (eT : T.heap = h) (hg : g.method = m) (hsize : g.locals.size = c.maxLocals) (hlen : ∀ sig, parseMethodDescriptor y.desc = some sig → argsL.length = sig.parameters.length) (hstack : g.stack = argsL.reverse ++ .ref b :: rest) {W : Nat} (hW : 2 * g.monitorRoom + (rest.map fun v => v.category).sum ≤ W)
    (hd : decode c.code g.pc = .ok (.invokespecial index, 3)) (hf : rm.frames + 1 ≤ R.frames) (hl : W + (maxL + 11) + rm.locals ≤ R.locals) (hc : cells + rm.cells ≤ R.cells) (hs : slots + rm.slots ≤ R.slots) :
    ∃ v T' L h', Stand p l e R s m args below meth c T' (locs ++ L) (cells + rm.cells) (slots + rm.slots) ∧ T'.heap = h' ∧ Q v h' L ∧ Steps p.tables e below (T.setTop g) (T'.setTop { g with pc := g.pc + 3, stack := v.toList ++ rest }) := by
  obtain ⟨v, _, ⟨T1, L1, k1, n1⟩, -, X1, ⟨Lc, hQ, l1, y1, z1⟩, st⟩ := X.specialBack hx (y := y) hy1 hown (mvT hZ w1) (mvT hZ w2) (mvT hZ w3) hy (backOf (rm := rm) (W := W) hM hZ w3 w4 hf hl) (g := g) hg hsize (Steps.refl _) (a := b) (argsL := argsL) (rest := rest) hlen hstack hW hd (fun _ _ => ⟨rfl, eT, hc, hs⟩)
  dsimp only [Pt.U, Pt.locs, Pt.cells, Pt.slots] at X1 l1 y1 z1 st hQ
  subst l1 y1 z1
  exact ⟨v, T1, Lc, _, X1, rfl, hQ, st⟩
end Own2
section Own3
variable {p : Program} {l : Launch} {e : Env} {R : Room} {s : State} {m : MethodId} {args : Array Value} {below : List Frame} {meth : Method} {c : Code} {T : State} {locs : List Loc} {cells slots : Nat} {Z : State} {a0 : Array Value} {h h' : Heap} {a b : Addr} {C : String}
/-- a call of an instance method that writes nothing -/
theorem own_callR (X : Stand p l e R s m args below meth c T locs cells slots) (hx : p.tables.exec = Jvm.exec) (hZ : Z.Warmed39 s.vm) {own : String} {index : Nat} {y : MethodName} {bytes : ByteArray} {maxL : Nat} {ret : Option FieldType} {fr lo : Nat} {r : Value} {argsL rest : List Value} {g : JFrame}
    (hown : s.vm.findClass own = some m.cls) (w1 : (Cond.methodLink own index y).before a0 Z = true) (w2 : (Cond.declares y).before a0 Z = true) (w3 : (Cond.selects C y y).before a0 Z = true) (w4 : (Cond.instanceMethod y).before a0 Z = true) (w5 : (Cond.code y bytes maxL ret).before a0 Z = true) (w6 : (Cond.initialized y.cls).before a0 Z = true)
    (hy : y.cls ≠ "java/lang/invoke/MethodHandle" ∧ y.cls ≠ "java/lang/invoke/VarHandle") (E : Exa Z h b C)
    (hM : MetFree l y (head1 [Cond.code y bytes maxL ret] ({ frames := fr, cells := 0, slots := 0, locals := lo } : Room)) (fun a U => a = (.ref b :: argsL).toArray ∧ Z.Warmed39 U.vm ∧ U.heap = h) (fun _ _ _ _ _ => True) (fun _ U o U' => ∃ v L, o = .returned v ∧ QP r h v U'.heap L ∧ FrameEnd U o U' L 0 0))
    (eT : T.heap = h) (hg : g.method = m) (hsize : g.locals.size = c.maxLocals) (hlen : ∀ sig, parseMethodDescriptor y.desc = some sig → argsL.length = sig.parameters.length) (hstack : g.stack = argsL.reverse ++ .ref b :: rest) {W : Nat} (hW : 2 * g.monitorRoom + (rest.map fun v => v.category).sum ≤ W)
    (hd : decode c.code g.pc = .ok (.invokevirtual index, 3)) (hf : fr + 1 ≤ R.frames) (hl : W + (maxL + 11) + lo ≤ R.locals) (hc : cells ≤ R.cells) (hs : slots ≤ R.slots) :
    ∃ T', Stand p l e R s m args below meth c T' locs cells slots ∧ T'.heap = h ∧ ∀ target, Steps p.tables e below (T'.setTop { g with pc := g.pc + 3, stack := r :: rest }) target → Steps p.tables e below (T.setTop g) target := by
  obtain ⟨v, T1, L1, h1, X1, e1, ⟨rfl, rfl, q⟩, st⟩ := own_callV X hx hZ hown w1 w2 w3 w4 w5 w6 hy E (rm := ({ frames := fr, cells := 0, slots := 0, locals := lo } : Room)) hM eT hg hsize hlen hstack hW hd hf hl hc hs
  rw [List.append_nil] at X1
  exact ⟨T1, X1, e1.trans q, fun t k => st.trans k⟩
/-- a call of a private instance method by its contract -/
theorem own_callX (X : Stand p l e R s m args below meth c T locs cells slots) (hx : p.tables.exec = Jvm.exec) (hZ : Z.Warmed39 s.vm) {own : String} {index : Nat} {y : MethodName} {bytes : ByteArray} {maxL kk : Nat} {ret : Option FieldType} {rm : Room} {Q : Option Value → Heap → List Loc → Prop} {argsL rest : List Value} {g : JFrame}
    (hown : s.vm.findClass own = some m.cls) (w1 : (Cond.methodLink own index y).before a0 Z = true) (w2 : (Cond.instanceMethod y).before a0 Z = true) (w3 : (Cond.privateMethod y).before a0 Z = true) (w4 : (Cond.code y bytes maxL ret).before a0 Z = true) (w5 : (Cond.initialized y.cls).before a0 Z = true) (w6 : (Cond.instantiable y.cls kk).before a0 Z = true)
    (hy : y.cls ≠ "java/lang/invoke/MethodHandle" ∧ y.cls ≠ "java/lang/invoke/VarHandle") (E : Exa Z h b C)
    (hM : MetFree l y (head1 [Cond.code y bytes maxL ret] rm) (fun a U => a = (.ref b :: argsL).toArray ∧ Z.Warmed39 U.vm ∧ U.heap = h) (fun _ _ _ _ _ => True) (fun _ U o U' => ∃ v L, o = .returned v ∧ Q v U'.heap L ∧ FrameEnd U o U' L rm.cells rm.slots))
    (eT : T.heap = h) (hg : g.method = m) (hsize : g.locals.size = c.maxLocals) (hlen : ∀ sig, parseMethodDescriptor y.desc = some sig → argsL.length = sig.parameters.length) (hstack : g.stack = argsL.reverse ++ .ref b :: rest) {W : Nat} (hW : 2 * g.monitorRoom + (rest.map fun v => v.category).sum ≤ W)
    (hd : decode c.code g.pc = .ok (.invokevirtual index, 3)) (hf : rm.frames + 1 ≤ R.frames) (hl : W + (maxL + 11) + rm.locals ≤ R.locals) (hc : cells + rm.cells ≤ R.cells) (hs : slots + rm.slots ≤ R.slots) :
    ∃ v T' L h', Stand p l e R s m args below meth c T' (locs ++ L) (cells + rm.cells) (slots + rm.slots) ∧ T'.heap = h' ∧ Q v h' L ∧ Steps p.tables e below (T.setTop g) (T'.setTop { g with pc := g.pc + 3, stack := v.toList ++ rest }) := by
  have v2 : (Cond.instanceMethod y).before args s = true := mvT hZ w2
  have v4 : (Cond.code y bytes maxL ret).before args s = true := mvT hZ w4
  have v6 : (Cond.instantiable y.cls kk).before args s = true := mv hZ w6
  obtain ⟨mk, me, n1, n2, n3, n4⟩ := Cond.instanceMethod_spec v2
  obtain ⟨me', cM, n5, -, -, -, -, -, -, n6⟩ := Cond.code_spec n1 v4
  cases n2.symm.trans n5
  obtain ⟨cI, kI, i1, i2, -, i4, -⟩ := Cond.instantiable_spec v6
  cases (findClass_of_methodNamed n1).symm.trans i1
  have ni : kI.isInterface = false := by simp only [Bool.or_eq_false_iff] at i4; exact i4.1
  obtain ⟨cell, c1, c2⟩ := E.cell
  have pr := Cond.privateMethod_at (mvP hZ w3 (args := args)) mk me n1 n2
  obtain ⟨vm₁, X₁, s₁⟩ := X.invokevirtual hx hown (mvT hZ w1) n1 n2 n3 i2 ni hy (a := b) (cell := cell) (by rw [eT]; exact c1) c2 (selectMethod_private n2 pr) n2 n4 i2 ni (g := g) hg (argsL := argsL) (rest := rest) (hlen _ n6) hstack hd
  obtain ⟨v, ⟨T1, L1, k1, n1'⟩, X1, ⟨Lc, hQ, l1, y1, z1⟩, st⟩ := backOf (rm := rm) (W := W) hM hZ w4 w5 hf hl m meth c ⟨T.setVm vm₁, locs, cells, slots⟩ { g with stack := rest } (.invokevirtual index) mk (.ref b :: argsL).toArray X₁ hg hsize hd hW (X₁.named n1) ⟨rfl, eT, hc, hs⟩
  dsimp only [Pt.U, Pt.locs, Pt.cells, Pt.slots] at X1 l1 y1 z1 st hQ
  subst l1 y1 z1
  exact ⟨v, T1, Lc, _, X1, rfl, hQ, (s₁ _ fun acts => by rw [doInvoke_state]; exact Steps.refl _).trans st⟩
theorem own_callXR (X : Stand p l e R s m args below meth c T locs cells slots) (hx : p.tables.exec = Jvm.exec) (hZ : Z.Warmed39 s.vm) {own : String} {index : Nat} {y : MethodName} {bytes : ByteArray} {maxL kk : Nat} {ret : Option FieldType} {fr lo : Nat} {r : Value} {argsL rest : List Value} {g : JFrame}
    (hown : s.vm.findClass own = some m.cls) (w1 : (Cond.methodLink own index y).before a0 Z = true) (w2 : (Cond.instanceMethod y).before a0 Z = true) (w3 : (Cond.privateMethod y).before a0 Z = true) (w4 : (Cond.code y bytes maxL ret).before a0 Z = true) (w5 : (Cond.initialized y.cls).before a0 Z = true) (w6 : (Cond.instantiable y.cls kk).before a0 Z = true)
    (hy : y.cls ≠ "java/lang/invoke/MethodHandle" ∧ y.cls ≠ "java/lang/invoke/VarHandle") (E : Exa Z h b C)
    (hM : MetFree l y (head1 [Cond.code y bytes maxL ret] ({ frames := fr, cells := 0, slots := 0, locals := lo } : Room)) (fun a U => a = (.ref b :: argsL).toArray ∧ Z.Warmed39 U.vm ∧ U.heap = h) (fun _ _ _ _ _ => True) (fun _ U o U' => ∃ v L, o = .returned v ∧ QP r h v U'.heap L ∧ FrameEnd U o U' L 0 0))
    (eT : T.heap = h) (hg : g.method = m) (hsize : g.locals.size = c.maxLocals) (hlen : ∀ sig, parseMethodDescriptor y.desc = some sig → argsL.length = sig.parameters.length) (hstack : g.stack = argsL.reverse ++ .ref b :: rest) {W : Nat} (hW : 2 * g.monitorRoom + (rest.map fun v => v.category).sum ≤ W)
    (hd : decode c.code g.pc = .ok (.invokevirtual index, 3)) (hf : fr + 1 ≤ R.frames) (hl : W + (maxL + 11) + lo ≤ R.locals) (hc : cells ≤ R.cells) (hs : slots ≤ R.slots) :
    ∃ T', Stand p l e R s m args below meth c T' locs cells slots ∧ T'.heap = h ∧ ∀ target, Steps p.tables e below (T'.setTop { g with pc := g.pc + 3, stack := r :: rest }) target → Steps p.tables e below (T.setTop g) target := by
  obtain ⟨v, T1, L1, h1, X1, e1, ⟨rfl, rfl, q⟩, st⟩ := own_callX X hx hZ hown w1 w2 w3 w4 w5 w6 hy E (rm := ({ frames := fr, cells := 0, slots := 0, locals := lo } : Room)) hM eT hg hsize hlen hstack hW hd hf hl hc hs
  rw [List.append_nil] at X1
  exact ⟨T1, X1, e1.trans q, fun t k => st.trans k⟩
end Own3
theorem pd_pIZraB : parseMethodDescriptor "(IZ)[B" = some ⟨[.int, .boolean], some (.array .byte)⟩ := by decide +kernel
theorem d1_0 : decode prog_87_method_2_code 0 = .ok (.iload_n 1, 1) := by decide +kernel
theorem d1_1 : decode prog_87_method_2_code 1 = .ok (.ifCond .eq 10, 3) := by decide +kernel
theorem d1_4 : decode prog_87_method_2_code 4 = .ok (.ldc 9, 2) := by decide +kernel
theorem d1_6 : decode prog_87_method_2_code 6 = .ok (.iload_n 0, 1) := by decide +kernel
theorem d1_7 : decode prog_87_method_2_code 7 = .ok (.ior, 1) := by decide +kernel
theorem d1_8 : decode prog_87_method_2_code 8 = .ok (.goto 4, 3) := by decide +kernel
theorem d1_11 : decode prog_87_method_2_code 11 = .ok (.iload_n 0, 1) := by decide +kernel
theorem d1_12 : decode prog_87_method_2_code 12 = .ok (.istore_n 2, 1) := by decide +kernel
theorem d1_13 : decode prog_87_method_2_code 13 = .ok (.iconst 4, 1) := by decide +kernel
theorem d1_14 : decode prog_87_method_2_code 14 = .ok (.newarray .byte, 2) := by decide +kernel
theorem d1_16 : decode prog_87_method_2_code 16 = .ok (.astore_n 3, 1) := by decide +kernel
theorem d1_17 : decode prog_87_method_2_code 17 = .ok (.iconst 0, 1) := by decide +kernel
theorem d1_18 : decode prog_87_method_2_code 18 = .ok (.istore 4, 2) := by decide +kernel
theorem d1_20 : decode prog_87_method_2_code 20 = .ok (.iload 4, 2) := by decide +kernel
theorem d1_22 : decode prog_87_method_2_code 22 = .ok (.iconst 4, 1) := by decide +kernel
theorem d1_23 : decode prog_87_method_2_code 23 = .ok (.if_icmp .ge 26, 3) := by decide +kernel
theorem d1_26 : decode prog_87_method_2_code 26 = .ok (.aload_n 3, 1) := by decide +kernel
theorem d1_27 : decode prog_87_method_2_code 27 = .ok (.iload 4, 2) := by decide +kernel
theorem d1_29 : decode prog_87_method_2_code 29 = .ok (.iload_n 2, 1) := by decide +kernel
theorem d1_30 : decode prog_87_method_2_code 30 = .ok (.bipush 32, 2) := by decide +kernel
theorem d1_32 : decode prog_87_method_2_code 32 = .ok (.bipush 8, 2) := by decide +kernel
theorem d1_34 : decode prog_87_method_2_code 34 = .ok (.iload 4, 2) := by decide +kernel
theorem d1_36 : decode prog_87_method_2_code 36 = .ok (.iconst 1, 1) := by decide +kernel
theorem d1_37 : decode prog_87_method_2_code 37 = .ok (.iadd, 1) := by decide +kernel
theorem d1_38 : decode prog_87_method_2_code 38 = .ok (.imul, 1) := by decide +kernel
theorem d1_39 : decode prog_87_method_2_code 39 = .ok (.isub, 1) := by decide +kernel
theorem d1_40 : decode prog_87_method_2_code 40 = .ok (.iushr, 1) := by decide +kernel
theorem d1_41 : decode prog_87_method_2_code 41 = .ok (.i2b, 1) := by decide +kernel
theorem d1_42 : decode prog_87_method_2_code 42 = .ok (.bastore, 1) := by decide +kernel
theorem d1_43 : decode prog_87_method_2_code 43 = .ok (.iinc 4 1, 3) := by decide +kernel
theorem d1_46 : decode prog_87_method_2_code 46 = .ok (.goto (-26), 3) := by decide +kernel
theorem d1_49 : decode prog_87_method_2_code 49 = .ok (.aload_n 3, 1) := by decide +kernel
theorem d1_50 : decode prog_87_method_2_code 50 = .ok (.areturn, 1) := by decide +kernel
theorem pn_1 : plainName "com/example/fourfold/fourfold/xdr/FragmentHeader" = true := by first | (simp [plainName, overriddenIn]; done) | decide +kernel
theorem ef_1 (m : MethodId) (q0 : Int32) (q1 : Int32) : entryFrame m #[(.int q0), (.int q1)] 5 = mkF m 0 #[.val (.int q0), .val (.int q1), .unset, .unset, .unset] [] := by first | (simp [entryFrame, mkF, argsToLocals, Value.category]; done) | rfl
def hword (q0 q1 : Int32) : Int32 := if q1 = (0 : Int32) then q0 else ((-2147483648 : Int32) ||| q0)
def hdr (q0 q1 : Int32) (i : Nat) : Int32 := if i = 0 then nar .byte (((hword q0 q1).toUInt32 >>> ((24 : Int32) &&& 31).toUInt32).toInt32.toInt8.toInt32) else if i = 1 then nar .byte (((hword q0 q1).toUInt32 >>> ((16 : Int32) &&& 31).toUInt32).toInt32.toInt8.toInt32) else if i = 2 then nar .byte (((hword q0 q1).toUInt32 >>> ((8 : Int32) &&& 31).toUInt32).toInt32.toInt8.toInt32) else nar .byte (((hword q0 q1).toUInt32 >>> ((0 : Int32) &&& 31).toUInt32).toInt32.toInt8.toInt32)
def QH (Z : State) (q0 q1 : Int32) (h0 : Heap) (n0 : Nat) (v : Option Value) (h : Heap) (L : List Loc) : Prop := ∃ b : Addr, v = some (.ref b) ∧ Fr n0 L ∧ Keep h0 h [] ∧ h0.size ≤ b ∧ FA Z h b .byte 4 (fun i => .int (hdr q0 q1 i))
set_option maxRecDepth 65536 in
set_option maxHeartbeats 40000000 in
theorem rm_of (l : Launch) (Z : State) (a0 : Array Value) (hw : ∀ d ∈ tables_1, d.before a0 Z = true) (ws : List Jvm.Cond) (q0 : Int32) (q1 : Int32) (h0 : Heap) (n0 : Nat) (Z0 : n0 ≤ h0.size) :
    MetFree l (⟨"com/example/fourfold/fourfold/xdr/FragmentHeader", "of", "(IZ)[B"⟩ : MethodName) (head1 (Jvm.Cond.code (⟨"com/example/fourfold/fourfold/xdr/FragmentHeader", "of", "(IZ)[B"⟩ : MethodName) prog_87_method_2_code 5 (some (.array .byte)) :: ws) ({ frames := 0, cells := 1, slots := 4, locals := 0 } : Room)) (fun a_ U => a_ = #[(.int q0), (.int q1)] ∧ Z.Warmed39 U.vm ∧ U.heap = h0) (fun _ _ _ _ _ => True) (fun _ U o U' => ∃ v_ L_, o = .returned v_ ∧ QH Z q0 q1 h0 n0 v_ U'.heap L_ ∧ FrameEnd U o U' L_ ({ frames := 0, cells := 1, slots := 4, locals := 0 } : Room).cells ({ frames := 0, cells := 1, slots := 4, locals := 0 } : Room).slots) := by
  refine MetFree.of_bodySF (plainFor_of_name pn_1) hisR ?_
  intro p e s m args below meth c s₁ Bd hml0 hP hK
  obtain ⟨rfl, hZ, hh⟩ := hP
  have hx := Bd.exec
  have hby := Bd.bytes
  have hlk : meth.locks = false := Bd.notSynchronized
  have hml : c.maxLocals = 5 := hml0
  have hown : s.vm.findClass "com/example/fourfold/fourfold/xdr/FragmentHeader" = some m.cls := findClass_of_methodNamed Bd.named
  have hnm := (name_of_methodNamed Bd.named Bd.method).1
  have X0 : Stand p l e ({ frames := 0, cells := 1, slots := 4, locals := 0 } : Room) s m #[(.int q0), (.int q1)] below meth c s₁ [] 0 0 := Stand.of_body Bd
  have e0 : s₁.heap = h0 := by rw [← hh, Bd.state]; rfl
  have N0 := Fr.nil n0
  have K0 : Keep h0 h0 [] := Keep.refl _ _
  show OEnds p e below s (QH Z q0 q1 h0 n0) _ _ _
  refine own_by (fun t k => castTop (ef_1 m q0 q1) k) ?_
  show OEnds p e below s _ _ _ (s₁.setTop (mkF m 0 #[.val (.int q0), .val (.int q1), .unset, .unset, .unset] []))
  refine own_by (fun _ k => XS.iloadN X0.here hx rfl (hb hby d1_0) rfl k) ?_
  show OEnds p e below s _ _ _ (s₁.setTop (mkF m 1 #[.val (.int q0), .val (.int q1), .unset, .unset, .unset] [(.int q1)]))
  by_cases hc1_1 : q1 = (0 : Int32)
  · refine own_by (fun _ k => XS.ifYes X0.here hx rfl (pc0 := 1) (pc' := 11) rfl (hb hby d1_1) rfl ((if0 _ _).trans (teq hc1_1).1) (by decide) (by decide) k) ?_
    show OEnds p e below s _ _ _ (s₁.setTop (mkF m 11 #[.val (.int q0), .val (.int q1), .unset, .unset, .unset] []))
    refine own_by (fun _ k => XS.iloadN X0.here hx rfl (hb hby d1_11) rfl k) ?_
    show OEnds p e below s _ _ _ (s₁.setTop (mkF m 12 #[.val (.int q0), .val (.int q1), .unset, .unset, .unset] [(.int q0)]))
    refine own_by (fun _ k => XS.istoreN X0.here hx rfl (hb hby d1_12) rfl (l' := #[.val (.int q0), .val (.int q1), .val (.int q0), .unset, .unset]) rfl k) ?_
    show OEnds p e below s _ _ _ (s₁.setTop (mkF m 13 #[.val (.int q0), .val (.int q1), .val (.int q0), .unset, .unset] []))
    refine own_by (fun _ k => XS.iconst X0.here hx rfl (hb hby d1_13) k) ?_
    show OEnds p e below s _ _ _ (s₁.setTop (mkF m 14 #[.val (.int q0), .val (.int q1), .val (.int q0), .unset, .unset] [(.int (4 : Int32))]))
    obtain ⟨T2, h2, k2, X2, e2, E2, A2, st2⟩ := newP X0 hx hZ (hw _ (List.mem_of_getElem? (i := 6) rfl)) e0 (g := (mkF m 14 #[.val (.int q0), .val (.int q1), .val (.int q0), .unset, .unset] [(.int (4 : Int32))])) rfl (hb hby d1_14) rfl (by decide) (cap := 4) (by decide) (by decide) (by decide) (by decide)
    obtain ⟨nb2, g2⟩ : ∃ z, z = h0.size := ⟨_, rfl⟩
    rw [← g2] at A2 st2
    refine own_by (st2) ?_
    have g_nb2 : n0 ≤ nb2 := Nat.le_trans Z0 (Nat.le_of_eq g2.symm)
    have sz_nb2 : h0.size ≤ nb2 := Nat.le_trans K0.1 (Nat.le_of_eq g2.symm)
    have K2 : Keep h0 h2 [] := K0.ext E2
    have Z2 : n0 ≤ h2.size := Nat.le_trans Z0 E2.1
    have F2 : FA Z h2 nb2 .byte 4 (fun i => .int ((fun _ => (0 : Int32)) i)) := FA.new A2 (by decide) (by decide) rfl
    show OEnds p e below s _ _ _ (T2.setTop (mkF m 16 #[.val (.int q0), .val (.int q1), .val (.int q0), .unset, .unset] [(.ref nb2)]))
    refine own_by (fun _ k => XS.astoreN X2.here hx rfl (hb hby d1_16) rfl rfl (l' := #[.val (.int q0), .val (.int q1), .val (.int q0), .val (.ref nb2), .unset]) rfl k) ?_
    show OEnds p e below s _ _ _ (T2.setTop (mkF m 17 #[.val (.int q0), .val (.int q1), .val (.int q0), .val (.ref nb2), .unset] []))
    refine own_by (fun _ k => XS.iconst X2.here hx rfl (hb hby d1_17) k) ?_
    show OEnds p e below s _ _ _ (T2.setTop (mkF m 18 #[.val (.int q0), .val (.int q1), .val (.int q0), .val (.ref nb2), .unset] [(.int (0 : Int32))]))
    refine own_by (fun _ k => XS.istore X2.here hx rfl (hb hby d1_18) rfl (l' := #[.val (.int q0), .val (.int q1), .val (.int q0), .val (.ref nb2), .val (.int (0 : Int32))]) rfl k) ?_
    show OEnds p e below s _ _ _ (T2.setTop (mkF m 20 #[.val (.int q0), .val (.int q1), .val (.int q0), .val (.ref nb2), .val (.int (0 : Int32))] []))
    refine own_by (fun _ k => XS.iload X2.here hx rfl (hb hby d1_20) rfl k) ?_
    show OEnds p e below s _ _ _ (T2.setTop (mkF m 22 #[.val (.int q0), .val (.int q1), .val (.int q0), .val (.ref nb2), .val (.int (0 : Int32))] [(.int (0 : Int32))]))
    refine own_by (fun _ k => XS.iconst X2.here hx rfl (hb hby d1_22) k) ?_
    show OEnds p e below s _ _ _ (T2.setTop (mkF m 23 #[.val (.int q0), .val (.int q1), .val (.int q0), .val (.ref nb2), .val (.int (0 : Int32))] [(.int (4 : Int32)), (.int (0 : Int32))]))
    refine own_by (fun _ k => XS.icmpNo X2.here hx rfl (hb hby d1_23) rfl (tlt (by decide : (0 : Int32) < (4 : Int32))).2.1 k) ?_
    show OEnds p e below s _ _ _ (T2.setTop (mkF m 26 #[.val (.int q0), .val (.int q1), .val (.int q0), .val (.ref nb2), .val (.int (0 : Int32))] []))
    refine own_by (fun _ k => XS.aloadN X2.here hx rfl (hb hby d1_26) rfl rfl k) ?_
    show OEnds p e below s _ _ _ (T2.setTop (mkF m 27 #[.val (.int q0), .val (.int q1), .val (.int q0), .val (.ref nb2), .val (.int (0 : Int32))] [(.ref nb2)]))
    refine own_by (fun _ k => XS.iload X2.here hx rfl (hb hby d1_27) rfl k) ?_
    show OEnds p e below s _ _ _ (T2.setTop (mkF m 29 #[.val (.int q0), .val (.int q1), .val (.int q0), .val (.ref nb2), .val (.int (0 : Int32))] [(.int (0 : Int32)), (.ref nb2)]))
    refine own_by (fun _ k => XS.iloadN X2.here hx rfl (hb hby d1_29) rfl k) ?_
    show OEnds p e below s _ _ _ (T2.setTop (mkF m 30 #[.val (.int q0), .val (.int q1), .val (.int q0), .val (.ref nb2), .val (.int (0 : Int32))] [(.int q0), (.int (0 : Int32)), (.ref nb2)]))
    refine own_by (fun _ k => XS.bipush X2.here hx rfl (hb hby d1_30) k) ?_
    show OEnds p e below s _ _ _ (T2.setTop (mkF m 32 #[.val (.int q0), .val (.int q1), .val (.int q0), .val (.ref nb2), .val (.int (0 : Int32))] [(.int (32 : Int32)), (.int q0), (.int (0 : Int32)), (.ref nb2)]))
    refine own_by (fun _ k => XS.bipush X2.here hx rfl (hb hby d1_32) k) ?_
    show OEnds p e below s _ _ _ (T2.setTop (mkF m 34 #[.val (.int q0), .val (.int q1), .val (.int q0), .val (.ref nb2), .val (.int (0 : Int32))] [(.int (8 : Int32)), (.int (32 : Int32)), (.int q0), (.int (0 : Int32)), (.ref nb2)]))
    refine own_by (fun _ k => XS.iload X2.here hx rfl (hb hby d1_34) rfl k) ?_
    show OEnds p e below s _ _ _ (T2.setTop (mkF m 36 #[.val (.int q0), .val (.int q1), .val (.int q0), .val (.ref nb2), .val (.int (0 : Int32))] [(.int (0 : Int32)), (.int (8 : Int32)), (.int (32 : Int32)), (.int q0), (.int (0 : Int32)), (.ref nb2)]))
    refine own_by (fun _ k => XS.iconst X2.here hx rfl (hb hby d1_36) k) ?_
    show OEnds p e below s _ _ _ (T2.setTop (mkF m 37 #[.val (.int q0), .val (.int q1), .val (.int q0), .val (.ref nb2), .val (.int (0 : Int32))] [(.int (1 : Int32)), (.int (0 : Int32)), (.int (8 : Int32)), (.int (32 : Int32)), (.int q0), (.int (0 : Int32)), (.ref nb2)]))
    refine own_by (fun _ k => XS.iadd X2.here hx rfl (hb hby d1_37) rfl k) ?_
    show OEnds p e below s _ _ _ (T2.setTop (mkF m 38 #[.val (.int q0), .val (.int q1), .val (.int q0), .val (.ref nb2), .val (.int (0 : Int32))] [(.int (1 : Int32)), (.int (8 : Int32)), (.int (32 : Int32)), (.int q0), (.int (0 : Int32)), (.ref nb2)]))
    refine own_by (fun _ k => XS.imul X2.here hx rfl (hb hby d1_38) rfl k) ?_
    show OEnds p e below s _ _ _ (T2.setTop (mkF m 39 #[.val (.int q0), .val (.int q1), .val (.int q0), .val (.ref nb2), .val (.int (0 : Int32))] [(.int (8 : Int32)), (.int (32 : Int32)), (.int q0), (.int (0 : Int32)), (.ref nb2)]))
    refine own_by (fun _ k => XS.isub X2.here hx rfl (hb hby d1_39) rfl k) ?_
    show OEnds p e below s _ _ _ (T2.setTop (mkF m 40 #[.val (.int q0), .val (.int q1), .val (.int q0), .val (.ref nb2), .val (.int (0 : Int32))] [(.int (24 : Int32)), (.int q0), (.int (0 : Int32)), (.ref nb2)]))
    refine own_by (fun _ k => XS.iushr X2.here hx rfl (hb hby d1_40) rfl k) ?_
    show OEnds p e below s _ _ _ (T2.setTop (mkF m 41 #[.val (.int q0), .val (.int q1), .val (.int q0), .val (.ref nb2), .val (.int (0 : Int32))] [(.int ((q0.toUInt32 >>> ((24 : Int32) &&& 31).toUInt32).toInt32)), (.int (0 : Int32)), (.ref nb2)]))
    refine own_by (fun _ k => XS.i2b X2.here hx rfl (hb hby d1_41) rfl k) ?_
    show OEnds p e below s _ _ _ (T2.setTop (mkF m 42 #[.val (.int q0), .val (.int q1), .val (.int q0), .val (.ref nb2), .val (.int (0 : Int32))] [(.int (((q0.toUInt32 >>> ((24 : Int32) &&& 31).toUInt32).toInt32).toInt8.toInt32)), (.int (0 : Int32)), (.ref nb2)]))
    obtain ⟨T3, h3, X3, e3, W3, st3⟩ := own_bastore X2 hx hZ e2 F2 0 (by decide) (by decide) (g := (mkF m 42 #[.val (.int q0), .val (.int q1), .val (.int q0), .val (.ref nb2), .val (.int (0 : Int32))] [(.int (((q0.toUInt32 >>> ((24 : Int32) &&& 31).toUInt32).toInt32).toInt8.toInt32)), (.int (0 : Int32)), (.ref nb2)])) rfl rfl (hb hby d1_42)
    refine own_by (st3) ?_
    have F3 : FA Z h3 nb2 .byte 4 (fun i => .int ((updI (fun _ => (0 : Int32)) 0 (nar .byte (((q0.toUInt32 >>> ((24 : Int32) &&& 31).toUInt32).toInt32).toInt8.toInt32))) i)) := F2.setI W3
    obtain ⟨f3, ef3⟩ : ∃ f : Nat → Int32, f = (updI (fun _ => (0 : Int32)) 0 (nar .byte (((q0.toUInt32 >>> ((24 : Int32) &&& 31).toUInt32).toInt32).toInt8.toInt32))) := ⟨_, rfl⟩
    rw [← ef3] at F3
    have N3 := Fr.snoc X3 N0 g_nb2
    have Z3 : n0 ≤ h3.size := Nat.le_trans Z2 (Keep.of_wr W3).1
    have K3 : Keep h0 h3 [] := K2.wr W3 (Or.inr sz_nb2)
    show OEnds p e below s _ _ _ (T3.setTop (mkF m 43 #[.val (.int q0), .val (.int q1), .val (.int q0), .val (.ref nb2), .val (.int (0 : Int32))] []))
    refine own_by (fun _ k => XS.iinc X3.here hx rfl (hb hby d1_43) rfl (l' := #[.val (.int q0), .val (.int q1), .val (.int q0), .val (.ref nb2), .val (.int (1 : Int32))]) rfl k) ?_
    show OEnds p e below s _ _ _ (T3.setTop (mkF m 46 #[.val (.int q0), .val (.int q1), .val (.int q0), .val (.ref nb2), .val (.int (1 : Int32))] []))
    refine own_by (fun _ k => XS.goto X3.here hx rfl (pc0 := 46) (pc' := 20) rfl (hb hby d1_46) (by decide) (by decide) k) ?_
    show OEnds p e below s _ _ _ (T3.setTop (mkF m 20 #[.val (.int q0), .val (.int q1), .val (.int q0), .val (.ref nb2), .val (.int (1 : Int32))] []))
    refine own_by (fun _ k => XS.iload X3.here hx rfl (hb hby d1_20) rfl k) ?_
    show OEnds p e below s _ _ _ (T3.setTop (mkF m 22 #[.val (.int q0), .val (.int q1), .val (.int q0), .val (.ref nb2), .val (.int (1 : Int32))] [(.int (1 : Int32))]))
    refine own_by (fun _ k => XS.iconst X3.here hx rfl (hb hby d1_22) k) ?_
    show OEnds p e below s _ _ _ (T3.setTop (mkF m 23 #[.val (.int q0), .val (.int q1), .val (.int q0), .val (.ref nb2), .val (.int (1 : Int32))] [(.int (4 : Int32)), (.int (1 : Int32))]))
    refine own_by (fun _ k => XS.icmpNo X3.here hx rfl (hb hby d1_23) rfl (tlt (by decide : (1 : Int32) < (4 : Int32))).2.1 k) ?_
    show OEnds p e below s _ _ _ (T3.setTop (mkF m 26 #[.val (.int q0), .val (.int q1), .val (.int q0), .val (.ref nb2), .val (.int (1 : Int32))] []))
    refine own_by (fun _ k => XS.aloadN X3.here hx rfl (hb hby d1_26) rfl rfl k) ?_
    show OEnds p e below s _ _ _ (T3.setTop (mkF m 27 #[.val (.int q0), .val (.int q1), .val (.int q0), .val (.ref nb2), .val (.int (1 : Int32))] [(.ref nb2)]))
    refine own_by (fun _ k => XS.iload X3.here hx rfl (hb hby d1_27) rfl k) ?_
    show OEnds p e below s _ _ _ (T3.setTop (mkF m 29 #[.val (.int q0), .val (.int q1), .val (.int q0), .val (.ref nb2), .val (.int (1 : Int32))] [(.int (1 : Int32)), (.ref nb2)]))
    refine own_by (fun _ k => XS.iloadN X3.here hx rfl (hb hby d1_29) rfl k) ?_
    show OEnds p e below s _ _ _ (T3.setTop (mkF m 30 #[.val (.int q0), .val (.int q1), .val (.int q0), .val (.ref nb2), .val (.int (1 : Int32))] [(.int q0), (.int (1 : Int32)), (.ref nb2)]))
    refine own_by (fun _ k => XS.bipush X3.here hx rfl (hb hby d1_30) k) ?_
    show OEnds p e below s _ _ _ (T3.setTop (mkF m 32 #[.val (.int q0), .val (.int q1), .val (.int q0), .val (.ref nb2), .val (.int (1 : Int32))] [(.int (32 : Int32)), (.int q0), (.int (1 : Int32)), (.ref nb2)]))
    refine own_by (fun _ k => XS.bipush X3.here hx rfl (hb hby d1_32) k) ?_
    show OEnds p e below s _ _ _ (T3.setTop (mkF m 34 #[.val (.int q0), .val (.int q1), .val (.int q0), .val (.ref nb2), .val (.int (1 : Int32))] [(.int (8 : Int32)), (.int (32 : Int32)), (.int q0), (.int (1 : Int32)), (.ref nb2)]))
    refine own_by (fun _ k => XS.iload X3.here hx rfl (hb hby d1_34) rfl k) ?_
    show OEnds p e below s _ _ _ (T3.setTop (mkF m 36 #[.val (.int q0), .val (.int q1), .val (.int q0), .val (.ref nb2), .val (.int (1 : Int32))] [(.int (1 : Int32)), (.int (8 : Int32)), (.int (32 : Int32)), (.int q0), (.int (1 : Int32)), (.ref nb2)]))
    refine own_by (fun _ k => XS.iconst X3.here hx rfl (hb hby d1_36) k) ?_
    show OEnds p e below s _ _ _ (T3.setTop (mkF m 37 #[.val (.int q0), .val (.int q1), .val (.int q0), .val (.ref nb2), .val (.int (1 : Int32))] [(.int (1 : Int32)), (.int (1 : Int32)), (.int (8 : Int32)), (.int (32 : Int32)), (.int q0), (.int (1 : Int32)), (.ref nb2)]))
    refine own_by (fun _ k => XS.iadd X3.here hx rfl (hb hby d1_37) rfl k) ?_
    show OEnds p e below s _ _ _ (T3.setTop (mkF m 38 #[.val (.int q0), .val (.int q1), .val (.int q0), .val (.ref nb2), .val (.int (1 : Int32))] [(.int (2 : Int32)), (.int (8 : Int32)), (.int (32 : Int32)), (.int q0), (.int (1 : Int32)), (.ref nb2)]))
    refine own_by (fun _ k => XS.imul X3.here hx rfl (hb hby d1_38) rfl k) ?_
    show OEnds p e below s _ _ _ (T3.setTop (mkF m 39 #[.val (.int q0), .val (.int q1), .val (.int q0), .val (.ref nb2), .val (.int (1 : Int32))] [(.int (16 : Int32)), (.int (32 : Int32)), (.int q0), (.int (1 : Int32)), (.ref nb2)]))
    refine own_by (fun _ k => XS.isub X3.here hx rfl (hb hby d1_39) rfl k) ?_
    show OEnds p e below s _ _ _ (T3.setTop (mkF m 40 #[.val (.int q0), .val (.int q1), .val (.int q0), .val (.ref nb2), .val (.int (1 : Int32))] [(.int (16 : Int32)), (.int q0), (.int (1 : Int32)), (.ref nb2)]))
    refine own_by (fun _ k => XS.iushr X3.here hx rfl (hb hby d1_40) rfl k) ?_
    show OEnds p e below s _ _ _ (T3.setTop (mkF m 41 #[.val (.int q0), .val (.int q1), .val (.int q0), .val (.ref nb2), .val (.int (1 : Int32))] [(.int ((q0.toUInt32 >>> ((16 : Int32) &&& 31).toUInt32).toInt32)), (.int (1 : Int32)), (.ref nb2)]))
    refine own_by (fun _ k => XS.i2b X3.here hx rfl (hb hby d1_41) rfl k) ?_
    show OEnds p e below s _ _ _ (T3.setTop (mkF m 42 #[.val (.int q0), .val (.int q1), .val (.int q0), .val (.ref nb2), .val (.int (1 : Int32))] [(.int (((q0.toUInt32 >>> ((16 : Int32) &&& 31).toUInt32).toInt32).toInt8.toInt32)), (.int (1 : Int32)), (.ref nb2)]))
    obtain ⟨T4, h4, X4, e4, W4, st4⟩ := own_bastore X3 hx hZ e3 F3 1 (by decide) (by decide) (g := (mkF m 42 #[.val (.int q0), .val (.int q1), .val (.int q0), .val (.ref nb2), .val (.int (1 : Int32))] [(.int (((q0.toUInt32 >>> ((16 : Int32) &&& 31).toUInt32).toInt32).toInt8.toInt32)), (.int (1 : Int32)), (.ref nb2)])) rfl rfl (hb hby d1_42)
    refine own_by (st4) ?_
    have F4 : FA Z h4 nb2 .byte 4 (fun i => .int ((updI f3 1 (nar .byte (((q0.toUInt32 >>> ((16 : Int32) &&& 31).toUInt32).toInt32).toInt8.toInt32))) i)) := F3.setI W4
    obtain ⟨f4, ef4⟩ : ∃ f : Nat → Int32, f = (updI f3 1 (nar .byte (((q0.toUInt32 >>> ((16 : Int32) &&& 31).toUInt32).toInt32).toInt8.toInt32))) := ⟨_, rfl⟩
    rw [← ef4] at F4
    have N4 := Fr.snoc X4 N3 g_nb2
    have Z4 : n0 ≤ h4.size := Nat.le_trans Z3 (Keep.of_wr W4).1
    have K4 : Keep h0 h4 [] := K3.wr W4 (Or.inr sz_nb2)
    show OEnds p e below s _ _ _ (T4.setTop (mkF m 43 #[.val (.int q0), .val (.int q1), .val (.int q0), .val (.ref nb2), .val (.int (1 : Int32))] []))
    refine own_by (fun _ k => XS.iinc X4.here hx rfl (hb hby d1_43) rfl (l' := #[.val (.int q0), .val (.int q1), .val (.int q0), .val (.ref nb2), .val (.int (2 : Int32))]) rfl k) ?_
    show OEnds p e below s _ _ _ (T4.setTop (mkF m 46 #[.val (.int q0), .val (.int q1), .val (.int q0), .val (.ref nb2), .val (.int (2 : Int32))] []))
    refine own_by (fun _ k => XS.goto X4.here hx rfl (pc0 := 46) (pc' := 20) rfl (hb hby d1_46) (by decide) (by decide) k) ?_
    show OEnds p e below s _ _ _ (T4.setTop (mkF m 20 #[.val (.int q0), .val (.int q1), .val (.int q0), .val (.ref nb2), .val (.int (2 : Int32))] []))
    refine own_by (fun _ k => XS.iload X4.here hx rfl (hb hby d1_20) rfl k) ?_
    show OEnds p e below s _ _ _ (T4.setTop (mkF m 22 #[.val (.int q0), .val (.int q1), .val (.int q0), .val (.ref nb2), .val (.int (2 : Int32))] [(.int (2 : Int32))]))
    refine own_by (fun _ k => XS.iconst X4.here hx rfl (hb hby d1_22) k) ?_
    show OEnds p e below s _ _ _ (T4.setTop (mkF m 23 #[.val (.int q0), .val (.int q1), .val (.int q0), .val (.ref nb2), .val (.int (2 : Int32))] [(.int (4 : Int32)), (.int (2 : Int32))]))
    refine own_by (fun _ k => XS.icmpNo X4.here hx rfl (hb hby d1_23) rfl (tlt (by decide : (2 : Int32) < (4 : Int32))).2.1 k) ?_
    show OEnds p e below s _ _ _ (T4.setTop (mkF m 26 #[.val (.int q0), .val (.int q1), .val (.int q0), .val (.ref nb2), .val (.int (2 : Int32))] []))
    refine own_by (fun _ k => XS.aloadN X4.here hx rfl (hb hby d1_26) rfl rfl k) ?_
    show OEnds p e below s _ _ _ (T4.setTop (mkF m 27 #[.val (.int q0), .val (.int q1), .val (.int q0), .val (.ref nb2), .val (.int (2 : Int32))] [(.ref nb2)]))
    refine own_by (fun _ k => XS.iload X4.here hx rfl (hb hby d1_27) rfl k) ?_
    show OEnds p e below s _ _ _ (T4.setTop (mkF m 29 #[.val (.int q0), .val (.int q1), .val (.int q0), .val (.ref nb2), .val (.int (2 : Int32))] [(.int (2 : Int32)), (.ref nb2)]))
    refine own_by (fun _ k => XS.iloadN X4.here hx rfl (hb hby d1_29) rfl k) ?_
    show OEnds p e below s _ _ _ (T4.setTop (mkF m 30 #[.val (.int q0), .val (.int q1), .val (.int q0), .val (.ref nb2), .val (.int (2 : Int32))] [(.int q0), (.int (2 : Int32)), (.ref nb2)]))
    refine own_by (fun _ k => XS.bipush X4.here hx rfl (hb hby d1_30) k) ?_
    show OEnds p e below s _ _ _ (T4.setTop (mkF m 32 #[.val (.int q0), .val (.int q1), .val (.int q0), .val (.ref nb2), .val (.int (2 : Int32))] [(.int (32 : Int32)), (.int q0), (.int (2 : Int32)), (.ref nb2)]))
    refine own_by (fun _ k => XS.bipush X4.here hx rfl (hb hby d1_32) k) ?_
    show OEnds p e below s _ _ _ (T4.setTop (mkF m 34 #[.val (.int q0), .val (.int q1), .val (.int q0), .val (.ref nb2), .val (.int (2 : Int32))] [(.int (8 : Int32)), (.int (32 : Int32)), (.int q0), (.int (2 : Int32)), (.ref nb2)]))
    refine own_by (fun _ k => XS.iload X4.here hx rfl (hb hby d1_34) rfl k) ?_
    show OEnds p e below s _ _ _ (T4.setTop (mkF m 36 #[.val (.int q0), .val (.int q1), .val (.int q0), .val (.ref nb2), .val (.int (2 : Int32))] [(.int (2 : Int32)), (.int (8 : Int32)), (.int (32 : Int32)), (.int q0), (.int (2 : Int32)), (.ref nb2)]))
    refine own_by (fun _ k => XS.iconst X4.here hx rfl (hb hby d1_36) k) ?_
    show OEnds p e below s _ _ _ (T4.setTop (mkF m 37 #[.val (.int q0), .val (.int q1), .val (.int q0), .val (.ref nb2), .val (.int (2 : Int32))] [(.int (1 : Int32)), (.int (2 : Int32)), (.int (8 : Int32)), (.int (32 : Int32)), (.int q0), (.int (2 : Int32)), (.ref nb2)]))
    refine own_by (fun _ k => XS.iadd X4.here hx rfl (hb hby d1_37) rfl k) ?_
    show OEnds p e below s _ _ _ (T4.setTop (mkF m 38 #[.val (.int q0), .val (.int q1), .val (.int q0), .val (.ref nb2), .val (.int (2 : Int32))] [(.int (3 : Int32)), (.int (8 : Int32)), (.int (32 : Int32)), (.int q0), (.int (2 : Int32)), (.ref nb2)]))
    refine own_by (fun _ k => XS.imul X4.here hx rfl (hb hby d1_38) rfl k) ?_
    show OEnds p e below s _ _ _ (T4.setTop (mkF m 39 #[.val (.int q0), .val (.int q1), .val (.int q0), .val (.ref nb2), .val (.int (2 : Int32))] [(.int (24 : Int32)), (.int (32 : Int32)), (.int q0), (.int (2 : Int32)), (.ref nb2)]))
    refine own_by (fun _ k => XS.isub X4.here hx rfl (hb hby d1_39) rfl k) ?_
    show OEnds p e below s _ _ _ (T4.setTop (mkF m 40 #[.val (.int q0), .val (.int q1), .val (.int q0), .val (.ref nb2), .val (.int (2 : Int32))] [(.int (8 : Int32)), (.int q0), (.int (2 : Int32)), (.ref nb2)]))
    refine own_by (fun _ k => XS.iushr X4.here hx rfl (hb hby d1_40) rfl k) ?_
    show OEnds p e below s _ _ _ (T4.setTop (mkF m 41 #[.val (.int q0), .val (.int q1), .val (.int q0), .val (.ref nb2), .val (.int (2 : Int32))] [(.int ((q0.toUInt32 >>> ((8 : Int32) &&& 31).toUInt32).toInt32)), (.int (2 : Int32)), (.ref nb2)]))
    refine own_by (fun _ k => XS.i2b X4.here hx rfl (hb hby d1_41) rfl k) ?_
    show OEnds p e below s _ _ _ (T4.setTop (mkF m 42 #[.val (.int q0), .val (.int q1), .val (.int q0), .val (.ref nb2), .val (.int (2 : Int32))] [(.int (((q0.toUInt32 >>> ((8 : Int32) &&& 31).toUInt32).toInt32).toInt8.toInt32)), (.int (2 : Int32)), (.ref nb2)]))
    obtain ⟨T5, h5, X5, e5, W5, st5⟩ := own_bastore X4 hx hZ e4 F4 2 (by decide) (by decide) (g := (mkF m 42 #[.val (.int q0), .val (.int q1), .val (.int q0), .val (.ref nb2), .val (.int (2 : Int32))] [(.int (((q0.toUInt32 >>> ((8 : Int32) &&& 31).toUInt32).toInt32).toInt8.toInt32)), (.int (2 : Int32)), (.ref nb2)])) rfl rfl (hb hby d1_42)
    refine own_by (st5) ?_
    have F5 : FA Z h5 nb2 .byte 4 (fun i => .int ((updI f4 2 (nar .byte (((q0.toUInt32 >>> ((8 : Int32) &&& 31).toUInt32).toInt32).toInt8.toInt32))) i)) := F4.setI W5
    obtain ⟨f5, ef5⟩ : ∃ f : Nat → Int32, f = (updI f4 2 (nar .byte (((q0.toUInt32 >>> ((8 : Int32) &&& 31).toUInt32).toInt32).toInt8.toInt32))) := ⟨_, rfl⟩
    rw [← ef5] at F5
    have N5 := Fr.snoc X5 N4 g_nb2
    have Z5 : n0 ≤ h5.size := Nat.le_trans Z4 (Keep.of_wr W5).1
    have K5 : Keep h0 h5 [] := K4.wr W5 (Or.inr sz_nb2)
    show OEnds p e below s _ _ _ (T5.setTop (mkF m 43 #[.val (.int q0), .val (.int q1), .val (.int q0), .val (.ref nb2), .val (.int (2 : Int32))] []))
    refine own_by (fun _ k => XS.iinc X5.here hx rfl (hb hby d1_43) rfl (l' := #[.val (.int q0), .val (.int q1), .val (.int q0), .val (.ref nb2), .val (.int (3 : Int32))]) rfl k) ?_
    show OEnds p e below s _ _ _ (T5.setTop (mkF m 46 #[.val (.int q0), .val (.int q1), .val (.int q0), .val (.ref nb2), .val (.int (3 : Int32))] []))
    refine own_by (fun _ k => XS.goto X5.here hx rfl (pc0 := 46) (pc' := 20) rfl (hb hby d1_46) (by decide) (by decide) k) ?_
    show OEnds p e below s _ _ _ (T5.setTop (mkF m 20 #[.val (.int q0), .val (.int q1), .val (.int q0), .val (.ref nb2), .val (.int (3 : Int32))] []))
    refine own_by (fun _ k => XS.iload X5.here hx rfl (hb hby d1_20) rfl k) ?_
    show OEnds p e below s _ _ _ (T5.setTop (mkF m 22 #[.val (.int q0), .val (.int q1), .val (.int q0), .val (.ref nb2), .val (.int (3 : Int32))] [(.int (3 : Int32))]))
    refine own_by (fun _ k => XS.iconst X5.here hx rfl (hb hby d1_22) k) ?_
    show OEnds p e below s _ _ _ (T5.setTop (mkF m 23 #[.val (.int q0), .val (.int q1), .val (.int q0), .val (.ref nb2), .val (.int (3 : Int32))] [(.int (4 : Int32)), (.int (3 : Int32))]))
    refine own_by (fun _ k => XS.icmpNo X5.here hx rfl (hb hby d1_23) rfl (tlt (by decide : (3 : Int32) < (4 : Int32))).2.1 k) ?_
    show OEnds p e below s _ _ _ (T5.setTop (mkF m 26 #[.val (.int q0), .val (.int q1), .val (.int q0), .val (.ref nb2), .val (.int (3 : Int32))] []))
    refine own_by (fun _ k => XS.aloadN X5.here hx rfl (hb hby d1_26) rfl rfl k) ?_
    show OEnds p e below s _ _ _ (T5.setTop (mkF m 27 #[.val (.int q0), .val (.int q1), .val (.int q0), .val (.ref nb2), .val (.int (3 : Int32))] [(.ref nb2)]))
    refine own_by (fun _ k => XS.iload X5.here hx rfl (hb hby d1_27) rfl k) ?_
    show OEnds p e below s _ _ _ (T5.setTop (mkF m 29 #[.val (.int q0), .val (.int q1), .val (.int q0), .val (.ref nb2), .val (.int (3 : Int32))] [(.int (3 : Int32)), (.ref nb2)]))
    refine own_by (fun _ k => XS.iloadN X5.here hx rfl (hb hby d1_29) rfl k) ?_
    show OEnds p e below s _ _ _ (T5.setTop (mkF m 30 #[.val (.int q0), .val (.int q1), .val (.int q0), .val (.ref nb2), .val (.int (3 : Int32))] [(.int q0), (.int (3 : Int32)), (.ref nb2)]))
    refine own_by (fun _ k => XS.bipush X5.here hx rfl (hb hby d1_30) k) ?_
    show OEnds p e below s _ _ _ (T5.setTop (mkF m 32 #[.val (.int q0), .val (.int q1), .val (.int q0), .val (.ref nb2), .val (.int (3 : Int32))] [(.int (32 : Int32)), (.int q0), (.int (3 : Int32)), (.ref nb2)]))
    refine own_by (fun _ k => XS.bipush X5.here hx rfl (hb hby d1_32) k) ?_
    show OEnds p e below s _ _ _ (T5.setTop (mkF m 34 #[.val (.int q0), .val (.int q1), .val (.int q0), .val (.ref nb2), .val (.int (3 : Int32))] [(.int (8 : Int32)), (.int (32 : Int32)), (.int q0), (.int (3 : Int32)), (.ref nb2)]))
    refine own_by (fun _ k => XS.iload X5.here hx rfl (hb hby d1_34) rfl k) ?_
    show OEnds p e below s _ _ _ (T5.setTop (mkF m 36 #[.val (.int q0), .val (.int q1), .val (.int q0), .val (.ref nb2), .val (.int (3 : Int32))] [(.int (3 : Int32)), (.int (8 : Int32)), (.int (32 : Int32)), (.int q0), (.int (3 : Int32)), (.ref nb2)]))
    refine own_by (fun _ k => XS.iconst X5.here hx rfl (hb hby d1_36) k) ?_
    show OEnds p e below s _ _ _ (T5.setTop (mkF m 37 #[.val (.int q0), .val (.int q1), .val (.int q0), .val (.ref nb2), .val (.int (3 : Int32))] [(.int (1 : Int32)), (.int (3 : Int32)), (.int (8 : Int32)), (.int (32 : Int32)), (.int q0), (.int (3 : Int32)), (.ref nb2)]))
    refine own_by (fun _ k => XS.iadd X5.here hx rfl (hb hby d1_37) rfl k) ?_
    show OEnds p e below s _ _ _ (T5.setTop (mkF m 38 #[.val (.int q0), .val (.int q1), .val (.int q0), .val (.ref nb2), .val (.int (3 : Int32))] [(.int (4 : Int32)), (.int (8 : Int32)), (.int (32 : Int32)), (.int q0), (.int (3 : Int32)), (.ref nb2)]))
    refine own_by (fun _ k => XS.imul X5.here hx rfl (hb hby d1_38) rfl k) ?_
    show OEnds p e below s _ _ _ (T5.setTop (mkF m 39 #[.val (.int q0), .val (.int q1), .val (.int q0), .val (.ref nb2), .val (.int (3 : Int32))] [(.int (32 : Int32)), (.int (32 : Int32)), (.int q0), (.int (3 : Int32)), (.ref nb2)]))
    refine own_by (fun _ k => XS.isub X5.here hx rfl (hb hby d1_39) rfl k) ?_
    show OEnds p e below s _ _ _ (T5.setTop (mkF m 40 #[.val (.int q0), .val (.int q1), .val (.int q0), .val (.ref nb2), .val (.int (3 : Int32))] [(.int (0 : Int32)), (.int q0), (.int (3 : Int32)), (.ref nb2)]))
    refine own_by (fun _ k => XS.iushr X5.here hx rfl (hb hby d1_40) rfl k) ?_
    show OEnds p e below s _ _ _ (T5.setTop (mkF m 41 #[.val (.int q0), .val (.int q1), .val (.int q0), .val (.ref nb2), .val (.int (3 : Int32))] [(.int ((q0.toUInt32 >>> ((0 : Int32) &&& 31).toUInt32).toInt32)), (.int (3 : Int32)), (.ref nb2)]))
    refine own_by (fun _ k => XS.i2b X5.here hx rfl (hb hby d1_41) rfl k) ?_
    show OEnds p e below s _ _ _ (T5.setTop (mkF m 42 #[.val (.int q0), .val (.int q1), .val (.int q0), .val (.ref nb2), .val (.int (3 : Int32))] [(.int (((q0.toUInt32 >>> ((0 : Int32) &&& 31).toUInt32).toInt32).toInt8.toInt32)), (.int (3 : Int32)), (.ref nb2)]))
    obtain ⟨T6, h6, X6, e6, W6, st6⟩ := own_bastore X5 hx hZ e5 F5 3 (by decide) (by decide) (g := (mkF m 42 #[.val (.int q0), .val (.int q1), .val (.int q0), .val (.ref nb2), .val (.int (3 : Int32))] [(.int (((q0.toUInt32 >>> ((0 : Int32) &&& 31).toUInt32).toInt32).toInt8.toInt32)), (.int (3 : Int32)), (.ref nb2)])) rfl rfl (hb hby d1_42)
    refine own_by (st6) ?_
    have F6 : FA Z h6 nb2 .byte 4 (fun i => .int ((updI f5 3 (nar .byte (((q0.toUInt32 >>> ((0 : Int32) &&& 31).toUInt32).toInt32).toInt8.toInt32))) i)) := F5.setI W6
    obtain ⟨f6, ef6⟩ : ∃ f : Nat → Int32, f = (updI f5 3 (nar .byte (((q0.toUInt32 >>> ((0 : Int32) &&& 31).toUInt32).toInt32).toInt8.toInt32))) := ⟨_, rfl⟩
    rw [← ef6] at F6
    have N6 := Fr.snoc X6 N5 g_nb2
    have Z6 : n0 ≤ h6.size := Nat.le_trans Z5 (Keep.of_wr W6).1
    have K6 : Keep h0 h6 [] := K5.wr W6 (Or.inr sz_nb2)
    show OEnds p e below s _ _ _ (T6.setTop (mkF m 43 #[.val (.int q0), .val (.int q1), .val (.int q0), .val (.ref nb2), .val (.int (3 : Int32))] []))
    refine own_by (fun _ k => XS.iinc X6.here hx rfl (hb hby d1_43) rfl (l' := #[.val (.int q0), .val (.int q1), .val (.int q0), .val (.ref nb2), .val (.int (4 : Int32))]) rfl k) ?_
    show OEnds p e below s _ _ _ (T6.setTop (mkF m 46 #[.val (.int q0), .val (.int q1), .val (.int q0), .val (.ref nb2), .val (.int (4 : Int32))] []))
    refine own_by (fun _ k => XS.goto X6.here hx rfl (pc0 := 46) (pc' := 20) rfl (hb hby d1_46) (by decide) (by decide) k) ?_
    show OEnds p e below s _ _ _ (T6.setTop (mkF m 20 #[.val (.int q0), .val (.int q1), .val (.int q0), .val (.ref nb2), .val (.int (4 : Int32))] []))
    refine own_by (fun _ k => XS.iload X6.here hx rfl (hb hby d1_20) rfl k) ?_
    show OEnds p e below s _ _ _ (T6.setTop (mkF m 22 #[.val (.int q0), .val (.int q1), .val (.int q0), .val (.ref nb2), .val (.int (4 : Int32))] [(.int (4 : Int32))]))
    refine own_by (fun _ k => XS.iconst X6.here hx rfl (hb hby d1_22) k) ?_
    show OEnds p e below s _ _ _ (T6.setTop (mkF m 23 #[.val (.int q0), .val (.int q1), .val (.int q0), .val (.ref nb2), .val (.int (4 : Int32))] [(.int (4 : Int32)), (.int (4 : Int32))]))
    refine own_by (fun _ k => XS.icmpYes X6.here hx rfl (pc0 := 23) (pc' := 49) rfl (hb hby d1_23) rfl (flt (by decide : ¬ ((4 : Int32) < (4 : Int32)))).2.1 (by decide) (by decide) k) ?_
    show OEnds p e below s _ _ _ (T6.setTop (mkF m 49 #[.val (.int q0), .val (.int q1), .val (.int q0), .val (.ref nb2), .val (.int (4 : Int32))] []))
    refine own_by (fun _ k => XS.aloadN X6.here hx rfl (hb hby d1_49) rfl rfl k) ?_
    show OEnds p e below s _ _ _ (T6.setTop (mkF m 50 #[.val (.int q0), .val (.int q1), .val (.int q0), .val (.ref nb2), .val (.int (4 : Int32))] [(.ref nb2)]))
    have FF7 : FA Z h6 nb2 .byte 4 (fun i => .int (hdr q0 q1 i)) := F6.congr (by
      subst ef6 ef5 ef4 ef3
      intro i hi
      have hi4 : i = 0 ∨ i = 1 ∨ i = 2 ∨ i = 3 := by omega
      rcases hi4 with rfl | rfl | rfl | rfl <;> simp [updI, hdr, hword, hc1_1])
    exact own_retA X6 hx hlk rfl Bd.returns rfl (hb hby d1_50) (by rw [e6]; exact ⟨_, rfl, N6, K6, sz_nb2, FF7⟩) (by decide) (by decide)
  · refine own_by (fun _ k => XS.ifNo X0.here hx rfl (hb hby d1_1) rfl ((if0 _ _).trans (feq hc1_1).1) k) ?_
    show OEnds p e below s _ _ _ (s₁.setTop (mkF m 4 #[.val (.int q0), .val (.int q1), .unset, .unset, .unset] []))
    refine own_by (X0.ldcInt hx hown (mvT hZ (hw _ (List.mem_of_getElem? (i := 5) rfl))) (g := (mkF m 4 #[.val (.int q0), .val (.int q1), .unset, .unset, .unset] [])) rfl (hb hby d1_4)) ?_
    show OEnds p e below s _ _ _ (s₁.setTop (mkF m 6 #[.val (.int q0), .val (.int q1), .unset, .unset, .unset] [(.int (-2147483648 : Int32))]))
    refine own_by (fun _ k => XS.iloadN X0.here hx rfl (hb hby d1_6) rfl k) ?_
    show OEnds p e below s _ _ _ (s₁.setTop (mkF m 7 #[.val (.int q0), .val (.int q1), .unset, .unset, .unset] [(.int q0), (.int (-2147483648 : Int32))]))
    refine own_by (fun _ k => XS.ior X0.here hx rfl (hb hby d1_7) rfl k) ?_
    show OEnds p e below s _ _ _ (s₁.setTop (mkF m 8 #[.val (.int q0), .val (.int q1), .unset, .unset, .unset] [(.int ((-2147483648 : Int32) ||| q0))]))
    refine own_by (fun _ k => XS.goto X0.here hx rfl (pc0 := 8) (pc' := 12) rfl (hb hby d1_8) (by decide) (by decide) k) ?_
    show OEnds p e below s _ _ _ (s₁.setTop (mkF m 12 #[.val (.int q0), .val (.int q1), .unset, .unset, .unset] [(.int ((-2147483648 : Int32) ||| q0))]))
    refine own_by (fun _ k => XS.istoreN X0.here hx rfl (hb hby d1_12) rfl (l' := #[.val (.int q0), .val (.int q1), .val (.int ((-2147483648 : Int32) ||| q0)), .unset, .unset]) rfl k) ?_
    show OEnds p e below s _ _ _ (s₁.setTop (mkF m 13 #[.val (.int q0), .val (.int q1), .val (.int ((-2147483648 : Int32) ||| q0)), .unset, .unset] []))
    refine own_by (fun _ k => XS.iconst X0.here hx rfl (hb hby d1_13) k) ?_
    show OEnds p e below s _ _ _ (s₁.setTop (mkF m 14 #[.val (.int q0), .val (.int q1), .val (.int ((-2147483648 : Int32) ||| q0)), .unset, .unset] [(.int (4 : Int32))]))
    obtain ⟨T8, h8, k8, X8, e8, E8, A8, st8⟩ := newP X0 hx hZ (hw _ (List.mem_of_getElem? (i := 6) rfl)) e0 (g := (mkF m 14 #[.val (.int q0), .val (.int q1), .val (.int ((-2147483648 : Int32) ||| q0)), .unset, .unset] [(.int (4 : Int32))])) rfl (hb hby d1_14) rfl (by decide) (cap := 4) (by decide) (by decide) (by decide) (by decide)
    obtain ⟨nb8, g8⟩ : ∃ z, z = h0.size := ⟨_, rfl⟩
    rw [← g8] at A8 st8
    refine own_by (st8) ?_
    have g_nb8 : n0 ≤ nb8 := Nat.le_trans Z0 (Nat.le_of_eq g8.symm)
    have sz_nb8 : h0.size ≤ nb8 := Nat.le_trans K0.1 (Nat.le_of_eq g8.symm)
    have K8 : Keep h0 h8 [] := K0.ext E8
    have Z8 : n0 ≤ h8.size := Nat.le_trans Z0 E8.1
    have F8 : FA Z h8 nb8 .byte 4 (fun i => .int ((fun _ => (0 : Int32)) i)) := FA.new A8 (by decide) (by decide) rfl
    show OEnds p e below s _ _ _ (T8.setTop (mkF m 16 #[.val (.int q0), .val (.int q1), .val (.int ((-2147483648 : Int32) ||| q0)), .unset, .unset] [(.ref nb8)]))
    refine own_by (fun _ k => XS.astoreN X8.here hx rfl (hb hby d1_16) rfl rfl (l' := #[.val (.int q0), .val (.int q1), .val (.int ((-2147483648 : Int32) ||| q0)), .val (.ref nb8), .unset]) rfl k) ?_
    show OEnds p e below s _ _ _ (T8.setTop (mkF m 17 #[.val (.int q0), .val (.int q1), .val (.int ((-2147483648 : Int32) ||| q0)), .val (.ref nb8), .unset] []))
    refine own_by (fun _ k => XS.iconst X8.here hx rfl (hb hby d1_17) k) ?_
    show OEnds p e below s _ _ _ (T8.setTop (mkF m 18 #[.val (.int q0), .val (.int q1), .val (.int ((-2147483648 : Int32) ||| q0)), .val (.ref nb8), .unset] [(.int (0 : Int32))]))
    refine own_by (fun _ k => XS.istore X8.here hx rfl (hb hby d1_18) rfl (l' := #[.val (.int q0), .val (.int q1), .val (.int ((-2147483648 : Int32) ||| q0)), .val (.ref nb8), .val (.int (0 : Int32))]) rfl k) ?_
    show OEnds p e below s _ _ _ (T8.setTop (mkF m 20 #[.val (.int q0), .val (.int q1), .val (.int ((-2147483648 : Int32) ||| q0)), .val (.ref nb8), .val (.int (0 : Int32))] []))
    refine own_by (fun _ k => XS.iload X8.here hx rfl (hb hby d1_20) rfl k) ?_
    show OEnds p e below s _ _ _ (T8.setTop (mkF m 22 #[.val (.int q0), .val (.int q1), .val (.int ((-2147483648 : Int32) ||| q0)), .val (.ref nb8), .val (.int (0 : Int32))] [(.int (0 : Int32))]))
    refine own_by (fun _ k => XS.iconst X8.here hx rfl (hb hby d1_22) k) ?_
    show OEnds p e below s _ _ _ (T8.setTop (mkF m 23 #[.val (.int q0), .val (.int q1), .val (.int ((-2147483648 : Int32) ||| q0)), .val (.ref nb8), .val (.int (0 : Int32))] [(.int (4 : Int32)), (.int (0 : Int32))]))
    refine own_by (fun _ k => XS.icmpNo X8.here hx rfl (hb hby d1_23) rfl (tlt (by decide : (0 : Int32) < (4 : Int32))).2.1 k) ?_
    show OEnds p e below s _ _ _ (T8.setTop (mkF m 26 #[.val (.int q0), .val (.int q1), .val (.int ((-2147483648 : Int32) ||| q0)), .val (.ref nb8), .val (.int (0 : Int32))] []))
    refine own_by (fun _ k => XS.aloadN X8.here hx rfl (hb hby d1_26) rfl rfl k) ?_
    show OEnds p e below s _ _ _ (T8.setTop (mkF m 27 #[.val (.int q0), .val (.int q1), .val (.int ((-2147483648 : Int32) ||| q0)), .val (.ref nb8), .val (.int (0 : Int32))] [(.ref nb8)]))
    refine own_by (fun _ k => XS.iload X8.here hx rfl (hb hby d1_27) rfl k) ?_
    show OEnds p e below s _ _ _ (T8.setTop (mkF m 29 #[.val (.int q0), .val (.int q1), .val (.int ((-2147483648 : Int32) ||| q0)), .val (.ref nb8), .val (.int (0 : Int32))] [(.int (0 : Int32)), (.ref nb8)]))
    refine own_by (fun _ k => XS.iloadN X8.here hx rfl (hb hby d1_29) rfl k) ?_
    show OEnds p e below s _ _ _ (T8.setTop (mkF m 30 #[.val (.int q0), .val (.int q1), .val (.int ((-2147483648 : Int32) ||| q0)), .val (.ref nb8), .val (.int (0 : Int32))] [(.int ((-2147483648 : Int32) ||| q0)), (.int (0 : Int32)), (.ref nb8)]))
    refine own_by (fun _ k => XS.bipush X8.here hx rfl (hb hby d1_30) k) ?_
    show OEnds p e below s _ _ _ (T8.setTop (mkF m 32 #[.val (.int q0), .val (.int q1), .val (.int ((-2147483648 : Int32) ||| q0)), .val (.ref nb8), .val (.int (0 : Int32))] [(.int (32 : Int32)), (.int ((-2147483648 : Int32) ||| q0)), (.int (0 : Int32)), (.ref nb8)]))
    refine own_by (fun _ k => XS.bipush X8.here hx rfl (hb hby d1_32) k) ?_
    show OEnds p e below s _ _ _ (T8.setTop (mkF m 34 #[.val (.int q0), .val (.int q1), .val (.int ((-2147483648 : Int32) ||| q0)), .val (.ref nb8), .val (.int (0 : Int32))] [(.int (8 : Int32)), (.int (32 : Int32)), (.int ((-2147483648 : Int32) ||| q0)), (.int (0 : Int32)), (.ref nb8)]))
    refine own_by (fun _ k => XS.iload X8.here hx rfl (hb hby d1_34) rfl k) ?_
    show OEnds p e below s _ _ _ (T8.setTop (mkF m 36 #[.val (.int q0), .val (.int q1), .val (.int ((-2147483648 : Int32) ||| q0)), .val (.ref nb8), .val (.int (0 : Int32))] [(.int (0 : Int32)), (.int (8 : Int32)), (.int (32 : Int32)), (.int ((-2147483648 : Int32) ||| q0)), (.int (0 : Int32)), (.ref nb8)]))
    refine own_by (fun _ k => XS.iconst X8.here hx rfl (hb hby d1_36) k) ?_
    show OEnds p e below s _ _ _ (T8.setTop (mkF m 37 #[.val (.int q0), .val (.int q1), .val (.int ((-2147483648 : Int32) ||| q0)), .val (.ref nb8), .val (.int (0 : Int32))] [(.int (1 : Int32)), (.int (0 : Int32)), (.int (8 : Int32)), (.int (32 : Int32)), (.int ((-2147483648 : Int32) ||| q0)), (.int (0 : Int32)), (.ref nb8)]))
    refine own_by (fun _ k => XS.iadd X8.here hx rfl (hb hby d1_37) rfl k) ?_
    show OEnds p e below s _ _ _ (T8.setTop (mkF m 38 #[.val (.int q0), .val (.int q1), .val (.int ((-2147483648 : Int32) ||| q0)), .val (.ref nb8), .val (.int (0 : Int32))] [(.int (1 : Int32)), (.int (8 : Int32)), (.int (32 : Int32)), (.int ((-2147483648 : Int32) ||| q0)), (.int (0 : Int32)), (.ref nb8)]))
    refine own_by (fun _ k => XS.imul X8.here hx rfl (hb hby d1_38) rfl k) ?_
    show OEnds p e below s _ _ _ (T8.setTop (mkF m 39 #[.val (.int q0), .val (.int q1), .val (.int ((-2147483648 : Int32) ||| q0)), .val (.ref nb8), .val (.int (0 : Int32))] [(.int (8 : Int32)), (.int (32 : Int32)), (.int ((-2147483648 : Int32) ||| q0)), (.int (0 : Int32)), (.ref nb8)]))
    refine own_by (fun _ k => XS.isub X8.here hx rfl (hb hby d1_39) rfl k) ?_
    show OEnds p e below s _ _ _ (T8.setTop (mkF m 40 #[.val (.int q0), .val (.int q1), .val (.int ((-2147483648 : Int32) ||| q0)), .val (.ref nb8), .val (.int (0 : Int32))] [(.int (24 : Int32)), (.int ((-2147483648 : Int32) ||| q0)), (.int (0 : Int32)), (.ref nb8)]))
    refine own_by (fun _ k => XS.iushr X8.here hx rfl (hb hby d1_40) rfl k) ?_
    show OEnds p e below s _ _ _ (T8.setTop (mkF m 41 #[.val (.int q0), .val (.int q1), .val (.int ((-2147483648 : Int32) ||| q0)), .val (.ref nb8), .val (.int (0 : Int32))] [(.int ((((-2147483648 : Int32) ||| q0).toUInt32 >>> ((24 : Int32) &&& 31).toUInt32).toInt32)), (.int (0 : Int32)), (.ref nb8)]))
    refine own_by (fun _ k => XS.i2b X8.here hx rfl (hb hby d1_41) rfl k) ?_
    show OEnds p e below s _ _ _ (T8.setTop (mkF m 42 #[.val (.int q0), .val (.int q1), .val (.int ((-2147483648 : Int32) ||| q0)), .val (.ref nb8), .val (.int (0 : Int32))] [(.int (((((-2147483648 : Int32) ||| q0).toUInt32 >>> ((24 : Int32) &&& 31).toUInt32).toInt32).toInt8.toInt32)), (.int (0 : Int32)), (.ref nb8)]))
    obtain ⟨T9, h9, X9, e9, W9, st9⟩ := own_bastore X8 hx hZ e8 F8 0 (by decide) (by decide) (g := (mkF m 42 #[.val (.int q0), .val (.int q1), .val (.int ((-2147483648 : Int32) ||| q0)), .val (.ref nb8), .val (.int (0 : Int32))] [(.int (((((-2147483648 : Int32) ||| q0).toUInt32 >>> ((24 : Int32) &&& 31).toUInt32).toInt32).toInt8.toInt32)), (.int (0 : Int32)), (.ref nb8)])) rfl rfl (hb hby d1_42)
    refine own_by (st9) ?_
    have F9 : FA Z h9 nb8 .byte 4 (fun i => .int ((updI (fun _ => (0 : Int32)) 0 (nar .byte (((((-2147483648 : Int32) ||| q0).toUInt32 >>> ((24 : Int32) &&& 31).toUInt32).toInt32).toInt8.toInt32))) i)) := F8.setI W9
    obtain ⟨f9, ef9⟩ : ∃ f : Nat → Int32, f = (updI (fun _ => (0 : Int32)) 0 (nar .byte (((((-2147483648 : Int32) ||| q0).toUInt32 >>> ((24 : Int32) &&& 31).toUInt32).toInt32).toInt8.toInt32))) := ⟨_, rfl⟩
    rw [← ef9] at F9
    have N9 := Fr.snoc X9 N0 g_nb8
    have Z9 : n0 ≤ h9.size := Nat.le_trans Z8 (Keep.of_wr W9).1
    have K9 : Keep h0 h9 [] := K8.wr W9 (Or.inr sz_nb8)
    show OEnds p e below s _ _ _ (T9.setTop (mkF m 43 #[.val (.int q0), .val (.int q1), .val (.int ((-2147483648 : Int32) ||| q0)), .val (.ref nb8), .val (.int (0 : Int32))] []))
    refine own_by (fun _ k => XS.iinc X9.here hx rfl (hb hby d1_43) rfl (l' := #[.val (.int q0), .val (.int q1), .val (.int ((-2147483648 : Int32) ||| q0)), .val (.ref nb8), .val (.int (1 : Int32))]) rfl k) ?_
    show OEnds p e below s _ _ _ (T9.setTop (mkF m 46 #[.val (.int q0), .val (.int q1), .val (.int ((-2147483648 : Int32) ||| q0)), .val (.ref nb8), .val (.int (1 : Int32))] []))
    refine own_by (fun _ k => XS.goto X9.here hx rfl (pc0 := 46) (pc' := 20) rfl (hb hby d1_46) (by decide) (by decide) k) ?_
    show OEnds p e below s _ _ _ (T9.setTop (mkF m 20 #[.val (.int q0), .val (.int q1), .val (.int ((-2147483648 : Int32) ||| q0)), .val (.ref nb8), .val (.int (1 : Int32))] []))
    refine own_by (fun _ k => XS.iload X9.here hx rfl (hb hby d1_20) rfl k) ?_
    show OEnds p e below s _ _ _ (T9.setTop (mkF m 22 #[.val (.int q0), .val (.int q1), .val (.int ((-2147483648 : Int32) ||| q0)), .val (.ref nb8), .val (.int (1 : Int32))] [(.int (1 : Int32))]))
    refine own_by (fun _ k => XS.iconst X9.here hx rfl (hb hby d1_22) k) ?_
    show OEnds p e below s _ _ _ (T9.setTop (mkF m 23 #[.val (.int q0), .val (.int q1), .val (.int ((-2147483648 : Int32) ||| q0)), .val (.ref nb8), .val (.int (1 : Int32))] [(.int (4 : Int32)), (.int (1 : Int32))]))
    refine own_by (fun _ k => XS.icmpNo X9.here hx rfl (hb hby d1_23) rfl (tlt (by decide : (1 : Int32) < (4 : Int32))).2.1 k) ?_
    show OEnds p e below s _ _ _ (T9.setTop (mkF m 26 #[.val (.int q0), .val (.int q1), .val (.int ((-2147483648 : Int32) ||| q0)), .val (.ref nb8), .val (.int (1 : Int32))] []))
    refine own_by (fun _ k => XS.aloadN X9.here hx rfl (hb hby d1_26) rfl rfl k) ?_
    show OEnds p e below s _ _ _ (T9.setTop (mkF m 27 #[.val (.int q0), .val (.int q1), .val (.int ((-2147483648 : Int32) ||| q0)), .val (.ref nb8), .val (.int (1 : Int32))] [(.ref nb8)]))
    refine own_by (fun _ k => XS.iload X9.here hx rfl (hb hby d1_27) rfl k) ?_
    show OEnds p e below s _ _ _ (T9.setTop (mkF m 29 #[.val (.int q0), .val (.int q1), .val (.int ((-2147483648 : Int32) ||| q0)), .val (.ref nb8), .val (.int (1 : Int32))] [(.int (1 : Int32)), (.ref nb8)]))
    refine own_by (fun _ k => XS.iloadN X9.here hx rfl (hb hby d1_29) rfl k) ?_
    show OEnds p e below s _ _ _ (T9.setTop (mkF m 30 #[.val (.int q0), .val (.int q1), .val (.int ((-2147483648 : Int32) ||| q0)), .val (.ref nb8), .val (.int (1 : Int32))] [(.int ((-2147483648 : Int32) ||| q0)), (.int (1 : Int32)), (.ref nb8)]))
    refine own_by (fun _ k => XS.bipush X9.here hx rfl (hb hby d1_30) k) ?_
    show OEnds p e below s _ _ _ (T9.setTop (mkF m 32 #[.val (.int q0), .val (.int q1), .val (.int ((-2147483648 : Int32) ||| q0)), .val (.ref nb8), .val (.int (1 : Int32))] [(.int (32 : Int32)), (.int ((-2147483648 : Int32) ||| q0)), (.int (1 : Int32)), (.ref nb8)]))
    refine own_by (fun _ k => XS.bipush X9.here hx rfl (hb hby d1_32) k) ?_
    show OEnds p e below s _ _ _ (T9.setTop (mkF m 34 #[.val (.int q0), .val (.int q1), .val (.int ((-2147483648 : Int32) ||| q0)), .val (.ref nb8), .val (.int (1 : Int32))] [(.int (8 : Int32)), (.int (32 : Int32)), (.int ((-2147483648 : Int32) ||| q0)), (.int (1 : Int32)), (.ref nb8)]))
    refine own_by (fun _ k => XS.iload X9.here hx rfl (hb hby d1_34) rfl k) ?_
    show OEnds p e below s _ _ _ (T9.setTop (mkF m 36 #[.val (.int q0), .val (.int q1), .val (.int ((-2147483648 : Int32) ||| q0)), .val (.ref nb8), .val (.int (1 : Int32))] [(.int (1 : Int32)), (.int (8 : Int32)), (.int (32 : Int32)), (.int ((-2147483648 : Int32) ||| q0)), (.int (1 : Int32)), (.ref nb8)]))
    refine own_by (fun _ k => XS.iconst X9.here hx rfl (hb hby d1_36) k) ?_
    show OEnds p e below s _ _ _ (T9.setTop (mkF m 37 #[.val (.int q0), .val (.int q1), .val (.int ((-2147483648 : Int32) ||| q0)), .val (.ref nb8), .val (.int (1 : Int32))] [(.int (1 : Int32)), (.int (1 : Int32)), (.int (8 : Int32)), (.int (32 : Int32)), (.int ((-2147483648 : Int32) ||| q0)), (.int (1 : Int32)), (.ref nb8)]))
    refine own_by (fun _ k => XS.iadd X9.here hx rfl (hb hby d1_37) rfl k) ?_
    show OEnds p e below s _ _ _ (T9.setTop (mkF m 38 #[.val (.int q0), .val (.int q1), .val (.int ((-2147483648 : Int32) ||| q0)), .val (.ref nb8), .val (.int (1 : Int32))] [(.int (2 : Int32)), (.int (8 : Int32)), (.int (32 : Int32)), (.int ((-2147483648 : Int32) ||| q0)), (.int (1 : Int32)), (.ref nb8)]))
    refine own_by (fun _ k => XS.imul X9.here hx rfl (hb hby d1_38) rfl k) ?_
    show OEnds p e below s _ _ _ (T9.setTop (mkF m 39 #[.val (.int q0), .val (.int q1), .val (.int ((-2147483648 : Int32) ||| q0)), .val (.ref nb8), .val (.int (1 : Int32))] [(.int (16 : Int32)), (.int (32 : Int32)), (.int ((-2147483648 : Int32) ||| q0)), (.int (1 : Int32)), (.ref nb8)]))
    refine own_by (fun _ k => XS.isub X9.here hx rfl (hb hby d1_39) rfl k) ?_
    show OEnds p e below s _ _ _ (T9.setTop (mkF m 40 #[.val (.int q0), .val (.int q1), .val (.int ((-2147483648 : Int32) ||| q0)), .val (.ref nb8), .val (.int (1 : Int32))] [(.int (16 : Int32)), (.int ((-2147483648 : Int32) ||| q0)), (.int (1 : Int32)), (.ref nb8)]))
    refine own_by (fun _ k => XS.iushr X9.here hx rfl (hb hby d1_40) rfl k) ?_
    show OEnds p e below s _ _ _ (T9.setTop (mkF m 41 #[.val (.int q0), .val (.int q1), .val (.int ((-2147483648 : Int32) ||| q0)), .val (.ref nb8), .val (.int (1 : Int32))] [(.int ((((-2147483648 : Int32) ||| q0).toUInt32 >>> ((16 : Int32) &&& 31).toUInt32).toInt32)), (.int (1 : Int32)), (.ref nb8)]))
    refine own_by (fun _ k => XS.i2b X9.here hx rfl (hb hby d1_41) rfl k) ?_
    show OEnds p e below s _ _ _ (T9.setTop (mkF m 42 #[.val (.int q0), .val (.int q1), .val (.int ((-2147483648 : Int32) ||| q0)), .val (.ref nb8), .val (.int (1 : Int32))] [(.int (((((-2147483648 : Int32) ||| q0).toUInt32 >>> ((16 : Int32) &&& 31).toUInt32).toInt32).toInt8.toInt32)), (.int (1 : Int32)), (.ref nb8)]))
    obtain ⟨T10, h10, X10, e10, W10, st10⟩ := own_bastore X9 hx hZ e9 F9 1 (by decide) (by decide) (g := (mkF m 42 #[.val (.int q0), .val (.int q1), .val (.int ((-2147483648 : Int32) ||| q0)), .val (.ref nb8), .val (.int (1 : Int32))] [(.int (((((-2147483648 : Int32) ||| q0).toUInt32 >>> ((16 : Int32) &&& 31).toUInt32).toInt32).toInt8.toInt32)), (.int (1 : Int32)), (.ref nb8)])) rfl rfl (hb hby d1_42)
    refine own_by (st10) ?_
    have F10 : FA Z h10 nb8 .byte 4 (fun i => .int ((updI f9 1 (nar .byte (((((-2147483648 : Int32) ||| q0).toUInt32 >>> ((16 : Int32) &&& 31).toUInt32).toInt32).toInt8.toInt32))) i)) := F9.setI W10
    obtain ⟨f10, ef10⟩ : ∃ f : Nat → Int32, f = (updI f9 1 (nar .byte (((((-2147483648 : Int32) ||| q0).toUInt32 >>> ((16 : Int32) &&& 31).toUInt32).toInt32).toInt8.toInt32))) := ⟨_, rfl⟩
    rw [← ef10] at F10
    have N10 := Fr.snoc X10 N9 g_nb8
    have Z10 : n0 ≤ h10.size := Nat.le_trans Z9 (Keep.of_wr W10).1
    have K10 : Keep h0 h10 [] := K9.wr W10 (Or.inr sz_nb8)
    show OEnds p e below s _ _ _ (T10.setTop (mkF m 43 #[.val (.int q0), .val (.int q1), .val (.int ((-2147483648 : Int32) ||| q0)), .val (.ref nb8), .val (.int (1 : Int32))] []))
    refine own_by (fun _ k => XS.iinc X10.here hx rfl (hb hby d1_43) rfl (l' := #[.val (.int q0), .val (.int q1), .val (.int ((-2147483648 : Int32) ||| q0)), .val (.ref nb8), .val (.int (2 : Int32))]) rfl k) ?_
    show OEnds p e below s _ _ _ (T10.setTop (mkF m 46 #[.val (.int q0), .val (.int q1), .val (.int ((-2147483648 : Int32) ||| q0)), .val (.ref nb8), .val (.int (2 : Int32))] []))
    refine own_by (fun _ k => XS.goto X10.here hx rfl (pc0 := 46) (pc' := 20) rfl (hb hby d1_46) (by decide) (by decide) k) ?_
    show OEnds p e below s _ _ _ (T10.setTop (mkF m 20 #[.val (.int q0), .val (.int q1), .val (.int ((-2147483648 : Int32) ||| q0)), .val (.ref nb8), .val (.int (2 : Int32))] []))
    refine own_by (fun _ k => XS.iload X10.here hx rfl (hb hby d1_20) rfl k) ?_
    show OEnds p e below s _ _ _ (T10.setTop (mkF m 22 #[.val (.int q0), .val (.int q1), .val (.int ((-2147483648 : Int32) ||| q0)), .val (.ref nb8), .val (.int (2 : Int32))] [(.int (2 : Int32))]))
    refine own_by (fun _ k => XS.iconst X10.here hx rfl (hb hby d1_22) k) ?_
    show OEnds p e below s _ _ _ (T10.setTop (mkF m 23 #[.val (.int q0), .val (.int q1), .val (.int ((-2147483648 : Int32) ||| q0)), .val (.ref nb8), .val (.int (2 : Int32))] [(.int (4 : Int32)), (.int (2 : Int32))]))
    refine own_by (fun _ k => XS.icmpNo X10.here hx rfl (hb hby d1_23) rfl (tlt (by decide : (2 : Int32) < (4 : Int32))).2.1 k) ?_
    show OEnds p e below s _ _ _ (T10.setTop (mkF m 26 #[.val (.int q0), .val (.int q1), .val (.int ((-2147483648 : Int32) ||| q0)), .val (.ref nb8), .val (.int (2 : Int32))] []))
    refine own_by (fun _ k => XS.aloadN X10.here hx rfl (hb hby d1_26) rfl rfl k) ?_
    show OEnds p e below s _ _ _ (T10.setTop (mkF m 27 #[.val (.int q0), .val (.int q1), .val (.int ((-2147483648 : Int32) ||| q0)), .val (.ref nb8), .val (.int (2 : Int32))] [(.ref nb8)]))
    refine own_by (fun _ k => XS.iload X10.here hx rfl (hb hby d1_27) rfl k) ?_
    show OEnds p e below s _ _ _ (T10.setTop (mkF m 29 #[.val (.int q0), .val (.int q1), .val (.int ((-2147483648 : Int32) ||| q0)), .val (.ref nb8), .val (.int (2 : Int32))] [(.int (2 : Int32)), (.ref nb8)]))
    refine own_by (fun _ k => XS.iloadN X10.here hx rfl (hb hby d1_29) rfl k) ?_
    show OEnds p e below s _ _ _ (T10.setTop (mkF m 30 #[.val (.int q0), .val (.int q1), .val (.int ((-2147483648 : Int32) ||| q0)), .val (.ref nb8), .val (.int (2 : Int32))] [(.int ((-2147483648 : Int32) ||| q0)), (.int (2 : Int32)), (.ref nb8)]))
    refine own_by (fun _ k => XS.bipush X10.here hx rfl (hb hby d1_30) k) ?_
    show OEnds p e below s _ _ _ (T10.setTop (mkF m 32 #[.val (.int q0), .val (.int q1), .val (.int ((-2147483648 : Int32) ||| q0)), .val (.ref nb8), .val (.int (2 : Int32))] [(.int (32 : Int32)), (.int ((-2147483648 : Int32) ||| q0)), (.int (2 : Int32)), (.ref nb8)]))
    refine own_by (fun _ k => XS.bipush X10.here hx rfl (hb hby d1_32) k) ?_
    show OEnds p e below s _ _ _ (T10.setTop (mkF m 34 #[.val (.int q0), .val (.int q1), .val (.int ((-2147483648 : Int32) ||| q0)), .val (.ref nb8), .val (.int (2 : Int32))] [(.int (8 : Int32)), (.int (32 : Int32)), (.int ((-2147483648 : Int32) ||| q0)), (.int (2 : Int32)), (.ref nb8)]))
    refine own_by (fun _ k => XS.iload X10.here hx rfl (hb hby d1_34) rfl k) ?_
    show OEnds p e below s _ _ _ (T10.setTop (mkF m 36 #[.val (.int q0), .val (.int q1), .val (.int ((-2147483648 : Int32) ||| q0)), .val (.ref nb8), .val (.int (2 : Int32))] [(.int (2 : Int32)), (.int (8 : Int32)), (.int (32 : Int32)), (.int ((-2147483648 : Int32) ||| q0)), (.int (2 : Int32)), (.ref nb8)]))
    refine own_by (fun _ k => XS.iconst X10.here hx rfl (hb hby d1_36) k) ?_
    show OEnds p e below s _ _ _ (T10.setTop (mkF m 37 #[.val (.int q0), .val (.int q1), .val (.int ((-2147483648 : Int32) ||| q0)), .val (.ref nb8), .val (.int (2 : Int32))] [(.int (1 : Int32)), (.int (2 : Int32)), (.int (8 : Int32)), (.int (32 : Int32)), (.int ((-2147483648 : Int32) ||| q0)), (.int (2 : Int32)), (.ref nb8)]))
    refine own_by (fun _ k => XS.iadd X10.here hx rfl (hb hby d1_37) rfl k) ?_
    show OEnds p e below s _ _ _ (T10.setTop (mkF m 38 #[.val (.int q0), .val (.int q1), .val (.int ((-2147483648 : Int32) ||| q0)), .val (.ref nb8), .val (.int (2 : Int32))] [(.int (3 : Int32)), (.int (8 : Int32)), (.int (32 : Int32)), (.int ((-2147483648 : Int32) ||| q0)), (.int (2 : Int32)), (.ref nb8)]))
    refine own_by (fun _ k => XS.imul X10.here hx rfl (hb hby d1_38) rfl k) ?_
    show OEnds p e below s _ _ _ (T10.setTop (mkF m 39 #[.val (.int q0), .val (.int q1), .val (.int ((-2147483648 : Int32) ||| q0)), .val (.ref nb8), .val (.int (2 : Int32))] [(.int (24 : Int32)), (.int (32 : Int32)), (.int ((-2147483648 : Int32) ||| q0)), (.int (2 : Int32)), (.ref nb8)]))
    refine own_by (fun _ k => XS.isub X10.here hx rfl (hb hby d1_39) rfl k) ?_
    show OEnds p e below s _ _ _ (T10.setTop (mkF m 40 #[.val (.int q0), .val (.int q1), .val (.int ((-2147483648 : Int32) ||| q0)), .val (.ref nb8), .val (.int (2 : Int32))] [(.int (8 : Int32)), (.int ((-2147483648 : Int32) ||| q0)), (.int (2 : Int32)), (.ref nb8)]))
    refine own_by (fun _ k => XS.iushr X10.here hx rfl (hb hby d1_40) rfl k) ?_
    show OEnds p e below s _ _ _ (T10.setTop (mkF m 41 #[.val (.int q0), .val (.int q1), .val (.int ((-2147483648 : Int32) ||| q0)), .val (.ref nb8), .val (.int (2 : Int32))] [(.int ((((-2147483648 : Int32) ||| q0).toUInt32 >>> ((8 : Int32) &&& 31).toUInt32).toInt32)), (.int (2 : Int32)), (.ref nb8)]))
    refine own_by (fun _ k => XS.i2b X10.here hx rfl (hb hby d1_41) rfl k) ?_
    show OEnds p e below s _ _ _ (T10.setTop (mkF m 42 #[.val (.int q0), .val (.int q1), .val (.int ((-2147483648 : Int32) ||| q0)), .val (.ref nb8), .val (.int (2 : Int32))] [(.int (((((-2147483648 : Int32) ||| q0).toUInt32 >>> ((8 : Int32) &&& 31).toUInt32).toInt32).toInt8.toInt32)), (.int (2 : Int32)), (.ref nb8)]))
    obtain ⟨T11, h11, X11, e11, W11, st11⟩ := own_bastore X10 hx hZ e10 F10 2 (by decide) (by decide) (g := (mkF m 42 #[.val (.int q0), .val (.int q1), .val (.int ((-2147483648 : Int32) ||| q0)), .val (.ref nb8), .val (.int (2 : Int32))] [(.int (((((-2147483648 : Int32) ||| q0).toUInt32 >>> ((8 : Int32) &&& 31).toUInt32).toInt32).toInt8.toInt32)), (.int (2 : Int32)), (.ref nb8)])) rfl rfl (hb hby d1_42)
    refine own_by (st11) ?_
    have F11 : FA Z h11 nb8 .byte 4 (fun i => .int ((updI f10 2 (nar .byte (((((-2147483648 : Int32) ||| q0).toUInt32 >>> ((8 : Int32) &&& 31).toUInt32).toInt32).toInt8.toInt32))) i)) := F10.setI W11
    obtain ⟨f11, ef11⟩ : ∃ f : Nat → Int32, f = (updI f10 2 (nar .byte (((((-2147483648 : Int32) ||| q0).toUInt32 >>> ((8 : Int32) &&& 31).toUInt32).toInt32).toInt8.toInt32))) := ⟨_, rfl⟩
    rw [← ef11] at F11
    have N11 := Fr.snoc X11 N10 g_nb8
    have Z11 : n0 ≤ h11.size := Nat.le_trans Z10 (Keep.of_wr W11).1
    have K11 : Keep h0 h11 [] := K10.wr W11 (Or.inr sz_nb8)
    show OEnds p e below s _ _ _ (T11.setTop (mkF m 43 #[.val (.int q0), .val (.int q1), .val (.int ((-2147483648 : Int32) ||| q0)), .val (.ref nb8), .val (.int (2 : Int32))] []))
    refine own_by (fun _ k => XS.iinc X11.here hx rfl (hb hby d1_43) rfl (l' := #[.val (.int q0), .val (.int q1), .val (.int ((-2147483648 : Int32) ||| q0)), .val (.ref nb8), .val (.int (3 : Int32))]) rfl k) ?_
    show OEnds p e below s _ _ _ (T11.setTop (mkF m 46 #[.val (.int q0), .val (.int q1), .val (.int ((-2147483648 : Int32) ||| q0)), .val (.ref nb8), .val (.int (3 : Int32))] []))
    refine own_by (fun _ k => XS.goto X11.here hx rfl (pc0 := 46) (pc' := 20) rfl (hb hby d1_46) (by decide) (by decide) k) ?_
    show OEnds p e below s _ _ _ (T11.setTop (mkF m 20 #[.val (.int q0), .val (.int q1), .val (.int ((-2147483648 : Int32) ||| q0)), .val (.ref nb8), .val (.int (3 : Int32))] []))
    refine own_by (fun _ k => XS.iload X11.here hx rfl (hb hby d1_20) rfl k) ?_
    show OEnds p e below s _ _ _ (T11.setTop (mkF m 22 #[.val (.int q0), .val (.int q1), .val (.int ((-2147483648 : Int32) ||| q0)), .val (.ref nb8), .val (.int (3 : Int32))] [(.int (3 : Int32))]))
    refine own_by (fun _ k => XS.iconst X11.here hx rfl (hb hby d1_22) k) ?_
    show OEnds p e below s _ _ _ (T11.setTop (mkF m 23 #[.val (.int q0), .val (.int q1), .val (.int ((-2147483648 : Int32) ||| q0)), .val (.ref nb8), .val (.int (3 : Int32))] [(.int (4 : Int32)), (.int (3 : Int32))]))
    refine own_by (fun _ k => XS.icmpNo X11.here hx rfl (hb hby d1_23) rfl (tlt (by decide : (3 : Int32) < (4 : Int32))).2.1 k) ?_
    show OEnds p e below s _ _ _ (T11.setTop (mkF m 26 #[.val (.int q0), .val (.int q1), .val (.int ((-2147483648 : Int32) ||| q0)), .val (.ref nb8), .val (.int (3 : Int32))] []))
    refine own_by (fun _ k => XS.aloadN X11.here hx rfl (hb hby d1_26) rfl rfl k) ?_
    show OEnds p e below s _ _ _ (T11.setTop (mkF m 27 #[.val (.int q0), .val (.int q1), .val (.int ((-2147483648 : Int32) ||| q0)), .val (.ref nb8), .val (.int (3 : Int32))] [(.ref nb8)]))
    refine own_by (fun _ k => XS.iload X11.here hx rfl (hb hby d1_27) rfl k) ?_
    show OEnds p e below s _ _ _ (T11.setTop (mkF m 29 #[.val (.int q0), .val (.int q1), .val (.int ((-2147483648 : Int32) ||| q0)), .val (.ref nb8), .val (.int (3 : Int32))] [(.int (3 : Int32)), (.ref nb8)]))
    refine own_by (fun _ k => XS.iloadN X11.here hx rfl (hb hby d1_29) rfl k) ?_
    show OEnds p e below s _ _ _ (T11.setTop (mkF m 30 #[.val (.int q0), .val (.int q1), .val (.int ((-2147483648 : Int32) ||| q0)), .val (.ref nb8), .val (.int (3 : Int32))] [(.int ((-2147483648 : Int32) ||| q0)), (.int (3 : Int32)), (.ref nb8)]))
    refine own_by (fun _ k => XS.bipush X11.here hx rfl (hb hby d1_30) k) ?_
    show OEnds p e below s _ _ _ (T11.setTop (mkF m 32 #[.val (.int q0), .val (.int q1), .val (.int ((-2147483648 : Int32) ||| q0)), .val (.ref nb8), .val (.int (3 : Int32))] [(.int (32 : Int32)), (.int ((-2147483648 : Int32) ||| q0)), (.int (3 : Int32)), (.ref nb8)]))
    refine own_by (fun _ k => XS.bipush X11.here hx rfl (hb hby d1_32) k) ?_
    show OEnds p e below s _ _ _ (T11.setTop (mkF m 34 #[.val (.int q0), .val (.int q1), .val (.int ((-2147483648 : Int32) ||| q0)), .val (.ref nb8), .val (.int (3 : Int32))] [(.int (8 : Int32)), (.int (32 : Int32)), (.int ((-2147483648 : Int32) ||| q0)), (.int (3 : Int32)), (.ref nb8)]))
    refine own_by (fun _ k => XS.iload X11.here hx rfl (hb hby d1_34) rfl k) ?_
    show OEnds p e below s _ _ _ (T11.setTop (mkF m 36 #[.val (.int q0), .val (.int q1), .val (.int ((-2147483648 : Int32) ||| q0)), .val (.ref nb8), .val (.int (3 : Int32))] [(.int (3 : Int32)), (.int (8 : Int32)), (.int (32 : Int32)), (.int ((-2147483648 : Int32) ||| q0)), (.int (3 : Int32)), (.ref nb8)]))
    refine own_by (fun _ k => XS.iconst X11.here hx rfl (hb hby d1_36) k) ?_
    show OEnds p e below s _ _ _ (T11.setTop (mkF m 37 #[.val (.int q0), .val (.int q1), .val (.int ((-2147483648 : Int32) ||| q0)), .val (.ref nb8), .val (.int (3 : Int32))] [(.int (1 : Int32)), (.int (3 : Int32)), (.int (8 : Int32)), (.int (32 : Int32)), (.int ((-2147483648 : Int32) ||| q0)), (.int (3 : Int32)), (.ref nb8)]))
    refine own_by (fun _ k => XS.iadd X11.here hx rfl (hb hby d1_37) rfl k) ?_
    show OEnds p e below s _ _ _ (T11.setTop (mkF m 38 #[.val (.int q0), .val (.int q1), .val (.int ((-2147483648 : Int32) ||| q0)), .val (.ref nb8), .val (.int (3 : Int32))] [(.int (4 : Int32)), (.int (8 : Int32)), (.int (32 : Int32)), (.int ((-2147483648 : Int32) ||| q0)), (.int (3 : Int32)), (.ref nb8)]))
    refine own_by (fun _ k => XS.imul X11.here hx rfl (hb hby d1_38) rfl k) ?_
    show OEnds p e below s _ _ _ (T11.setTop (mkF m 39 #[.val (.int q0), .val (.int q1), .val (.int ((-2147483648 : Int32) ||| q0)), .val (.ref nb8), .val (.int (3 : Int32))] [(.int (32 : Int32)), (.int (32 : Int32)), (.int ((-2147483648 : Int32) ||| q0)), (.int (3 : Int32)), (.ref nb8)]))
    refine own_by (fun _ k => XS.isub X11.here hx rfl (hb hby d1_39) rfl k) ?_
    show OEnds p e below s _ _ _ (T11.setTop (mkF m 40 #[.val (.int q0), .val (.int q1), .val (.int ((-2147483648 : Int32) ||| q0)), .val (.ref nb8), .val (.int (3 : Int32))] [(.int (0 : Int32)), (.int ((-2147483648 : Int32) ||| q0)), (.int (3 : Int32)), (.ref nb8)]))
    refine own_by (fun _ k => XS.iushr X11.here hx rfl (hb hby d1_40) rfl k) ?_
    show OEnds p e below s _ _ _ (T11.setTop (mkF m 41 #[.val (.int q0), .val (.int q1), .val (.int ((-2147483648 : Int32) ||| q0)), .val (.ref nb8), .val (.int (3 : Int32))] [(.int ((((-2147483648 : Int32) ||| q0).toUInt32 >>> ((0 : Int32) &&& 31).toUInt32).toInt32)), (.int (3 : Int32)), (.ref nb8)]))
    refine own_by (fun _ k => XS.i2b X11.here hx rfl (hb hby d1_41) rfl k) ?_
    show OEnds p e below s _ _ _ (T11.setTop (mkF m 42 #[.val (.int q0), .val (.int q1), .val (.int ((-2147483648 : Int32) ||| q0)), .val (.ref nb8), .val (.int (3 : Int32))] [(.int (((((-2147483648 : Int32) ||| q0).toUInt32 >>> ((0 : Int32) &&& 31).toUInt32).toInt32).toInt8.toInt32)), (.int (3 : Int32)), (.ref nb8)]))
    obtain ⟨T12, h12, X12, e12, W12, st12⟩ := own_bastore X11 hx hZ e11 F11 3 (by decide) (by decide) (g := (mkF m 42 #[.val (.int q0), .val (.int q1), .val (.int ((-2147483648 : Int32) ||| q0)), .val (.ref nb8), .val (.int (3 : Int32))] [(.int (((((-2147483648 : Int32) ||| q0).toUInt32 >>> ((0 : Int32) &&& 31).toUInt32).toInt32).toInt8.toInt32)), (.int (3 : Int32)), (.ref nb8)])) rfl rfl (hb hby d1_42)
    refine own_by (st12) ?_
    have F12 : FA Z h12 nb8 .byte 4 (fun i => .int ((updI f11 3 (nar .byte (((((-2147483648 : Int32) ||| q0).toUInt32 >>> ((0 : Int32) &&& 31).toUInt32).toInt32).toInt8.toInt32))) i)) := F11.setI W12
    obtain ⟨f12, ef12⟩ : ∃ f : Nat → Int32, f = (updI f11 3 (nar .byte (((((-2147483648 : Int32) ||| q0).toUInt32 >>> ((0 : Int32) &&& 31).toUInt32).toInt32).toInt8.toInt32))) := ⟨_, rfl⟩
    rw [← ef12] at F12
    have N12 := Fr.snoc X12 N11 g_nb8
    have Z12 : n0 ≤ h12.size := Nat.le_trans Z11 (Keep.of_wr W12).1
    have K12 : Keep h0 h12 [] := K11.wr W12 (Or.inr sz_nb8)
    show OEnds p e below s _ _ _ (T12.setTop (mkF m 43 #[.val (.int q0), .val (.int q1), .val (.int ((-2147483648 : Int32) ||| q0)), .val (.ref nb8), .val (.int (3 : Int32))] []))
    refine own_by (fun _ k => XS.iinc X12.here hx rfl (hb hby d1_43) rfl (l' := #[.val (.int q0), .val (.int q1), .val (.int ((-2147483648 : Int32) ||| q0)), .val (.ref nb8), .val (.int (4 : Int32))]) rfl k) ?_
    show OEnds p e below s _ _ _ (T12.setTop (mkF m 46 #[.val (.int q0), .val (.int q1), .val (.int ((-2147483648 : Int32) ||| q0)), .val (.ref nb8), .val (.int (4 : Int32))] []))
    refine own_by (fun _ k => XS.goto X12.here hx rfl (pc0 := 46) (pc' := 20) rfl (hb hby d1_46) (by decide) (by decide) k) ?_
    show OEnds p e below s _ _ _ (T12.setTop (mkF m 20 #[.val (.int q0), .val (.int q1), .val (.int ((-2147483648 : Int32) ||| q0)), .val (.ref nb8), .val (.int (4 : Int32))] []))
    refine own_by (fun _ k => XS.iload X12.here hx rfl (hb hby d1_20) rfl k) ?_
    show OEnds p e below s _ _ _ (T12.setTop (mkF m 22 #[.val (.int q0), .val (.int q1), .val (.int ((-2147483648 : Int32) ||| q0)), .val (.ref nb8), .val (.int (4 : Int32))] [(.int (4 : Int32))]))
    refine own_by (fun _ k => XS.iconst X12.here hx rfl (hb hby d1_22) k) ?_
    show OEnds p e below s _ _ _ (T12.setTop (mkF m 23 #[.val (.int q0), .val (.int q1), .val (.int ((-2147483648 : Int32) ||| q0)), .val (.ref nb8), .val (.int (4 : Int32))] [(.int (4 : Int32)), (.int (4 : Int32))]))
    refine own_by (fun _ k => XS.icmpYes X12.here hx rfl (pc0 := 23) (pc' := 49) rfl (hb hby d1_23) rfl (flt (by decide : ¬ ((4 : Int32) < (4 : Int32)))).2.1 (by decide) (by decide) k) ?_
    show OEnds p e below s _ _ _ (T12.setTop (mkF m 49 #[.val (.int q0), .val (.int q1), .val (.int ((-2147483648 : Int32) ||| q0)), .val (.ref nb8), .val (.int (4 : Int32))] []))
    refine own_by (fun _ k => XS.aloadN X12.here hx rfl (hb hby d1_49) rfl rfl k) ?_
    show OEnds p e below s _ _ _ (T12.setTop (mkF m 50 #[.val (.int q0), .val (.int q1), .val (.int ((-2147483648 : Int32) ||| q0)), .val (.ref nb8), .val (.int (4 : Int32))] [(.ref nb8)]))
    have FF13 : FA Z h12 nb8 .byte 4 (fun i => .int (hdr q0 q1 i)) := F12.congr (by
      subst ef12 ef11 ef10 ef9
      intro i hi
      have hi4 : i = 0 ∨ i = 1 ∨ i = 2 ∨ i = 3 := by omega
      rcases hi4 with rfl | rfl | rfl | rfl <;> simp [updI, hdr, hword, hc1_1])
    exact own_retA X12 hx hlk rfl Bd.returns rfl (hb hby d1_50) (by rw [e12]; exact ⟨_, rfl, N12, K12, sz_nb8, FF13⟩) (by decide) (by decide)
theorem own_len0 (x : Int32) : 0 ≤ (x &&& (2147483647 : Int32)).toInt := by
  have h := c_mask x 2147483647 31 (by decide) (by decide)
  omega
theorem own_byte (y : Int32) : (nar .byte (y.toInt8.toInt32) &&& (255 : Int32)).toInt = y.toInt % 256 := by
  have h1 := c_mask (nar .byte (y.toInt8.toInt32)) 255 8 (by decide) (by decide)
  have h2 := c_i2b y
  have h3 := c_i2b (y.toInt8.toInt32)
  have e : nar .byte (y.toInt8.toInt32) = y.toInt8.toInt32.toInt8.toInt32 := rfl
  rw [e] at h1 ⊢
  omega
theorem own_sh0 (x : Int32) : ((x.toUInt32 >>> ((0 : Int32) &&& 31).toUInt32).toInt32) = x := by
  have : ((0 : Int32) &&& 31).toUInt32 = 0 := by decide
  rw [this]
  simp
theorem hw0 (x : Int32) : hword x 0 = x := by simp [hword]
theorem hw1 (x : Int32) (h : 0 ≤ x.toInt) : (hword x 1).toInt = x.toInt - 2147483648 := by
  have h1 := rng32 x
  have h2 := c_or (-2147483648) x 31 (by decide) 2147483648 (by decide) (by decide) h (by omega)
  have h3 := rng32 ((-2147483648 : Int32) ||| x)
  have h4 : (-2147483648 : Int32).toInt = -2147483648 := by decide
  have e : hword x 1 = ((-2147483648 : Int32) ||| x) := by rw [hword, if_neg (by decide)]
  rw [e]
  omega
theorem own_b0f {ln : Int32} (h : 0 ≤ ln.toInt) : ((hdr ln (0 : Int32)) 0) &&& (255 : Int32) = (ln / (16777216 : Int32)) + (0 : Int32) := by
  have r := rng32 ln
  apply Int32.toInt_inj.mp
  have e : hdr ln (0 : Int32) 0 = nar .byte (((hword ln 0).toUInt32 >>> ((24 : Int32) &&& 31).toUInt32).toInt32.toInt8.toInt32) := by simp [hdr]
  rw [e, own_byte]
  rw [hw0]
  rw [c_iushr ln 24 24 (by decide) (by decide)]
  have d := (c_idiv ln 16777216 16777216 (by decide) (by decide)).1 h
  have a := c_iadd (ln / 16777216) 0
  have a2 := rng32 (ln / 16777216 + 0)
  have a3 : (0 : Int32).toInt = 0 := by decide
  omega
theorem own_b1f {ln : Int32} (h : 0 ≤ ln.toInt) : ((hdr ln (0 : Int32)) 1) &&& (255 : Int32) = (ln / (65536 : Int32)) % (256 : Int32) := by
  have r := rng32 ln
  apply Int32.toInt_inj.mp
  have e : hdr ln (0 : Int32) 1 = nar .byte (((hword ln 0).toUInt32 >>> ((16 : Int32) &&& 31).toUInt32).toInt32.toInt8.toInt32) := by simp [hdr]
  rw [e, own_byte]
  rw [hw0]
  rw [c_iushr ln 16 16 (by decide) (by decide)]
  have d := (c_idiv ln 65536 65536 (by decide) (by decide)).1 h
  have m := (c_irem (ln / 65536) 256 256 (by decide)).1 (by omega)
  omega
theorem own_b2f {ln : Int32} (h : 0 ≤ ln.toInt) : ((hdr ln (0 : Int32)) 2) &&& (255 : Int32) = (ln / (256 : Int32)) % (256 : Int32) := by
  have r := rng32 ln
  apply Int32.toInt_inj.mp
  have e : hdr ln (0 : Int32) 2 = nar .byte (((hword ln 0).toUInt32 >>> ((8 : Int32) &&& 31).toUInt32).toInt32.toInt8.toInt32) := by simp [hdr]
  rw [e, own_byte]
  rw [hw0]
  rw [c_iushr ln 8 8 (by decide) (by decide)]
  have d := (c_idiv ln 256 256 (by decide) (by decide)).1 h
  have m := (c_irem (ln / 256) 256 256 (by decide)).1 (by omega)
  omega
theorem own_b3f {ln : Int32} (h : 0 ≤ ln.toInt) : ((hdr ln (0 : Int32)) 3) &&& (255 : Int32) = ln % (256 : Int32) := by
  have r := rng32 ln
  apply Int32.toInt_inj.mp
  have e : hdr ln (0 : Int32) 3 = nar .byte (((hword ln 0).toUInt32 >>> ((0 : Int32) &&& 31).toUInt32).toInt32.toInt8.toInt32) := by simp [hdr]
  rw [e, own_byte]
  rw [hw0]
  rw [own_sh0]
  have m := (c_irem ln 256 256 (by decide)).1 h
  omega
theorem own_b0t {ln : Int32} (h : 0 ≤ ln.toInt) : ((hdr ln (1 : Int32)) 0) &&& (255 : Int32) = (ln / (16777216 : Int32)) + (128 : Int32) := by
  have r := rng32 ln
  apply Int32.toInt_inj.mp
  have e : hdr ln (1 : Int32) 0 = nar .byte (((hword ln 1).toUInt32 >>> ((24 : Int32) &&& 31).toUInt32).toInt32.toInt8.toInt32) := by simp [hdr]
  rw [e, own_byte]
  have k := hw1 ln h
  rw [c_iushr (hword ln 1) 24 24 (by decide) (by decide)]
  have d := (c_idiv ln 16777216 16777216 (by decide) (by decide)).1 h
  have a := c_iadd (ln / 16777216) 128
  have a2 := rng32 (ln / 16777216 + 128)
  have a3 : (128 : Int32).toInt = 128 := by decide
  omega
theorem own_b1t {ln : Int32} (h : 0 ≤ ln.toInt) : ((hdr ln (1 : Int32)) 1) &&& (255 : Int32) = (ln / (65536 : Int32)) % (256 : Int32) := by
  have r := rng32 ln
  apply Int32.toInt_inj.mp
  have e : hdr ln (1 : Int32) 1 = nar .byte (((hword ln 1).toUInt32 >>> ((16 : Int32) &&& 31).toUInt32).toInt32.toInt8.toInt32) := by simp [hdr]
  rw [e, own_byte]
  have k := hw1 ln h
  rw [c_iushr (hword ln 1) 16 16 (by decide) (by decide)]
  have d := (c_idiv ln 65536 65536 (by decide) (by decide)).1 h
  have m := (c_irem (ln / 65536) 256 256 (by decide)).1 (by omega)
  omega
theorem own_b2t {ln : Int32} (h : 0 ≤ ln.toInt) : ((hdr ln (1 : Int32)) 2) &&& (255 : Int32) = (ln / (256 : Int32)) % (256 : Int32) := by
  have r := rng32 ln
  apply Int32.toInt_inj.mp
  have e : hdr ln (1 : Int32) 2 = nar .byte (((hword ln 1).toUInt32 >>> ((8 : Int32) &&& 31).toUInt32).toInt32.toInt8.toInt32) := by simp [hdr]
  rw [e, own_byte]
  have k := hw1 ln h
  rw [c_iushr (hword ln 1) 8 8 (by decide) (by decide)]
  have d := (c_idiv ln 256 256 (by decide) (by decide)).1 h
  have m := (c_irem (ln / 256) 256 256 (by decide)).1 (by omega)
  omega
theorem own_b3t {ln : Int32} (h : 0 ≤ ln.toInt) : ((hdr ln (1 : Int32)) 3) &&& (255 : Int32) = ln % (256 : Int32) := by
  have r := rng32 ln
  apply Int32.toInt_inj.mp
  have e : hdr ln (1 : Int32) 3 = nar .byte (((hword ln 1).toUInt32 >>> ((0 : Int32) &&& 31).toUInt32).toInt32.toInt8.toInt32) := by simp [hdr]
  rw [e, own_byte]
  have k := hw1 ln h
  rw [own_sh0]
  have m := (c_irem ln 256 256 (by decide)).1 h
  omega
theorem pn_0 : plainName "com/example/fourfold/fourfold/xdr/FragmentHeaderOfPinLaw" = true := by first | (simp [plainName, overriddenIn]; done) | decide +kernel
theorem ef_0 (m : MethodId) (q0 : Int32) (q1 : Int32) : entryFrame m #[(.int q0), (.int q1)] maxLocals = mkF m 0 #[.val (.int q0), .val (.int q1), .unset, .unset, .unset, .unset, .unset, .unset, .unset] [] := by first | (simp [entryFrame, mkF, argsToLocals, Value.category, maxLocals]; done) | rfl
def QL (n0 : Nat) (v : Option Value) (h : Heap) (L : List Loc) : Prop := v = some (.int 1) ∧ Fr n0 L
set_option maxRecDepth 65536 in
set_option maxHeartbeats 40000000 in
theorem rm_law (l : Launch) (Z : State) (a0 : Array Value) (hw : ∀ d ∈ tables_1, d.before a0 Z = true) (ws : List Jvm.Cond) (q0 : Int32) (q1 : Int32) (h0 : Heap) (n0 : Nat) (Z0 : n0 ≤ h0.size) :
    MetFree l x (head1 (Jvm.Cond.code x code maxLocals ret :: ws) room_1) (fun a_ U => a_ = #[(.int q0), (.int q1)] ∧ Z.Warmed39 U.vm ∧ U.heap = h0) (fun _ _ _ _ _ => True) (fun _ U o U' => ∃ v_ L_, o = .returned v_ ∧ QL n0 v_ U'.heap L_ ∧ FrameEnd U o U' L_ room_1.cells room_1.slots) := by
  refine MetFree.of_bodySF (plainFor_of_name pn_0) hisR ?_
  intro p e s m args below meth c s₁ Bd hml0 hP hK
  obtain ⟨rfl, hZ, hh⟩ := hP
  have hx := Bd.exec
  have hby := Bd.bytes
  have hlk : meth.locks = false := Bd.notSynchronized
  have hml : c.maxLocals = 9 := hml0
  have hown : s.vm.findClass "com/example/fourfold/fourfold/xdr/FragmentHeaderOfPinLaw" = some m.cls := findClass_of_methodNamed Bd.named
  have hnm := (name_of_methodNamed Bd.named Bd.method).1
  have X0 : Stand p l e room_1 s m #[(.int q0), (.int q1)] below meth c s₁ [] 0 0 := Stand.of_body Bd
  have e0 : s₁.heap = h0 := by rw [← hh, Bd.state]; rfl
  have N0 := Fr.nil n0
  have K0 : Keep h0 h0 [] := Keep.refl _ _
  show OEnds p e below s (QL n0) _ _ _
  refine own_by (fun t k => castTop (ef_0 m q0 q1) k) ?_
  show OEnds p e below s _ _ _ (s₁.setTop (mkF m 0 #[.val (.int q0), .val (.int q1), .unset, .unset, .unset, .unset, .unset, .unset, .unset] []))
  refine own_by (fun _ k => XS.iloadN X0.here hx rfl (hb hby at_0) rfl k) ?_
  show OEnds p e below s _ _ _ (s₁.setTop (mkF m 1 #[.val (.int q0), .val (.int q1), .unset, .unset, .unset, .unset, .unset, .unset, .unset] [(.int q0)]))
  refine own_by (X0.ldcInt hx hown (mvT hZ (hw _ (List.mem_of_getElem? (i := 0) rfl))) (g := (mkF m 1 #[.val (.int q0), .val (.int q1), .unset, .unset, .unset, .unset, .unset, .unset, .unset] [(.int q0)])) rfl (hb hby at_1)) ?_
  show OEnds p e below s _ _ _ (s₁.setTop (mkF m 3 #[.val (.int q0), .val (.int q1), .unset, .unset, .unset, .unset, .unset, .unset, .unset] [(.int (2147483647 : Int32)), (.int q0)]))
  refine own_by (fun _ k => XS.iand X0.here hx rfl (hb hby at_3) rfl k) ?_
  show OEnds p e below s _ _ _ (s₁.setTop (mkF m 4 #[.val (.int q0), .val (.int q1), .unset, .unset, .unset, .unset, .unset, .unset, .unset] [(.int (q0 &&& (2147483647 : Int32)))]))
  refine own_by (fun _ k => XS.istoreN X0.here hx rfl (hb hby at_4) rfl (l' := #[.val (.int q0), .val (.int q1), .val (.int (q0 &&& (2147483647 : Int32))), .unset, .unset, .unset, .unset, .unset, .unset]) rfl k) ?_
  show OEnds p e below s _ _ _ (s₁.setTop (mkF m 5 #[.val (.int q0), .val (.int q1), .val (.int (q0 &&& (2147483647 : Int32))), .unset, .unset, .unset, .unset, .unset, .unset] []))
  have hln := own_len0 q0
  generalize (q0 &&& (2147483647 : Int32)) = ln at hln ⊢
  show OEnds p e below s _ _ _ (s₁.setTop (mkF m 5 #[.val (.int q0), .val (.int q1), .val (.int ln), .unset, .unset, .unset, .unset, .unset, .unset] []))
  refine own_by (fun _ k => XS.iloadN X0.here hx rfl (hb hby at_5) rfl k) ?_
  show OEnds p e below s _ _ _ (s₁.setTop (mkF m 6 #[.val (.int q0), .val (.int q1), .val (.int ln), .unset, .unset, .unset, .unset, .unset, .unset] [(.int q1)]))
  refine own_by (fun _ k => XS.iconst X0.here hx rfl (hb hby at_6) k) ?_
  show OEnds p e below s _ _ _ (s₁.setTop (mkF m 7 #[.val (.int q0), .val (.int q1), .val (.int ln), .unset, .unset, .unset, .unset, .unset, .unset] [(.int (1 : Int32)), (.int q1)]))
  refine own_by (fun _ k => XS.iand X0.here hx rfl (hb hby at_7) rfl k) ?_
  show OEnds p e below s _ _ _ (s₁.setTop (mkF m 8 #[.val (.int q0), .val (.int q1), .val (.int ln), .unset, .unset, .unset, .unset, .unset, .unset] [(.int (q1 &&& (1 : Int32)))]))
  by_cases hc8_1 : (q1 &&& (1 : Int32)) = (0 : Int32)
  · refine own_by (fun _ k => XS.ifYes X0.here hx rfl (pc0 := 8) (pc' := 15) rfl (hb hby at_8) rfl ((if0 _ _).trans (teq hc8_1).1) (by decide) (by decide) k) ?_
    show OEnds p e below s _ _ _ (s₁.setTop (mkF m 15 #[.val (.int q0), .val (.int q1), .val (.int ln), .unset, .unset, .unset, .unset, .unset, .unset] []))
    refine own_by (fun _ k => XS.iconst X0.here hx rfl (hb hby at_15) k) ?_
    show OEnds p e below s _ _ _ (s₁.setTop (mkF m 16 #[.val (.int q0), .val (.int q1), .val (.int ln), .unset, .unset, .unset, .unset, .unset, .unset] [(.int (0 : Int32))]))
    refine own_by (fun _ k => XS.istoreN X0.here hx rfl (hb hby at_16) rfl (l' := #[.val (.int q0), .val (.int q1), .val (.int ln), .val (.int (0 : Int32)), .unset, .unset, .unset, .unset, .unset]) rfl k) ?_
    show OEnds p e below s _ _ _ (s₁.setTop (mkF m 17 #[.val (.int q0), .val (.int q1), .val (.int ln), .val (.int (0 : Int32)), .unset, .unset, .unset, .unset, .unset] []))
    refine own_by (fun _ k => XS.iloadN X0.here hx rfl (hb hby at_17) rfl k) ?_
    show OEnds p e below s _ _ _ (s₁.setTop (mkF m 18 #[.val (.int q0), .val (.int q1), .val (.int ln), .val (.int (0 : Int32)), .unset, .unset, .unset, .unset, .unset] [(.int ln)]))
    refine own_by (fun _ k => XS.iloadN X0.here hx rfl (hb hby at_18) rfl k) ?_
    show OEnds p e below s _ _ _ (s₁.setTop (mkF m 19 #[.val (.int q0), .val (.int q1), .val (.int ln), .val (.int (0 : Int32)), .unset, .unset, .unset, .unset, .unset] [(.int (0 : Int32)), (.int ln)]))
    obtain ⟨v2, T2, L2, h2, X2, e2, hQ2, st2⟩ := own_callS X0 hx hZ (y := (⟨"com/example/fourfold/fourfold/xdr/FragmentHeader", "of", "(IZ)[B"⟩ : MethodName)) hown (hw _ (List.mem_of_getElem? (i := 1) rfl)) (hw _ (List.mem_of_getElem? (i := 2) rfl)) (hw _ (List.mem_of_getElem? (i := 3) rfl)) (hw _ (List.mem_of_getElem? (i := 4) rfl)) (by decide) (rm_of l Z a0 hw [] ln (0 : Int32) h0 n0 Z0) e0 (g := (mkF m 19 #[.val (.int q0), .val (.int q1), .val (.int ln), .val (.int (0 : Int32)), .unset, .unset, .unset, .unset, .unset] [(.int (0 : Int32)), (.int ln)])) rfl (by rw [hml]; rfl) (argsL := [(.int ln), (.int (0 : Int32))]) (rest := []) (lenOf pd_pIZraB rfl) rfl (W := 0) (by show 2 * 0 + _ ≤ _; exact Nat.le_of_eq rfl) (hb hby at_19) (by decide) (by decide) (by decide) (by decide)
    obtain ⟨b2, rfl, Nq2, Kq2, sq2, F2⟩ := hQ2
    have N2 := Fr.app N0 Nq2
    have Z2 : n0 ≤ h2.size := Nat.le_trans Z0 Kq2.1
    refine own_tr st2 ?_
    show OEnds p e below s _ _ _ (T2.setTop (mkF m 22 #[.val (.int q0), .val (.int q1), .val (.int ln), .val (.int (0 : Int32)), .unset, .unset, .unset, .unset, .unset] [(.ref b2)]))
    refine own_by (fun _ k => XS.astore X2.here hx rfl (hb hby at_22) rfl rfl (l' := #[.val (.int q0), .val (.int q1), .val (.int ln), .val (.int (0 : Int32)), .val (.ref b2), .unset, .unset, .unset, .unset]) rfl k) ?_
    show OEnds p e below s _ _ _ (T2.setTop (mkF m 24 #[.val (.int q0), .val (.int q1), .val (.int ln), .val (.int (0 : Int32)), .val (.ref b2), .unset, .unset, .unset, .unset] []))
    refine own_by (fun _ k => XS.aload X2.here hx rfl (hb hby at_24) rfl rfl k) ?_
    show OEnds p e below s _ _ _ (T2.setTop (mkF m 26 #[.val (.int q0), .val (.int q1), .val (.int ln), .val (.int (0 : Int32)), .val (.ref b2), .unset, .unset, .unset, .unset] [(.ref b2)]))
    refine own_by (fun _ k => XS.ifnullNo X2.here hx rfl (hb hby at_26) rfl k) ?_
    show OEnds p e below s _ _ _ (T2.setTop (mkF m 29 #[.val (.int q0), .val (.int q1), .val (.int ln), .val (.int (0 : Int32)), .val (.ref b2), .unset, .unset, .unset, .unset] []))
    refine own_by (fun _ k => XS.aload X2.here hx rfl (hb hby at_29) rfl rfl k) ?_
    show OEnds p e below s _ _ _ (T2.setTop (mkF m 31 #[.val (.int q0), .val (.int q1), .val (.int ln), .val (.int (0 : Int32)), .val (.ref b2), .unset, .unset, .unset, .unset] [(.ref b2)]))
    refine own_by (own_len X2 hx hZ e2 F2 (z := (4 : Int32)) (by decide) (g := (mkF m 31 #[.val (.int q0), .val (.int q1), .val (.int ln), .val (.int (0 : Int32)), .val (.ref b2), .unset, .unset, .unset, .unset] [(.ref b2)])) rfl rfl (hb hby at_31)) ?_
    show OEnds p e below s _ _ _ (T2.setTop (mkF m 32 #[.val (.int q0), .val (.int q1), .val (.int ln), .val (.int (0 : Int32)), .val (.ref b2), .unset, .unset, .unset, .unset] [(.int (4 : Int32))]))
    refine own_by (fun _ k => XS.iconst X2.here hx rfl (hb hby at_32) k) ?_
    show OEnds p e below s _ _ _ (T2.setTop (mkF m 33 #[.val (.int q0), .val (.int q1), .val (.int ln), .val (.int (0 : Int32)), .val (.ref b2), .unset, .unset, .unset, .unset] [(.int (4 : Int32)), (.int (4 : Int32))]))
    refine own_by (fun _ k => XS.icmpYes X2.here hx rfl (pc0 := 33) (pc' := 38) rfl (hb hby at_33) rfl (teq (by decide : (4 : Int32) = (4 : Int32))).1 (by decide) (by decide) k) ?_
    show OEnds p e below s _ _ _ (T2.setTop (mkF m 38 #[.val (.int q0), .val (.int q1), .val (.int ln), .val (.int (0 : Int32)), .val (.ref b2), .unset, .unset, .unset, .unset] []))
    refine own_by (fun _ k => XS.iloadN X2.here hx rfl (hb hby at_38) rfl k) ?_
    show OEnds p e below s _ _ _ (T2.setTop (mkF m 39 #[.val (.int q0), .val (.int q1), .val (.int ln), .val (.int (0 : Int32)), .val (.ref b2), .unset, .unset, .unset, .unset] [(.int ln)]))
    refine own_by (X2.ldcInt hx hown (mvT hZ (hw _ (List.mem_of_getElem? (i := 7) rfl))) (g := (mkF m 39 #[.val (.int q0), .val (.int q1), .val (.int ln), .val (.int (0 : Int32)), .val (.ref b2), .unset, .unset, .unset, .unset] [(.int ln)])) rfl (hb hby at_39)) ?_
    show OEnds p e below s _ _ _ (T2.setTop (mkF m 41 #[.val (.int q0), .val (.int q1), .val (.int ln), .val (.int (0 : Int32)), .val (.ref b2), .unset, .unset, .unset, .unset] [(.int (16777216 : Int32)), (.int ln)]))
    refine own_by (fun _ k => XS.idiv X2.here hx rfl (hb hby at_41) rfl (by decide) k) ?_
    show OEnds p e below s _ _ _ (T2.setTop (mkF m 42 #[.val (.int q0), .val (.int q1), .val (.int ln), .val (.int (0 : Int32)), .val (.ref b2), .unset, .unset, .unset, .unset] [(.int (ln / (16777216 : Int32)))]))
    refine own_by (fun _ k => XS.iloadN X2.here hx rfl (hb hby at_42) rfl k) ?_
    show OEnds p e below s _ _ _ (T2.setTop (mkF m 43 #[.val (.int q0), .val (.int q1), .val (.int ln), .val (.int (0 : Int32)), .val (.ref b2), .unset, .unset, .unset, .unset] [(.int (0 : Int32)), (.int (ln / (16777216 : Int32)))]))
    refine own_by (fun _ k => XS.ifYes X2.here hx rfl (pc0 := 43) (pc' := 52) rfl (hb hby at_43) rfl ((if0 _ _).trans (teq (by decide : (0 : Int32) = (0 : Int32))).1) (by decide) (by decide) k) ?_
    show OEnds p e below s _ _ _ (T2.setTop (mkF m 52 #[.val (.int q0), .val (.int q1), .val (.int ln), .val (.int (0 : Int32)), .val (.ref b2), .unset, .unset, .unset, .unset] [(.int (ln / (16777216 : Int32)))]))
    refine own_by (fun _ k => XS.iconst X2.here hx rfl (hb hby at_52) k) ?_
    show OEnds p e below s _ _ _ (T2.setTop (mkF m 53 #[.val (.int q0), .val (.int q1), .val (.int ln), .val (.int (0 : Int32)), .val (.ref b2), .unset, .unset, .unset, .unset] [(.int (0 : Int32)), (.int (ln / (16777216 : Int32)))]))
    refine own_by (fun _ k => XS.iadd X2.here hx rfl (hb hby at_53) rfl k) ?_
    show OEnds p e below s _ _ _ (T2.setTop (mkF m 54 #[.val (.int q0), .val (.int q1), .val (.int ln), .val (.int (0 : Int32)), .val (.ref b2), .unset, .unset, .unset, .unset] [(.int ((ln / (16777216 : Int32)) + (0 : Int32)))]))
    refine own_by (fun _ k => XS.istore X2.here hx rfl (hb hby at_54) rfl (l' := #[.val (.int q0), .val (.int q1), .val (.int ln), .val (.int (0 : Int32)), .val (.ref b2), .val (.int ((ln / (16777216 : Int32)) + (0 : Int32))), .unset, .unset, .unset]) rfl k) ?_
    show OEnds p e below s _ _ _ (T2.setTop (mkF m 56 #[.val (.int q0), .val (.int q1), .val (.int ln), .val (.int (0 : Int32)), .val (.ref b2), .val (.int ((ln / (16777216 : Int32)) + (0 : Int32))), .unset, .unset, .unset] []))
    refine own_by (fun _ k => XS.iloadN X2.here hx rfl (hb hby at_56) rfl k) ?_
    show OEnds p e below s _ _ _ (T2.setTop (mkF m 57 #[.val (.int q0), .val (.int q1), .val (.int ln), .val (.int (0 : Int32)), .val (.ref b2), .val (.int ((ln / (16777216 : Int32)) + (0 : Int32))), .unset, .unset, .unset] [(.int ln)]))
    refine own_by (X2.ldcInt hx hown (mvT hZ (hw _ (List.mem_of_getElem? (i := 8) rfl))) (g := (mkF m 57 #[.val (.int q0), .val (.int q1), .val (.int ln), .val (.int (0 : Int32)), .val (.ref b2), .val (.int ((ln / (16777216 : Int32)) + (0 : Int32))), .unset, .unset, .unset] [(.int ln)])) rfl (hb hby at_57)) ?_
    show OEnds p e below s _ _ _ (T2.setTop (mkF m 59 #[.val (.int q0), .val (.int q1), .val (.int ln), .val (.int (0 : Int32)), .val (.ref b2), .val (.int ((ln / (16777216 : Int32)) + (0 : Int32))), .unset, .unset, .unset] [(.int (65536 : Int32)), (.int ln)]))
    refine own_by (fun _ k => XS.idiv X2.here hx rfl (hb hby at_59) rfl (by decide) k) ?_
    show OEnds p e below s _ _ _ (T2.setTop (mkF m 60 #[.val (.int q0), .val (.int q1), .val (.int ln), .val (.int (0 : Int32)), .val (.ref b2), .val (.int ((ln / (16777216 : Int32)) + (0 : Int32))), .unset, .unset, .unset] [(.int (ln / (65536 : Int32)))]))
    refine own_by (fun _ k => XS.sipush X2.here hx rfl (hb hby at_60) k) ?_
    show OEnds p e below s _ _ _ (T2.setTop (mkF m 63 #[.val (.int q0), .val (.int q1), .val (.int ln), .val (.int (0 : Int32)), .val (.ref b2), .val (.int ((ln / (16777216 : Int32)) + (0 : Int32))), .unset, .unset, .unset] [(.int (256 : Int32)), (.int (ln / (65536 : Int32)))]))
    refine own_by (fun _ k => iremM X2 hx rfl (hb hby at_63) rfl (by decide) k) ?_
    show OEnds p e below s _ _ _ (T2.setTop (mkF m 64 #[.val (.int q0), .val (.int q1), .val (.int ln), .val (.int (0 : Int32)), .val (.ref b2), .val (.int ((ln / (16777216 : Int32)) + (0 : Int32))), .unset, .unset, .unset] [(.int ((ln / (65536 : Int32)) % (256 : Int32)))]))
    refine own_by (fun _ k => XS.istore X2.here hx rfl (hb hby at_64) rfl (l' := #[.val (.int q0), .val (.int q1), .val (.int ln), .val (.int (0 : Int32)), .val (.ref b2), .val (.int ((ln / (16777216 : Int32)) + (0 : Int32))), .val (.int ((ln / (65536 : Int32)) % (256 : Int32))), .unset, .unset]) rfl k) ?_
    show OEnds p e below s _ _ _ (T2.setTop (mkF m 66 #[.val (.int q0), .val (.int q1), .val (.int ln), .val (.int (0 : Int32)), .val (.ref b2), .val (.int ((ln / (16777216 : Int32)) + (0 : Int32))), .val (.int ((ln / (65536 : Int32)) % (256 : Int32))), .unset, .unset] []))
    refine own_by (fun _ k => XS.iloadN X2.here hx rfl (hb hby at_66) rfl k) ?_
    show OEnds p e below s _ _ _ (T2.setTop (mkF m 67 #[.val (.int q0), .val (.int q1), .val (.int ln), .val (.int (0 : Int32)), .val (.ref b2), .val (.int ((ln / (16777216 : Int32)) + (0 : Int32))), .val (.int ((ln / (65536 : Int32)) % (256 : Int32))), .unset, .unset] [(.int ln)]))
    refine own_by (fun _ k => XS.sipush X2.here hx rfl (hb hby at_67) k) ?_
    show OEnds p e below s _ _ _ (T2.setTop (mkF m 70 #[.val (.int q0), .val (.int q1), .val (.int ln), .val (.int (0 : Int32)), .val (.ref b2), .val (.int ((ln / (16777216 : Int32)) + (0 : Int32))), .val (.int ((ln / (65536 : Int32)) % (256 : Int32))), .unset, .unset] [(.int (256 : Int32)), (.int ln)]))
    refine own_by (fun _ k => XS.idiv X2.here hx rfl (hb hby at_70) rfl (by decide) k) ?_
    show OEnds p e below s _ _ _ (T2.setTop (mkF m 71 #[.val (.int q0), .val (.int q1), .val (.int ln), .val (.int (0 : Int32)), .val (.ref b2), .val (.int ((ln / (16777216 : Int32)) + (0 : Int32))), .val (.int ((ln / (65536 : Int32)) % (256 : Int32))), .unset, .unset] [(.int (ln / (256 : Int32)))]))
    refine own_by (fun _ k => XS.sipush X2.here hx rfl (hb hby at_71) k) ?_
    show OEnds p e below s _ _ _ (T2.setTop (mkF m 74 #[.val (.int q0), .val (.int q1), .val (.int ln), .val (.int (0 : Int32)), .val (.ref b2), .val (.int ((ln / (16777216 : Int32)) + (0 : Int32))), .val (.int ((ln / (65536 : Int32)) % (256 : Int32))), .unset, .unset] [(.int (256 : Int32)), (.int (ln / (256 : Int32)))]))
    refine own_by (fun _ k => iremM X2 hx rfl (hb hby at_74) rfl (by decide) k) ?_
    show OEnds p e below s _ _ _ (T2.setTop (mkF m 75 #[.val (.int q0), .val (.int q1), .val (.int ln), .val (.int (0 : Int32)), .val (.ref b2), .val (.int ((ln / (16777216 : Int32)) + (0 : Int32))), .val (.int ((ln / (65536 : Int32)) % (256 : Int32))), .unset, .unset] [(.int ((ln / (256 : Int32)) % (256 : Int32)))]))
    refine own_by (fun _ k => XS.istore X2.here hx rfl (hb hby at_75) rfl (l' := #[.val (.int q0), .val (.int q1), .val (.int ln), .val (.int (0 : Int32)), .val (.ref b2), .val (.int ((ln / (16777216 : Int32)) + (0 : Int32))), .val (.int ((ln / (65536 : Int32)) % (256 : Int32))), .val (.int ((ln / (256 : Int32)) % (256 : Int32))), .unset]) rfl k) ?_
    show OEnds p e below s _ _ _ (T2.setTop (mkF m 77 #[.val (.int q0), .val (.int q1), .val (.int ln), .val (.int (0 : Int32)), .val (.ref b2), .val (.int ((ln / (16777216 : Int32)) + (0 : Int32))), .val (.int ((ln / (65536 : Int32)) % (256 : Int32))), .val (.int ((ln / (256 : Int32)) % (256 : Int32))), .unset] []))
    refine own_by (fun _ k => XS.iloadN X2.here hx rfl (hb hby at_77) rfl k) ?_
    show OEnds p e below s _ _ _ (T2.setTop (mkF m 78 #[.val (.int q0), .val (.int q1), .val (.int ln), .val (.int (0 : Int32)), .val (.ref b2), .val (.int ((ln / (16777216 : Int32)) + (0 : Int32))), .val (.int ((ln / (65536 : Int32)) % (256 : Int32))), .val (.int ((ln / (256 : Int32)) % (256 : Int32))), .unset] [(.int ln)]))
    refine own_by (fun _ k => XS.sipush X2.here hx rfl (hb hby at_78) k) ?_
    show OEnds p e below s _ _ _ (T2.setTop (mkF m 81 #[.val (.int q0), .val (.int q1), .val (.int ln), .val (.int (0 : Int32)), .val (.ref b2), .val (.int ((ln / (16777216 : Int32)) + (0 : Int32))), .val (.int ((ln / (65536 : Int32)) % (256 : Int32))), .val (.int ((ln / (256 : Int32)) % (256 : Int32))), .unset] [(.int (256 : Int32)), (.int ln)]))
    refine own_by (fun _ k => iremM X2 hx rfl (hb hby at_81) rfl (by decide) k) ?_
    show OEnds p e below s _ _ _ (T2.setTop (mkF m 82 #[.val (.int q0), .val (.int q1), .val (.int ln), .val (.int (0 : Int32)), .val (.ref b2), .val (.int ((ln / (16777216 : Int32)) + (0 : Int32))), .val (.int ((ln / (65536 : Int32)) % (256 : Int32))), .val (.int ((ln / (256 : Int32)) % (256 : Int32))), .unset] [(.int (ln % (256 : Int32)))]))
    refine own_by (fun _ k => XS.istore X2.here hx rfl (hb hby at_82) rfl (l' := #[.val (.int q0), .val (.int q1), .val (.int ln), .val (.int (0 : Int32)), .val (.ref b2), .val (.int ((ln / (16777216 : Int32)) + (0 : Int32))), .val (.int ((ln / (65536 : Int32)) % (256 : Int32))), .val (.int ((ln / (256 : Int32)) % (256 : Int32))), .val (.int (ln % (256 : Int32)))]) rfl k) ?_
    show OEnds p e below s _ _ _ (T2.setTop (mkF m 84 #[.val (.int q0), .val (.int q1), .val (.int ln), .val (.int (0 : Int32)), .val (.ref b2), .val (.int ((ln / (16777216 : Int32)) + (0 : Int32))), .val (.int ((ln / (65536 : Int32)) % (256 : Int32))), .val (.int ((ln / (256 : Int32)) % (256 : Int32))), .val (.int (ln % (256 : Int32)))] []))
    refine own_by (fun _ k => XS.aload X2.here hx rfl (hb hby at_84) rfl rfl k) ?_
    show OEnds p e below s _ _ _ (T2.setTop (mkF m 86 #[.val (.int q0), .val (.int q1), .val (.int ln), .val (.int (0 : Int32)), .val (.ref b2), .val (.int ((ln / (16777216 : Int32)) + (0 : Int32))), .val (.int ((ln / (65536 : Int32)) % (256 : Int32))), .val (.int ((ln / (256 : Int32)) % (256 : Int32))), .val (.int (ln % (256 : Int32)))] [(.ref b2)]))
    refine own_by (fun _ k => XS.iconst X2.here hx rfl (hb hby at_86) k) ?_
    show OEnds p e below s _ _ _ (T2.setTop (mkF m 87 #[.val (.int q0), .val (.int q1), .val (.int ln), .val (.int (0 : Int32)), .val (.ref b2), .val (.int ((ln / (16777216 : Int32)) + (0 : Int32))), .val (.int ((ln / (65536 : Int32)) % (256 : Int32))), .val (.int ((ln / (256 : Int32)) % (256 : Int32))), .val (.int (ln % (256 : Int32)))] [(.int (0 : Int32)), (.ref b2)]))
    refine own_by (own_baload X2 hx hZ e2 F2 0 (by decide) (by decide) rfl (g := (mkF m 87 #[.val (.int q0), .val (.int q1), .val (.int ln), .val (.int (0 : Int32)), .val (.ref b2), .val (.int ((ln / (16777216 : Int32)) + (0 : Int32))), .val (.int ((ln / (65536 : Int32)) % (256 : Int32))), .val (.int ((ln / (256 : Int32)) % (256 : Int32))), .val (.int (ln % (256 : Int32)))] [(.int (0 : Int32)), (.ref b2)])) rfl rfl (hb hby at_87)) ?_
    show OEnds p e below s _ _ _ (T2.setTop (mkF m 88 #[.val (.int q0), .val (.int q1), .val (.int ln), .val (.int (0 : Int32)), .val (.ref b2), .val (.int ((ln / (16777216 : Int32)) + (0 : Int32))), .val (.int ((ln / (65536 : Int32)) % (256 : Int32))), .val (.int ((ln / (256 : Int32)) % (256 : Int32))), .val (.int (ln % (256 : Int32)))] [(.int ((hdr ln (0 : Int32)) 0))]))
    refine own_by (fun _ k => XS.sipush X2.here hx rfl (hb hby at_88) k) ?_
    show OEnds p e below s _ _ _ (T2.setTop (mkF m 91 #[.val (.int q0), .val (.int q1), .val (.int ln), .val (.int (0 : Int32)), .val (.ref b2), .val (.int ((ln / (16777216 : Int32)) + (0 : Int32))), .val (.int ((ln / (65536 : Int32)) % (256 : Int32))), .val (.int ((ln / (256 : Int32)) % (256 : Int32))), .val (.int (ln % (256 : Int32)))] [(.int (255 : Int32)), (.int ((hdr ln (0 : Int32)) 0))]))
    refine own_by (fun _ k => XS.iand X2.here hx rfl (hb hby at_91) rfl k) ?_
    show OEnds p e below s _ _ _ (T2.setTop (mkF m 92 #[.val (.int q0), .val (.int q1), .val (.int ln), .val (.int (0 : Int32)), .val (.ref b2), .val (.int ((ln / (16777216 : Int32)) + (0 : Int32))), .val (.int ((ln / (65536 : Int32)) % (256 : Int32))), .val (.int ((ln / (256 : Int32)) % (256 : Int32))), .val (.int (ln % (256 : Int32)))] [(.int (((hdr ln (0 : Int32)) 0) &&& (255 : Int32)))]))
    refine own_by (fun _ k => XS.iload X2.here hx rfl (hb hby at_92) rfl k) ?_
    show OEnds p e below s _ _ _ (T2.setTop (mkF m 94 #[.val (.int q0), .val (.int q1), .val (.int ln), .val (.int (0 : Int32)), .val (.ref b2), .val (.int ((ln / (16777216 : Int32)) + (0 : Int32))), .val (.int ((ln / (65536 : Int32)) % (256 : Int32))), .val (.int ((ln / (256 : Int32)) % (256 : Int32))), .val (.int (ln % (256 : Int32)))] [(.int ((ln / (16777216 : Int32)) + (0 : Int32))), (.int (((hdr ln (0 : Int32)) 0) &&& (255 : Int32)))]))
    refine own_by (fun _ k => XS.icmpNo X2.here hx rfl (hb hby at_94) rfl (teq (own_b0f hln)).2 k) ?_
    show OEnds p e below s _ _ _ (T2.setTop (mkF m 97 #[.val (.int q0), .val (.int q1), .val (.int ln), .val (.int (0 : Int32)), .val (.ref b2), .val (.int ((ln / (16777216 : Int32)) + (0 : Int32))), .val (.int ((ln / (65536 : Int32)) % (256 : Int32))), .val (.int ((ln / (256 : Int32)) % (256 : Int32))), .val (.int (ln % (256 : Int32)))] []))
    refine own_by (fun _ k => XS.aload X2.here hx rfl (hb hby at_97) rfl rfl k) ?_
    show OEnds p e below s _ _ _ (T2.setTop (mkF m 99 #[.val (.int q0), .val (.int q1), .val (.int ln), .val (.int (0 : Int32)), .val (.ref b2), .val (.int ((ln / (16777216 : Int32)) + (0 : Int32))), .val (.int ((ln / (65536 : Int32)) % (256 : Int32))), .val (.int ((ln / (256 : Int32)) % (256 : Int32))), .val (.int (ln % (256 : Int32)))] [(.ref b2)]))
    refine own_by (fun _ k => XS.iconst X2.here hx rfl (hb hby at_99) k) ?_
    show OEnds p e below s _ _ _ (T2.setTop (mkF m 100 #[.val (.int q0), .val (.int q1), .val (.int ln), .val (.int (0 : Int32)), .val (.ref b2), .val (.int ((ln / (16777216 : Int32)) + (0 : Int32))), .val (.int ((ln / (65536 : Int32)) % (256 : Int32))), .val (.int ((ln / (256 : Int32)) % (256 : Int32))), .val (.int (ln % (256 : Int32)))] [(.int (1 : Int32)), (.ref b2)]))
    refine own_by (own_baload X2 hx hZ e2 F2 1 (by decide) (by decide) rfl (g := (mkF m 100 #[.val (.int q0), .val (.int q1), .val (.int ln), .val (.int (0 : Int32)), .val (.ref b2), .val (.int ((ln / (16777216 : Int32)) + (0 : Int32))), .val (.int ((ln / (65536 : Int32)) % (256 : Int32))), .val (.int ((ln / (256 : Int32)) % (256 : Int32))), .val (.int (ln % (256 : Int32)))] [(.int (1 : Int32)), (.ref b2)])) rfl rfl (hb hby at_100)) ?_
    show OEnds p e below s _ _ _ (T2.setTop (mkF m 101 #[.val (.int q0), .val (.int q1), .val (.int ln), .val (.int (0 : Int32)), .val (.ref b2), .val (.int ((ln / (16777216 : Int32)) + (0 : Int32))), .val (.int ((ln / (65536 : Int32)) % (256 : Int32))), .val (.int ((ln / (256 : Int32)) % (256 : Int32))), .val (.int (ln % (256 : Int32)))] [(.int ((hdr ln (0 : Int32)) 1))]))
    refine own_by (fun _ k => XS.sipush X2.here hx rfl (hb hby at_101) k) ?_
    show OEnds p e below s _ _ _ (T2.setTop (mkF m 104 #[.val (.int q0), .val (.int q1), .val (.int ln), .val (.int (0 : Int32)), .val (.ref b2), .val (.int ((ln / (16777216 : Int32)) + (0 : Int32))), .val (.int ((ln / (65536 : Int32)) % (256 : Int32))), .val (.int ((ln / (256 : Int32)) % (256 : Int32))), .val (.int (ln % (256 : Int32)))] [(.int (255 : Int32)), (.int ((hdr ln (0 : Int32)) 1))]))
    refine own_by (fun _ k => XS.iand X2.here hx rfl (hb hby at_104) rfl k) ?_
    show OEnds p e below s _ _ _ (T2.setTop (mkF m 105 #[.val (.int q0), .val (.int q1), .val (.int ln), .val (.int (0 : Int32)), .val (.ref b2), .val (.int ((ln / (16777216 : Int32)) + (0 : Int32))), .val (.int ((ln / (65536 : Int32)) % (256 : Int32))), .val (.int ((ln / (256 : Int32)) % (256 : Int32))), .val (.int (ln % (256 : Int32)))] [(.int (((hdr ln (0 : Int32)) 1) &&& (255 : Int32)))]))
    refine own_by (fun _ k => XS.iload X2.here hx rfl (hb hby at_105) rfl k) ?_
    show OEnds p e below s _ _ _ (T2.setTop (mkF m 107 #[.val (.int q0), .val (.int q1), .val (.int ln), .val (.int (0 : Int32)), .val (.ref b2), .val (.int ((ln / (16777216 : Int32)) + (0 : Int32))), .val (.int ((ln / (65536 : Int32)) % (256 : Int32))), .val (.int ((ln / (256 : Int32)) % (256 : Int32))), .val (.int (ln % (256 : Int32)))] [(.int ((ln / (65536 : Int32)) % (256 : Int32))), (.int (((hdr ln (0 : Int32)) 1) &&& (255 : Int32)))]))
    refine own_by (fun _ k => XS.icmpNo X2.here hx rfl (hb hby at_107) rfl (teq (own_b1f hln)).2 k) ?_
    show OEnds p e below s _ _ _ (T2.setTop (mkF m 110 #[.val (.int q0), .val (.int q1), .val (.int ln), .val (.int (0 : Int32)), .val (.ref b2), .val (.int ((ln / (16777216 : Int32)) + (0 : Int32))), .val (.int ((ln / (65536 : Int32)) % (256 : Int32))), .val (.int ((ln / (256 : Int32)) % (256 : Int32))), .val (.int (ln % (256 : Int32)))] []))
    refine own_by (fun _ k => XS.aload X2.here hx rfl (hb hby at_110) rfl rfl k) ?_
    show OEnds p e below s _ _ _ (T2.setTop (mkF m 112 #[.val (.int q0), .val (.int q1), .val (.int ln), .val (.int (0 : Int32)), .val (.ref b2), .val (.int ((ln / (16777216 : Int32)) + (0 : Int32))), .val (.int ((ln / (65536 : Int32)) % (256 : Int32))), .val (.int ((ln / (256 : Int32)) % (256 : Int32))), .val (.int (ln % (256 : Int32)))] [(.ref b2)]))
    refine own_by (fun _ k => XS.iconst X2.here hx rfl (hb hby at_112) k) ?_
    show OEnds p e below s _ _ _ (T2.setTop (mkF m 113 #[.val (.int q0), .val (.int q1), .val (.int ln), .val (.int (0 : Int32)), .val (.ref b2), .val (.int ((ln / (16777216 : Int32)) + (0 : Int32))), .val (.int ((ln / (65536 : Int32)) % (256 : Int32))), .val (.int ((ln / (256 : Int32)) % (256 : Int32))), .val (.int (ln % (256 : Int32)))] [(.int (2 : Int32)), (.ref b2)]))
    refine own_by (own_baload X2 hx hZ e2 F2 2 (by decide) (by decide) rfl (g := (mkF m 113 #[.val (.int q0), .val (.int q1), .val (.int ln), .val (.int (0 : Int32)), .val (.ref b2), .val (.int ((ln / (16777216 : Int32)) + (0 : Int32))), .val (.int ((ln / (65536 : Int32)) % (256 : Int32))), .val (.int ((ln / (256 : Int32)) % (256 : Int32))), .val (.int (ln % (256 : Int32)))] [(.int (2 : Int32)), (.ref b2)])) rfl rfl (hb hby at_113)) ?_
    show OEnds p e below s _ _ _ (T2.setTop (mkF m 114 #[.val (.int q0), .val (.int q1), .val (.int ln), .val (.int (0 : Int32)), .val (.ref b2), .val (.int ((ln / (16777216 : Int32)) + (0 : Int32))), .val (.int ((ln / (65536 : Int32)) % (256 : Int32))), .val (.int ((ln / (256 : Int32)) % (256 : Int32))), .val (.int (ln % (256 : Int32)))] [(.int ((hdr ln (0 : Int32)) 2))]))
    refine own_by (fun _ k => XS.sipush X2.here hx rfl (hb hby at_114) k) ?_
    show OEnds p e below s _ _ _ (T2.setTop (mkF m 117 #[.val (.int q0), .val (.int q1), .val (.int ln), .val (.int (0 : Int32)), .val (.ref b2), .val (.int ((ln / (16777216 : Int32)) + (0 : Int32))), .val (.int ((ln / (65536 : Int32)) % (256 : Int32))), .val (.int ((ln / (256 : Int32)) % (256 : Int32))), .val (.int (ln % (256 : Int32)))] [(.int (255 : Int32)), (.int ((hdr ln (0 : Int32)) 2))]))
    refine own_by (fun _ k => XS.iand X2.here hx rfl (hb hby at_117) rfl k) ?_
    show OEnds p e below s _ _ _ (T2.setTop (mkF m 118 #[.val (.int q0), .val (.int q1), .val (.int ln), .val (.int (0 : Int32)), .val (.ref b2), .val (.int ((ln / (16777216 : Int32)) + (0 : Int32))), .val (.int ((ln / (65536 : Int32)) % (256 : Int32))), .val (.int ((ln / (256 : Int32)) % (256 : Int32))), .val (.int (ln % (256 : Int32)))] [(.int (((hdr ln (0 : Int32)) 2) &&& (255 : Int32)))]))
    refine own_by (fun _ k => XS.iload X2.here hx rfl (hb hby at_118) rfl k) ?_
    show OEnds p e below s _ _ _ (T2.setTop (mkF m 120 #[.val (.int q0), .val (.int q1), .val (.int ln), .val (.int (0 : Int32)), .val (.ref b2), .val (.int ((ln / (16777216 : Int32)) + (0 : Int32))), .val (.int ((ln / (65536 : Int32)) % (256 : Int32))), .val (.int ((ln / (256 : Int32)) % (256 : Int32))), .val (.int (ln % (256 : Int32)))] [(.int ((ln / (256 : Int32)) % (256 : Int32))), (.int (((hdr ln (0 : Int32)) 2) &&& (255 : Int32)))]))
    refine own_by (fun _ k => XS.icmpNo X2.here hx rfl (hb hby at_120) rfl (teq (own_b2f hln)).2 k) ?_
    show OEnds p e below s _ _ _ (T2.setTop (mkF m 123 #[.val (.int q0), .val (.int q1), .val (.int ln), .val (.int (0 : Int32)), .val (.ref b2), .val (.int ((ln / (16777216 : Int32)) + (0 : Int32))), .val (.int ((ln / (65536 : Int32)) % (256 : Int32))), .val (.int ((ln / (256 : Int32)) % (256 : Int32))), .val (.int (ln % (256 : Int32)))] []))
    refine own_by (fun _ k => XS.aload X2.here hx rfl (hb hby at_123) rfl rfl k) ?_
    show OEnds p e below s _ _ _ (T2.setTop (mkF m 125 #[.val (.int q0), .val (.int q1), .val (.int ln), .val (.int (0 : Int32)), .val (.ref b2), .val (.int ((ln / (16777216 : Int32)) + (0 : Int32))), .val (.int ((ln / (65536 : Int32)) % (256 : Int32))), .val (.int ((ln / (256 : Int32)) % (256 : Int32))), .val (.int (ln % (256 : Int32)))] [(.ref b2)]))
    refine own_by (fun _ k => XS.iconst X2.here hx rfl (hb hby at_125) k) ?_
    show OEnds p e below s _ _ _ (T2.setTop (mkF m 126 #[.val (.int q0), .val (.int q1), .val (.int ln), .val (.int (0 : Int32)), .val (.ref b2), .val (.int ((ln / (16777216 : Int32)) + (0 : Int32))), .val (.int ((ln / (65536 : Int32)) % (256 : Int32))), .val (.int ((ln / (256 : Int32)) % (256 : Int32))), .val (.int (ln % (256 : Int32)))] [(.int (3 : Int32)), (.ref b2)]))
    refine own_by (own_baload X2 hx hZ e2 F2 3 (by decide) (by decide) rfl (g := (mkF m 126 #[.val (.int q0), .val (.int q1), .val (.int ln), .val (.int (0 : Int32)), .val (.ref b2), .val (.int ((ln / (16777216 : Int32)) + (0 : Int32))), .val (.int ((ln / (65536 : Int32)) % (256 : Int32))), .val (.int ((ln / (256 : Int32)) % (256 : Int32))), .val (.int (ln % (256 : Int32)))] [(.int (3 : Int32)), (.ref b2)])) rfl rfl (hb hby at_126)) ?_
    show OEnds p e below s _ _ _ (T2.setTop (mkF m 127 #[.val (.int q0), .val (.int q1), .val (.int ln), .val (.int (0 : Int32)), .val (.ref b2), .val (.int ((ln / (16777216 : Int32)) + (0 : Int32))), .val (.int ((ln / (65536 : Int32)) % (256 : Int32))), .val (.int ((ln / (256 : Int32)) % (256 : Int32))), .val (.int (ln % (256 : Int32)))] [(.int ((hdr ln (0 : Int32)) 3))]))
    refine own_by (fun _ k => XS.sipush X2.here hx rfl (hb hby at_127) k) ?_
    show OEnds p e below s _ _ _ (T2.setTop (mkF m 130 #[.val (.int q0), .val (.int q1), .val (.int ln), .val (.int (0 : Int32)), .val (.ref b2), .val (.int ((ln / (16777216 : Int32)) + (0 : Int32))), .val (.int ((ln / (65536 : Int32)) % (256 : Int32))), .val (.int ((ln / (256 : Int32)) % (256 : Int32))), .val (.int (ln % (256 : Int32)))] [(.int (255 : Int32)), (.int ((hdr ln (0 : Int32)) 3))]))
    refine own_by (fun _ k => XS.iand X2.here hx rfl (hb hby at_130) rfl k) ?_
    show OEnds p e below s _ _ _ (T2.setTop (mkF m 131 #[.val (.int q0), .val (.int q1), .val (.int ln), .val (.int (0 : Int32)), .val (.ref b2), .val (.int ((ln / (16777216 : Int32)) + (0 : Int32))), .val (.int ((ln / (65536 : Int32)) % (256 : Int32))), .val (.int ((ln / (256 : Int32)) % (256 : Int32))), .val (.int (ln % (256 : Int32)))] [(.int (((hdr ln (0 : Int32)) 3) &&& (255 : Int32)))]))
    refine own_by (fun _ k => XS.iload X2.here hx rfl (hb hby at_131) rfl k) ?_
    show OEnds p e below s _ _ _ (T2.setTop (mkF m 133 #[.val (.int q0), .val (.int q1), .val (.int ln), .val (.int (0 : Int32)), .val (.ref b2), .val (.int ((ln / (16777216 : Int32)) + (0 : Int32))), .val (.int ((ln / (65536 : Int32)) % (256 : Int32))), .val (.int ((ln / (256 : Int32)) % (256 : Int32))), .val (.int (ln % (256 : Int32)))] [(.int (ln % (256 : Int32))), (.int (((hdr ln (0 : Int32)) 3) &&& (255 : Int32)))]))
    refine own_by (fun _ k => XS.icmpNo X2.here hx rfl (hb hby at_133) rfl (teq (own_b3f hln)).2 k) ?_
    show OEnds p e below s _ _ _ (T2.setTop (mkF m 136 #[.val (.int q0), .val (.int q1), .val (.int ln), .val (.int (0 : Int32)), .val (.ref b2), .val (.int ((ln / (16777216 : Int32)) + (0 : Int32))), .val (.int ((ln / (65536 : Int32)) % (256 : Int32))), .val (.int ((ln / (256 : Int32)) % (256 : Int32))), .val (.int (ln % (256 : Int32)))] []))
    refine own_by (fun _ k => XS.iconst X2.here hx rfl (hb hby at_136) k) ?_
    show OEnds p e below s _ _ _ (T2.setTop (mkF m 137 #[.val (.int q0), .val (.int q1), .val (.int ln), .val (.int (0 : Int32)), .val (.ref b2), .val (.int ((ln / (16777216 : Int32)) + (0 : Int32))), .val (.int ((ln / (65536 : Int32)) % (256 : Int32))), .val (.int ((ln / (256 : Int32)) % (256 : Int32))), .val (.int (ln % (256 : Int32)))] [(.int (1 : Int32))]))
    refine own_by (fun _ k => XS.goto X2.here hx rfl (pc0 := 137) (pc' := 141) rfl (hb hby at_137) (by decide) (by decide) k) ?_
    show OEnds p e below s _ _ _ (T2.setTop (mkF m 141 #[.val (.int q0), .val (.int q1), .val (.int ln), .val (.int (0 : Int32)), .val (.ref b2), .val (.int ((ln / (16777216 : Int32)) + (0 : Int32))), .val (.int ((ln / (65536 : Int32)) % (256 : Int32))), .val (.int ((ln / (256 : Int32)) % (256 : Int32))), .val (.int (ln % (256 : Int32)))] [(.int (1 : Int32))]))
    exact own_retN X2 hx hlk .boolean (by simp) Bd.returns (hb hby at_141) ⟨rfl, N2⟩ (by decide) (by decide)
  · refine own_by (fun _ k => XS.ifNo X0.here hx rfl (hb hby at_8) rfl ((if0 _ _).trans (feq hc8_1).1) k) ?_
    show OEnds p e below s _ _ _ (s₁.setTop (mkF m 11 #[.val (.int q0), .val (.int q1), .val (.int ln), .unset, .unset, .unset, .unset, .unset, .unset] []))
    refine own_by (fun _ k => XS.iconst X0.here hx rfl (hb hby at_11) k) ?_
    show OEnds p e below s _ _ _ (s₁.setTop (mkF m 12 #[.val (.int q0), .val (.int q1), .val (.int ln), .unset, .unset, .unset, .unset, .unset, .unset] [(.int (1 : Int32))]))
    refine own_by (fun _ k => XS.goto X0.here hx rfl (pc0 := 12) (pc' := 16) rfl (hb hby at_12) (by decide) (by decide) k) ?_
    show OEnds p e below s _ _ _ (s₁.setTop (mkF m 16 #[.val (.int q0), .val (.int q1), .val (.int ln), .unset, .unset, .unset, .unset, .unset, .unset] [(.int (1 : Int32))]))
    refine own_by (fun _ k => XS.istoreN X0.here hx rfl (hb hby at_16) rfl (l' := #[.val (.int q0), .val (.int q1), .val (.int ln), .val (.int (1 : Int32)), .unset, .unset, .unset, .unset, .unset]) rfl k) ?_
    show OEnds p e below s _ _ _ (s₁.setTop (mkF m 17 #[.val (.int q0), .val (.int q1), .val (.int ln), .val (.int (1 : Int32)), .unset, .unset, .unset, .unset, .unset] []))
    refine own_by (fun _ k => XS.iloadN X0.here hx rfl (hb hby at_17) rfl k) ?_
    show OEnds p e below s _ _ _ (s₁.setTop (mkF m 18 #[.val (.int q0), .val (.int q1), .val (.int ln), .val (.int (1 : Int32)), .unset, .unset, .unset, .unset, .unset] [(.int ln)]))
    refine own_by (fun _ k => XS.iloadN X0.here hx rfl (hb hby at_18) rfl k) ?_
    show OEnds p e below s _ _ _ (s₁.setTop (mkF m 19 #[.val (.int q0), .val (.int q1), .val (.int ln), .val (.int (1 : Int32)), .unset, .unset, .unset, .unset, .unset] [(.int (1 : Int32)), (.int ln)]))
    obtain ⟨v3, T3, L3, h3, X3, e3, hQ3, st3⟩ := own_callS X0 hx hZ (y := (⟨"com/example/fourfold/fourfold/xdr/FragmentHeader", "of", "(IZ)[B"⟩ : MethodName)) hown (hw _ (List.mem_of_getElem? (i := 1) rfl)) (hw _ (List.mem_of_getElem? (i := 2) rfl)) (hw _ (List.mem_of_getElem? (i := 3) rfl)) (hw _ (List.mem_of_getElem? (i := 4) rfl)) (by decide) (rm_of l Z a0 hw [] ln (1 : Int32) h0 n0 Z0) e0 (g := (mkF m 19 #[.val (.int q0), .val (.int q1), .val (.int ln), .val (.int (1 : Int32)), .unset, .unset, .unset, .unset, .unset] [(.int (1 : Int32)), (.int ln)])) rfl (by rw [hml]; rfl) (argsL := [(.int ln), (.int (1 : Int32))]) (rest := []) (lenOf pd_pIZraB rfl) rfl (W := 0) (by show 2 * 0 + _ ≤ _; exact Nat.le_of_eq rfl) (hb hby at_19) (by decide) (by decide) (by decide) (by decide)
    obtain ⟨b3, rfl, Nq3, Kq3, sq3, F3⟩ := hQ3
    have N3 := Fr.app N0 Nq3
    have Z3 : n0 ≤ h3.size := Nat.le_trans Z0 Kq3.1
    refine own_tr st3 ?_
    show OEnds p e below s _ _ _ (T3.setTop (mkF m 22 #[.val (.int q0), .val (.int q1), .val (.int ln), .val (.int (1 : Int32)), .unset, .unset, .unset, .unset, .unset] [(.ref b3)]))
    refine own_by (fun _ k => XS.astore X3.here hx rfl (hb hby at_22) rfl rfl (l' := #[.val (.int q0), .val (.int q1), .val (.int ln), .val (.int (1 : Int32)), .val (.ref b3), .unset, .unset, .unset, .unset]) rfl k) ?_
    show OEnds p e below s _ _ _ (T3.setTop (mkF m 24 #[.val (.int q0), .val (.int q1), .val (.int ln), .val (.int (1 : Int32)), .val (.ref b3), .unset, .unset, .unset, .unset] []))
    refine own_by (fun _ k => XS.aload X3.here hx rfl (hb hby at_24) rfl rfl k) ?_
    show OEnds p e below s _ _ _ (T3.setTop (mkF m 26 #[.val (.int q0), .val (.int q1), .val (.int ln), .val (.int (1 : Int32)), .val (.ref b3), .unset, .unset, .unset, .unset] [(.ref b3)]))
    refine own_by (fun _ k => XS.ifnullNo X3.here hx rfl (hb hby at_26) rfl k) ?_
    show OEnds p e below s _ _ _ (T3.setTop (mkF m 29 #[.val (.int q0), .val (.int q1), .val (.int ln), .val (.int (1 : Int32)), .val (.ref b3), .unset, .unset, .unset, .unset] []))
    refine own_by (fun _ k => XS.aload X3.here hx rfl (hb hby at_29) rfl rfl k) ?_
    show OEnds p e below s _ _ _ (T3.setTop (mkF m 31 #[.val (.int q0), .val (.int q1), .val (.int ln), .val (.int (1 : Int32)), .val (.ref b3), .unset, .unset, .unset, .unset] [(.ref b3)]))
    refine own_by (own_len X3 hx hZ e3 F3 (z := (4 : Int32)) (by decide) (g := (mkF m 31 #[.val (.int q0), .val (.int q1), .val (.int ln), .val (.int (1 : Int32)), .val (.ref b3), .unset, .unset, .unset, .unset] [(.ref b3)])) rfl rfl (hb hby at_31)) ?_
    show OEnds p e below s _ _ _ (T3.setTop (mkF m 32 #[.val (.int q0), .val (.int q1), .val (.int ln), .val (.int (1 : Int32)), .val (.ref b3), .unset, .unset, .unset, .unset] [(.int (4 : Int32))]))
    refine own_by (fun _ k => XS.iconst X3.here hx rfl (hb hby at_32) k) ?_
    show OEnds p e below s _ _ _ (T3.setTop (mkF m 33 #[.val (.int q0), .val (.int q1), .val (.int ln), .val (.int (1 : Int32)), .val (.ref b3), .unset, .unset, .unset, .unset] [(.int (4 : Int32)), (.int (4 : Int32))]))
    refine own_by (fun _ k => XS.icmpYes X3.here hx rfl (pc0 := 33) (pc' := 38) rfl (hb hby at_33) rfl (teq (by decide : (4 : Int32) = (4 : Int32))).1 (by decide) (by decide) k) ?_
    show OEnds p e below s _ _ _ (T3.setTop (mkF m 38 #[.val (.int q0), .val (.int q1), .val (.int ln), .val (.int (1 : Int32)), .val (.ref b3), .unset, .unset, .unset, .unset] []))
    refine own_by (fun _ k => XS.iloadN X3.here hx rfl (hb hby at_38) rfl k) ?_
    show OEnds p e below s _ _ _ (T3.setTop (mkF m 39 #[.val (.int q0), .val (.int q1), .val (.int ln), .val (.int (1 : Int32)), .val (.ref b3), .unset, .unset, .unset, .unset] [(.int ln)]))
    refine own_by (X3.ldcInt hx hown (mvT hZ (hw _ (List.mem_of_getElem? (i := 7) rfl))) (g := (mkF m 39 #[.val (.int q0), .val (.int q1), .val (.int ln), .val (.int (1 : Int32)), .val (.ref b3), .unset, .unset, .unset, .unset] [(.int ln)])) rfl (hb hby at_39)) ?_
    show OEnds p e below s _ _ _ (T3.setTop (mkF m 41 #[.val (.int q0), .val (.int q1), .val (.int ln), .val (.int (1 : Int32)), .val (.ref b3), .unset, .unset, .unset, .unset] [(.int (16777216 : Int32)), (.int ln)]))
    refine own_by (fun _ k => XS.idiv X3.here hx rfl (hb hby at_41) rfl (by decide) k) ?_
    show OEnds p e below s _ _ _ (T3.setTop (mkF m 42 #[.val (.int q0), .val (.int q1), .val (.int ln), .val (.int (1 : Int32)), .val (.ref b3), .unset, .unset, .unset, .unset] [(.int (ln / (16777216 : Int32)))]))
    refine own_by (fun _ k => XS.iloadN X3.here hx rfl (hb hby at_42) rfl k) ?_
    show OEnds p e below s _ _ _ (T3.setTop (mkF m 43 #[.val (.int q0), .val (.int q1), .val (.int ln), .val (.int (1 : Int32)), .val (.ref b3), .unset, .unset, .unset, .unset] [(.int (1 : Int32)), (.int (ln / (16777216 : Int32)))]))
    refine own_by (fun _ k => XS.ifNo X3.here hx rfl (hb hby at_43) rfl ((if0 _ _).trans (feq (by decide : ¬ ((1 : Int32) = (0 : Int32)))).1) k) ?_
    show OEnds p e below s _ _ _ (T3.setTop (mkF m 46 #[.val (.int q0), .val (.int q1), .val (.int ln), .val (.int (1 : Int32)), .val (.ref b3), .unset, .unset, .unset, .unset] [(.int (ln / (16777216 : Int32)))]))
    refine own_by (fun _ k => XS.sipush X3.here hx rfl (hb hby at_46) k) ?_
    show OEnds p e below s _ _ _ (T3.setTop (mkF m 49 #[.val (.int q0), .val (.int q1), .val (.int ln), .val (.int (1 : Int32)), .val (.ref b3), .unset, .unset, .unset, .unset] [(.int (128 : Int32)), (.int (ln / (16777216 : Int32)))]))
    refine own_by (fun _ k => XS.goto X3.here hx rfl (pc0 := 49) (pc' := 53) rfl (hb hby at_49) (by decide) (by decide) k) ?_
    show OEnds p e below s _ _ _ (T3.setTop (mkF m 53 #[.val (.int q0), .val (.int q1), .val (.int ln), .val (.int (1 : Int32)), .val (.ref b3), .unset, .unset, .unset, .unset] [(.int (128 : Int32)), (.int (ln / (16777216 : Int32)))]))
    refine own_by (fun _ k => XS.iadd X3.here hx rfl (hb hby at_53) rfl k) ?_
    show OEnds p e below s _ _ _ (T3.setTop (mkF m 54 #[.val (.int q0), .val (.int q1), .val (.int ln), .val (.int (1 : Int32)), .val (.ref b3), .unset, .unset, .unset, .unset] [(.int ((ln / (16777216 : Int32)) + (128 : Int32)))]))
    refine own_by (fun _ k => XS.istore X3.here hx rfl (hb hby at_54) rfl (l' := #[.val (.int q0), .val (.int q1), .val (.int ln), .val (.int (1 : Int32)), .val (.ref b3), .val (.int ((ln / (16777216 : Int32)) + (128 : Int32))), .unset, .unset, .unset]) rfl k) ?_
    show OEnds p e below s _ _ _ (T3.setTop (mkF m 56 #[.val (.int q0), .val (.int q1), .val (.int ln), .val (.int (1 : Int32)), .val (.ref b3), .val (.int ((ln / (16777216 : Int32)) + (128 : Int32))), .unset, .unset, .unset] []))
    refine own_by (fun _ k => XS.iloadN X3.here hx rfl (hb hby at_56) rfl k) ?_
    show OEnds p e below s _ _ _ (T3.setTop (mkF m 57 #[.val (.int q0), .val (.int q1), .val (.int ln), .val (.int (1 : Int32)), .val (.ref b3), .val (.int ((ln / (16777216 : Int32)) + (128 : Int32))), .unset, .unset, .unset] [(.int ln)]))
    refine own_by (X3.ldcInt hx hown (mvT hZ (hw _ (List.mem_of_getElem? (i := 8) rfl))) (g := (mkF m 57 #[.val (.int q0), .val (.int q1), .val (.int ln), .val (.int (1 : Int32)), .val (.ref b3), .val (.int ((ln / (16777216 : Int32)) + (128 : Int32))), .unset, .unset, .unset] [(.int ln)])) rfl (hb hby at_57)) ?_
    show OEnds p e below s _ _ _ (T3.setTop (mkF m 59 #[.val (.int q0), .val (.int q1), .val (.int ln), .val (.int (1 : Int32)), .val (.ref b3), .val (.int ((ln / (16777216 : Int32)) + (128 : Int32))), .unset, .unset, .unset] [(.int (65536 : Int32)), (.int ln)]))
    refine own_by (fun _ k => XS.idiv X3.here hx rfl (hb hby at_59) rfl (by decide) k) ?_
    show OEnds p e below s _ _ _ (T3.setTop (mkF m 60 #[.val (.int q0), .val (.int q1), .val (.int ln), .val (.int (1 : Int32)), .val (.ref b3), .val (.int ((ln / (16777216 : Int32)) + (128 : Int32))), .unset, .unset, .unset] [(.int (ln / (65536 : Int32)))]))
    refine own_by (fun _ k => XS.sipush X3.here hx rfl (hb hby at_60) k) ?_
    show OEnds p e below s _ _ _ (T3.setTop (mkF m 63 #[.val (.int q0), .val (.int q1), .val (.int ln), .val (.int (1 : Int32)), .val (.ref b3), .val (.int ((ln / (16777216 : Int32)) + (128 : Int32))), .unset, .unset, .unset] [(.int (256 : Int32)), (.int (ln / (65536 : Int32)))]))
    refine own_by (fun _ k => iremM X3 hx rfl (hb hby at_63) rfl (by decide) k) ?_
    show OEnds p e below s _ _ _ (T3.setTop (mkF m 64 #[.val (.int q0), .val (.int q1), .val (.int ln), .val (.int (1 : Int32)), .val (.ref b3), .val (.int ((ln / (16777216 : Int32)) + (128 : Int32))), .unset, .unset, .unset] [(.int ((ln / (65536 : Int32)) % (256 : Int32)))]))
    refine own_by (fun _ k => XS.istore X3.here hx rfl (hb hby at_64) rfl (l' := #[.val (.int q0), .val (.int q1), .val (.int ln), .val (.int (1 : Int32)), .val (.ref b3), .val (.int ((ln / (16777216 : Int32)) + (128 : Int32))), .val (.int ((ln / (65536 : Int32)) % (256 : Int32))), .unset, .unset]) rfl k) ?_
    show OEnds p e below s _ _ _ (T3.setTop (mkF m 66 #[.val (.int q0), .val (.int q1), .val (.int ln), .val (.int (1 : Int32)), .val (.ref b3), .val (.int ((ln / (16777216 : Int32)) + (128 : Int32))), .val (.int ((ln / (65536 : Int32)) % (256 : Int32))), .unset, .unset] []))
    refine own_by (fun _ k => XS.iloadN X3.here hx rfl (hb hby at_66) rfl k) ?_
    show OEnds p e below s _ _ _ (T3.setTop (mkF m 67 #[.val (.int q0), .val (.int q1), .val (.int ln), .val (.int (1 : Int32)), .val (.ref b3), .val (.int ((ln / (16777216 : Int32)) + (128 : Int32))), .val (.int ((ln / (65536 : Int32)) % (256 : Int32))), .unset, .unset] [(.int ln)]))
    refine own_by (fun _ k => XS.sipush X3.here hx rfl (hb hby at_67) k) ?_
    show OEnds p e below s _ _ _ (T3.setTop (mkF m 70 #[.val (.int q0), .val (.int q1), .val (.int ln), .val (.int (1 : Int32)), .val (.ref b3), .val (.int ((ln / (16777216 : Int32)) + (128 : Int32))), .val (.int ((ln / (65536 : Int32)) % (256 : Int32))), .unset, .unset] [(.int (256 : Int32)), (.int ln)]))
    refine own_by (fun _ k => XS.idiv X3.here hx rfl (hb hby at_70) rfl (by decide) k) ?_
    show OEnds p e below s _ _ _ (T3.setTop (mkF m 71 #[.val (.int q0), .val (.int q1), .val (.int ln), .val (.int (1 : Int32)), .val (.ref b3), .val (.int ((ln / (16777216 : Int32)) + (128 : Int32))), .val (.int ((ln / (65536 : Int32)) % (256 : Int32))), .unset, .unset] [(.int (ln / (256 : Int32)))]))
    refine own_by (fun _ k => XS.sipush X3.here hx rfl (hb hby at_71) k) ?_
    show OEnds p e below s _ _ _ (T3.setTop (mkF m 74 #[.val (.int q0), .val (.int q1), .val (.int ln), .val (.int (1 : Int32)), .val (.ref b3), .val (.int ((ln / (16777216 : Int32)) + (128 : Int32))), .val (.int ((ln / (65536 : Int32)) % (256 : Int32))), .unset, .unset] [(.int (256 : Int32)), (.int (ln / (256 : Int32)))]))
    refine own_by (fun _ k => iremM X3 hx rfl (hb hby at_74) rfl (by decide) k) ?_
    show OEnds p e below s _ _ _ (T3.setTop (mkF m 75 #[.val (.int q0), .val (.int q1), .val (.int ln), .val (.int (1 : Int32)), .val (.ref b3), .val (.int ((ln / (16777216 : Int32)) + (128 : Int32))), .val (.int ((ln / (65536 : Int32)) % (256 : Int32))), .unset, .unset] [(.int ((ln / (256 : Int32)) % (256 : Int32)))]))
    refine own_by (fun _ k => XS.istore X3.here hx rfl (hb hby at_75) rfl (l' := #[.val (.int q0), .val (.int q1), .val (.int ln), .val (.int (1 : Int32)), .val (.ref b3), .val (.int ((ln / (16777216 : Int32)) + (128 : Int32))), .val (.int ((ln / (65536 : Int32)) % (256 : Int32))), .val (.int ((ln / (256 : Int32)) % (256 : Int32))), .unset]) rfl k) ?_
    show OEnds p e below s _ _ _ (T3.setTop (mkF m 77 #[.val (.int q0), .val (.int q1), .val (.int ln), .val (.int (1 : Int32)), .val (.ref b3), .val (.int ((ln / (16777216 : Int32)) + (128 : Int32))), .val (.int ((ln / (65536 : Int32)) % (256 : Int32))), .val (.int ((ln / (256 : Int32)) % (256 : Int32))), .unset] []))
    refine own_by (fun _ k => XS.iloadN X3.here hx rfl (hb hby at_77) rfl k) ?_
    show OEnds p e below s _ _ _ (T3.setTop (mkF m 78 #[.val (.int q0), .val (.int q1), .val (.int ln), .val (.int (1 : Int32)), .val (.ref b3), .val (.int ((ln / (16777216 : Int32)) + (128 : Int32))), .val (.int ((ln / (65536 : Int32)) % (256 : Int32))), .val (.int ((ln / (256 : Int32)) % (256 : Int32))), .unset] [(.int ln)]))
    refine own_by (fun _ k => XS.sipush X3.here hx rfl (hb hby at_78) k) ?_
    show OEnds p e below s _ _ _ (T3.setTop (mkF m 81 #[.val (.int q0), .val (.int q1), .val (.int ln), .val (.int (1 : Int32)), .val (.ref b3), .val (.int ((ln / (16777216 : Int32)) + (128 : Int32))), .val (.int ((ln / (65536 : Int32)) % (256 : Int32))), .val (.int ((ln / (256 : Int32)) % (256 : Int32))), .unset] [(.int (256 : Int32)), (.int ln)]))
    refine own_by (fun _ k => iremM X3 hx rfl (hb hby at_81) rfl (by decide) k) ?_
    show OEnds p e below s _ _ _ (T3.setTop (mkF m 82 #[.val (.int q0), .val (.int q1), .val (.int ln), .val (.int (1 : Int32)), .val (.ref b3), .val (.int ((ln / (16777216 : Int32)) + (128 : Int32))), .val (.int ((ln / (65536 : Int32)) % (256 : Int32))), .val (.int ((ln / (256 : Int32)) % (256 : Int32))), .unset] [(.int (ln % (256 : Int32)))]))
    refine own_by (fun _ k => XS.istore X3.here hx rfl (hb hby at_82) rfl (l' := #[.val (.int q0), .val (.int q1), .val (.int ln), .val (.int (1 : Int32)), .val (.ref b3), .val (.int ((ln / (16777216 : Int32)) + (128 : Int32))), .val (.int ((ln / (65536 : Int32)) % (256 : Int32))), .val (.int ((ln / (256 : Int32)) % (256 : Int32))), .val (.int (ln % (256 : Int32)))]) rfl k) ?_
    show OEnds p e below s _ _ _ (T3.setTop (mkF m 84 #[.val (.int q0), .val (.int q1), .val (.int ln), .val (.int (1 : Int32)), .val (.ref b3), .val (.int ((ln / (16777216 : Int32)) + (128 : Int32))), .val (.int ((ln / (65536 : Int32)) % (256 : Int32))), .val (.int ((ln / (256 : Int32)) % (256 : Int32))), .val (.int (ln % (256 : Int32)))] []))
    refine own_by (fun _ k => XS.aload X3.here hx rfl (hb hby at_84) rfl rfl k) ?_
    show OEnds p e below s _ _ _ (T3.setTop (mkF m 86 #[.val (.int q0), .val (.int q1), .val (.int ln), .val (.int (1 : Int32)), .val (.ref b3), .val (.int ((ln / (16777216 : Int32)) + (128 : Int32))), .val (.int ((ln / (65536 : Int32)) % (256 : Int32))), .val (.int ((ln / (256 : Int32)) % (256 : Int32))), .val (.int (ln % (256 : Int32)))] [(.ref b3)]))
    refine own_by (fun _ k => XS.iconst X3.here hx rfl (hb hby at_86) k) ?_
    show OEnds p e below s _ _ _ (T3.setTop (mkF m 87 #[.val (.int q0), .val (.int q1), .val (.int ln), .val (.int (1 : Int32)), .val (.ref b3), .val (.int ((ln / (16777216 : Int32)) + (128 : Int32))), .val (.int ((ln / (65536 : Int32)) % (256 : Int32))), .val (.int ((ln / (256 : Int32)) % (256 : Int32))), .val (.int (ln % (256 : Int32)))] [(.int (0 : Int32)), (.ref b3)]))
    refine own_by (own_baload X3 hx hZ e3 F3 0 (by decide) (by decide) rfl (g := (mkF m 87 #[.val (.int q0), .val (.int q1), .val (.int ln), .val (.int (1 : Int32)), .val (.ref b3), .val (.int ((ln / (16777216 : Int32)) + (128 : Int32))), .val (.int ((ln / (65536 : Int32)) % (256 : Int32))), .val (.int ((ln / (256 : Int32)) % (256 : Int32))), .val (.int (ln % (256 : Int32)))] [(.int (0 : Int32)), (.ref b3)])) rfl rfl (hb hby at_87)) ?_
    show OEnds p e below s _ _ _ (T3.setTop (mkF m 88 #[.val (.int q0), .val (.int q1), .val (.int ln), .val (.int (1 : Int32)), .val (.ref b3), .val (.int ((ln / (16777216 : Int32)) + (128 : Int32))), .val (.int ((ln / (65536 : Int32)) % (256 : Int32))), .val (.int ((ln / (256 : Int32)) % (256 : Int32))), .val (.int (ln % (256 : Int32)))] [(.int ((hdr ln (1 : Int32)) 0))]))
    refine own_by (fun _ k => XS.sipush X3.here hx rfl (hb hby at_88) k) ?_
    show OEnds p e below s _ _ _ (T3.setTop (mkF m 91 #[.val (.int q0), .val (.int q1), .val (.int ln), .val (.int (1 : Int32)), .val (.ref b3), .val (.int ((ln / (16777216 : Int32)) + (128 : Int32))), .val (.int ((ln / (65536 : Int32)) % (256 : Int32))), .val (.int ((ln / (256 : Int32)) % (256 : Int32))), .val (.int (ln % (256 : Int32)))] [(.int (255 : Int32)), (.int ((hdr ln (1 : Int32)) 0))]))
    refine own_by (fun _ k => XS.iand X3.here hx rfl (hb hby at_91) rfl k) ?_
    show OEnds p e below s _ _ _ (T3.setTop (mkF m 92 #[.val (.int q0), .val (.int q1), .val (.int ln), .val (.int (1 : Int32)), .val (.ref b3), .val (.int ((ln / (16777216 : Int32)) + (128 : Int32))), .val (.int ((ln / (65536 : Int32)) % (256 : Int32))), .val (.int ((ln / (256 : Int32)) % (256 : Int32))), .val (.int (ln % (256 : Int32)))] [(.int (((hdr ln (1 : Int32)) 0) &&& (255 : Int32)))]))
    refine own_by (fun _ k => XS.iload X3.here hx rfl (hb hby at_92) rfl k) ?_
    show OEnds p e below s _ _ _ (T3.setTop (mkF m 94 #[.val (.int q0), .val (.int q1), .val (.int ln), .val (.int (1 : Int32)), .val (.ref b3), .val (.int ((ln / (16777216 : Int32)) + (128 : Int32))), .val (.int ((ln / (65536 : Int32)) % (256 : Int32))), .val (.int ((ln / (256 : Int32)) % (256 : Int32))), .val (.int (ln % (256 : Int32)))] [(.int ((ln / (16777216 : Int32)) + (128 : Int32))), (.int (((hdr ln (1 : Int32)) 0) &&& (255 : Int32)))]))
    refine own_by (fun _ k => XS.icmpNo X3.here hx rfl (hb hby at_94) rfl (teq (own_b0t hln)).2 k) ?_
    show OEnds p e below s _ _ _ (T3.setTop (mkF m 97 #[.val (.int q0), .val (.int q1), .val (.int ln), .val (.int (1 : Int32)), .val (.ref b3), .val (.int ((ln / (16777216 : Int32)) + (128 : Int32))), .val (.int ((ln / (65536 : Int32)) % (256 : Int32))), .val (.int ((ln / (256 : Int32)) % (256 : Int32))), .val (.int (ln % (256 : Int32)))] []))
    refine own_by (fun _ k => XS.aload X3.here hx rfl (hb hby at_97) rfl rfl k) ?_
    show OEnds p e below s _ _ _ (T3.setTop (mkF m 99 #[.val (.int q0), .val (.int q1), .val (.int ln), .val (.int (1 : Int32)), .val (.ref b3), .val (.int ((ln / (16777216 : Int32)) + (128 : Int32))), .val (.int ((ln / (65536 : Int32)) % (256 : Int32))), .val (.int ((ln / (256 : Int32)) % (256 : Int32))), .val (.int (ln % (256 : Int32)))] [(.ref b3)]))
    refine own_by (fun _ k => XS.iconst X3.here hx rfl (hb hby at_99) k) ?_
    show OEnds p e below s _ _ _ (T3.setTop (mkF m 100 #[.val (.int q0), .val (.int q1), .val (.int ln), .val (.int (1 : Int32)), .val (.ref b3), .val (.int ((ln / (16777216 : Int32)) + (128 : Int32))), .val (.int ((ln / (65536 : Int32)) % (256 : Int32))), .val (.int ((ln / (256 : Int32)) % (256 : Int32))), .val (.int (ln % (256 : Int32)))] [(.int (1 : Int32)), (.ref b3)]))
    refine own_by (own_baload X3 hx hZ e3 F3 1 (by decide) (by decide) rfl (g := (mkF m 100 #[.val (.int q0), .val (.int q1), .val (.int ln), .val (.int (1 : Int32)), .val (.ref b3), .val (.int ((ln / (16777216 : Int32)) + (128 : Int32))), .val (.int ((ln / (65536 : Int32)) % (256 : Int32))), .val (.int ((ln / (256 : Int32)) % (256 : Int32))), .val (.int (ln % (256 : Int32)))] [(.int (1 : Int32)), (.ref b3)])) rfl rfl (hb hby at_100)) ?_
    show OEnds p e below s _ _ _ (T3.setTop (mkF m 101 #[.val (.int q0), .val (.int q1), .val (.int ln), .val (.int (1 : Int32)), .val (.ref b3), .val (.int ((ln / (16777216 : Int32)) + (128 : Int32))), .val (.int ((ln / (65536 : Int32)) % (256 : Int32))), .val (.int ((ln / (256 : Int32)) % (256 : Int32))), .val (.int (ln % (256 : Int32)))] [(.int ((hdr ln (1 : Int32)) 1))]))
    refine own_by (fun _ k => XS.sipush X3.here hx rfl (hb hby at_101) k) ?_
    show OEnds p e below s _ _ _ (T3.setTop (mkF m 104 #[.val (.int q0), .val (.int q1), .val (.int ln), .val (.int (1 : Int32)), .val (.ref b3), .val (.int ((ln / (16777216 : Int32)) + (128 : Int32))), .val (.int ((ln / (65536 : Int32)) % (256 : Int32))), .val (.int ((ln / (256 : Int32)) % (256 : Int32))), .val (.int (ln % (256 : Int32)))] [(.int (255 : Int32)), (.int ((hdr ln (1 : Int32)) 1))]))
    refine own_by (fun _ k => XS.iand X3.here hx rfl (hb hby at_104) rfl k) ?_
    show OEnds p e below s _ _ _ (T3.setTop (mkF m 105 #[.val (.int q0), .val (.int q1), .val (.int ln), .val (.int (1 : Int32)), .val (.ref b3), .val (.int ((ln / (16777216 : Int32)) + (128 : Int32))), .val (.int ((ln / (65536 : Int32)) % (256 : Int32))), .val (.int ((ln / (256 : Int32)) % (256 : Int32))), .val (.int (ln % (256 : Int32)))] [(.int (((hdr ln (1 : Int32)) 1) &&& (255 : Int32)))]))
    refine own_by (fun _ k => XS.iload X3.here hx rfl (hb hby at_105) rfl k) ?_
    show OEnds p e below s _ _ _ (T3.setTop (mkF m 107 #[.val (.int q0), .val (.int q1), .val (.int ln), .val (.int (1 : Int32)), .val (.ref b3), .val (.int ((ln / (16777216 : Int32)) + (128 : Int32))), .val (.int ((ln / (65536 : Int32)) % (256 : Int32))), .val (.int ((ln / (256 : Int32)) % (256 : Int32))), .val (.int (ln % (256 : Int32)))] [(.int ((ln / (65536 : Int32)) % (256 : Int32))), (.int (((hdr ln (1 : Int32)) 1) &&& (255 : Int32)))]))
    refine own_by (fun _ k => XS.icmpNo X3.here hx rfl (hb hby at_107) rfl (teq (own_b1t hln)).2 k) ?_
    show OEnds p e below s _ _ _ (T3.setTop (mkF m 110 #[.val (.int q0), .val (.int q1), .val (.int ln), .val (.int (1 : Int32)), .val (.ref b3), .val (.int ((ln / (16777216 : Int32)) + (128 : Int32))), .val (.int ((ln / (65536 : Int32)) % (256 : Int32))), .val (.int ((ln / (256 : Int32)) % (256 : Int32))), .val (.int (ln % (256 : Int32)))] []))
    refine own_by (fun _ k => XS.aload X3.here hx rfl (hb hby at_110) rfl rfl k) ?_
    show OEnds p e below s _ _ _ (T3.setTop (mkF m 112 #[.val (.int q0), .val (.int q1), .val (.int ln), .val (.int (1 : Int32)), .val (.ref b3), .val (.int ((ln / (16777216 : Int32)) + (128 : Int32))), .val (.int ((ln / (65536 : Int32)) % (256 : Int32))), .val (.int ((ln / (256 : Int32)) % (256 : Int32))), .val (.int (ln % (256 : Int32)))] [(.ref b3)]))
    refine own_by (fun _ k => XS.iconst X3.here hx rfl (hb hby at_112) k) ?_
    show OEnds p e below s _ _ _ (T3.setTop (mkF m 113 #[.val (.int q0), .val (.int q1), .val (.int ln), .val (.int (1 : Int32)), .val (.ref b3), .val (.int ((ln / (16777216 : Int32)) + (128 : Int32))), .val (.int ((ln / (65536 : Int32)) % (256 : Int32))), .val (.int ((ln / (256 : Int32)) % (256 : Int32))), .val (.int (ln % (256 : Int32)))] [(.int (2 : Int32)), (.ref b3)]))
    refine own_by (own_baload X3 hx hZ e3 F3 2 (by decide) (by decide) rfl (g := (mkF m 113 #[.val (.int q0), .val (.int q1), .val (.int ln), .val (.int (1 : Int32)), .val (.ref b3), .val (.int ((ln / (16777216 : Int32)) + (128 : Int32))), .val (.int ((ln / (65536 : Int32)) % (256 : Int32))), .val (.int ((ln / (256 : Int32)) % (256 : Int32))), .val (.int (ln % (256 : Int32)))] [(.int (2 : Int32)), (.ref b3)])) rfl rfl (hb hby at_113)) ?_
    show OEnds p e below s _ _ _ (T3.setTop (mkF m 114 #[.val (.int q0), .val (.int q1), .val (.int ln), .val (.int (1 : Int32)), .val (.ref b3), .val (.int ((ln / (16777216 : Int32)) + (128 : Int32))), .val (.int ((ln / (65536 : Int32)) % (256 : Int32))), .val (.int ((ln / (256 : Int32)) % (256 : Int32))), .val (.int (ln % (256 : Int32)))] [(.int ((hdr ln (1 : Int32)) 2))]))
    refine own_by (fun _ k => XS.sipush X3.here hx rfl (hb hby at_114) k) ?_
    show OEnds p e below s _ _ _ (T3.setTop (mkF m 117 #[.val (.int q0), .val (.int q1), .val (.int ln), .val (.int (1 : Int32)), .val (.ref b3), .val (.int ((ln / (16777216 : Int32)) + (128 : Int32))), .val (.int ((ln / (65536 : Int32)) % (256 : Int32))), .val (.int ((ln / (256 : Int32)) % (256 : Int32))), .val (.int (ln % (256 : Int32)))] [(.int (255 : Int32)), (.int ((hdr ln (1 : Int32)) 2))]))
    refine own_by (fun _ k => XS.iand X3.here hx rfl (hb hby at_117) rfl k) ?_
    show OEnds p e below s _ _ _ (T3.setTop (mkF m 118 #[.val (.int q0), .val (.int q1), .val (.int ln), .val (.int (1 : Int32)), .val (.ref b3), .val (.int ((ln / (16777216 : Int32)) + (128 : Int32))), .val (.int ((ln / (65536 : Int32)) % (256 : Int32))), .val (.int ((ln / (256 : Int32)) % (256 : Int32))), .val (.int (ln % (256 : Int32)))] [(.int (((hdr ln (1 : Int32)) 2) &&& (255 : Int32)))]))
    refine own_by (fun _ k => XS.iload X3.here hx rfl (hb hby at_118) rfl k) ?_
    show OEnds p e below s _ _ _ (T3.setTop (mkF m 120 #[.val (.int q0), .val (.int q1), .val (.int ln), .val (.int (1 : Int32)), .val (.ref b3), .val (.int ((ln / (16777216 : Int32)) + (128 : Int32))), .val (.int ((ln / (65536 : Int32)) % (256 : Int32))), .val (.int ((ln / (256 : Int32)) % (256 : Int32))), .val (.int (ln % (256 : Int32)))] [(.int ((ln / (256 : Int32)) % (256 : Int32))), (.int (((hdr ln (1 : Int32)) 2) &&& (255 : Int32)))]))
    refine own_by (fun _ k => XS.icmpNo X3.here hx rfl (hb hby at_120) rfl (teq (own_b2t hln)).2 k) ?_
    show OEnds p e below s _ _ _ (T3.setTop (mkF m 123 #[.val (.int q0), .val (.int q1), .val (.int ln), .val (.int (1 : Int32)), .val (.ref b3), .val (.int ((ln / (16777216 : Int32)) + (128 : Int32))), .val (.int ((ln / (65536 : Int32)) % (256 : Int32))), .val (.int ((ln / (256 : Int32)) % (256 : Int32))), .val (.int (ln % (256 : Int32)))] []))
    refine own_by (fun _ k => XS.aload X3.here hx rfl (hb hby at_123) rfl rfl k) ?_
    show OEnds p e below s _ _ _ (T3.setTop (mkF m 125 #[.val (.int q0), .val (.int q1), .val (.int ln), .val (.int (1 : Int32)), .val (.ref b3), .val (.int ((ln / (16777216 : Int32)) + (128 : Int32))), .val (.int ((ln / (65536 : Int32)) % (256 : Int32))), .val (.int ((ln / (256 : Int32)) % (256 : Int32))), .val (.int (ln % (256 : Int32)))] [(.ref b3)]))
    refine own_by (fun _ k => XS.iconst X3.here hx rfl (hb hby at_125) k) ?_
    show OEnds p e below s _ _ _ (T3.setTop (mkF m 126 #[.val (.int q0), .val (.int q1), .val (.int ln), .val (.int (1 : Int32)), .val (.ref b3), .val (.int ((ln / (16777216 : Int32)) + (128 : Int32))), .val (.int ((ln / (65536 : Int32)) % (256 : Int32))), .val (.int ((ln / (256 : Int32)) % (256 : Int32))), .val (.int (ln % (256 : Int32)))] [(.int (3 : Int32)), (.ref b3)]))
    refine own_by (own_baload X3 hx hZ e3 F3 3 (by decide) (by decide) rfl (g := (mkF m 126 #[.val (.int q0), .val (.int q1), .val (.int ln), .val (.int (1 : Int32)), .val (.ref b3), .val (.int ((ln / (16777216 : Int32)) + (128 : Int32))), .val (.int ((ln / (65536 : Int32)) % (256 : Int32))), .val (.int ((ln / (256 : Int32)) % (256 : Int32))), .val (.int (ln % (256 : Int32)))] [(.int (3 : Int32)), (.ref b3)])) rfl rfl (hb hby at_126)) ?_
    show OEnds p e below s _ _ _ (T3.setTop (mkF m 127 #[.val (.int q0), .val (.int q1), .val (.int ln), .val (.int (1 : Int32)), .val (.ref b3), .val (.int ((ln / (16777216 : Int32)) + (128 : Int32))), .val (.int ((ln / (65536 : Int32)) % (256 : Int32))), .val (.int ((ln / (256 : Int32)) % (256 : Int32))), .val (.int (ln % (256 : Int32)))] [(.int ((hdr ln (1 : Int32)) 3))]))
    refine own_by (fun _ k => XS.sipush X3.here hx rfl (hb hby at_127) k) ?_
    show OEnds p e below s _ _ _ (T3.setTop (mkF m 130 #[.val (.int q0), .val (.int q1), .val (.int ln), .val (.int (1 : Int32)), .val (.ref b3), .val (.int ((ln / (16777216 : Int32)) + (128 : Int32))), .val (.int ((ln / (65536 : Int32)) % (256 : Int32))), .val (.int ((ln / (256 : Int32)) % (256 : Int32))), .val (.int (ln % (256 : Int32)))] [(.int (255 : Int32)), (.int ((hdr ln (1 : Int32)) 3))]))
    refine own_by (fun _ k => XS.iand X3.here hx rfl (hb hby at_130) rfl k) ?_
    show OEnds p e below s _ _ _ (T3.setTop (mkF m 131 #[.val (.int q0), .val (.int q1), .val (.int ln), .val (.int (1 : Int32)), .val (.ref b3), .val (.int ((ln / (16777216 : Int32)) + (128 : Int32))), .val (.int ((ln / (65536 : Int32)) % (256 : Int32))), .val (.int ((ln / (256 : Int32)) % (256 : Int32))), .val (.int (ln % (256 : Int32)))] [(.int (((hdr ln (1 : Int32)) 3) &&& (255 : Int32)))]))
    refine own_by (fun _ k => XS.iload X3.here hx rfl (hb hby at_131) rfl k) ?_
    show OEnds p e below s _ _ _ (T3.setTop (mkF m 133 #[.val (.int q0), .val (.int q1), .val (.int ln), .val (.int (1 : Int32)), .val (.ref b3), .val (.int ((ln / (16777216 : Int32)) + (128 : Int32))), .val (.int ((ln / (65536 : Int32)) % (256 : Int32))), .val (.int ((ln / (256 : Int32)) % (256 : Int32))), .val (.int (ln % (256 : Int32)))] [(.int (ln % (256 : Int32))), (.int (((hdr ln (1 : Int32)) 3) &&& (255 : Int32)))]))
    refine own_by (fun _ k => XS.icmpNo X3.here hx rfl (hb hby at_133) rfl (teq (own_b3t hln)).2 k) ?_
    show OEnds p e below s _ _ _ (T3.setTop (mkF m 136 #[.val (.int q0), .val (.int q1), .val (.int ln), .val (.int (1 : Int32)), .val (.ref b3), .val (.int ((ln / (16777216 : Int32)) + (128 : Int32))), .val (.int ((ln / (65536 : Int32)) % (256 : Int32))), .val (.int ((ln / (256 : Int32)) % (256 : Int32))), .val (.int (ln % (256 : Int32)))] []))
    refine own_by (fun _ k => XS.iconst X3.here hx rfl (hb hby at_136) k) ?_
    show OEnds p e below s _ _ _ (T3.setTop (mkF m 137 #[.val (.int q0), .val (.int q1), .val (.int ln), .val (.int (1 : Int32)), .val (.ref b3), .val (.int ((ln / (16777216 : Int32)) + (128 : Int32))), .val (.int ((ln / (65536 : Int32)) % (256 : Int32))), .val (.int ((ln / (256 : Int32)) % (256 : Int32))), .val (.int (ln % (256 : Int32)))] [(.int (1 : Int32))]))
    refine own_by (fun _ k => XS.goto X3.here hx rfl (pc0 := 137) (pc' := 141) rfl (hb hby at_137) (by decide) (by decide) k) ?_
    show OEnds p e below s _ _ _ (T3.setTop (mkF m 141 #[.val (.int q0), .val (.int q1), .val (.int ln), .val (.int (1 : Int32)), .val (.ref b3), .val (.int ((ln / (16777216 : Int32)) + (128 : Int32))), .val (.int ((ln / (65536 : Int32)) % (256 : Int32))), .val (.int ((ln / (256 : Int32)) % (256 : Int32))), .val (.int (ln % (256 : Int32)))] [(.int (1 : Int32))]))
    exact own_retN X3 hx hlk .boolean (by simp) Bd.returns (hb hby at_141) ⟨rfl, N3⟩ (by decide) (by decide)
set_option maxRecDepth 65536 in
set_option maxHeartbeats 40000000 in
theorem comes_1 {Post : Tables → Env → Array Value → State → Outcome → State → Prop} (hpost : ∀ tb e args s v u, (limb_1_1.after args s (.returned v) u = true ∧ limb_1_2.after args s (.returned v) u = true ∧ True) → FrameEnd s (.returned v) u (Jvm.fieldLocs frame_1_writes args s ++ Jvm.arrayLocs frame_1_arrays args s ++ Jvm.staticLocs frame_1_statics s) 16 128 → Post tb e args s (.returned v) u) :
    ArmFor flags0 classFile x code maxLocals ret World_1 tables_1 room_1 Calls_1 rest_1 Pre_1 Post := by
  intro l hfl _ _ p e ha hc hk s m args below hf hA hF happ hP
  obtain ⟨hcalls, hrest, hpre⟩ := hP
  obtain ⟨-, -, -, hnamed, -, -, -, hat⟩ := (Spec.applies_iff hf).mp happ
  obtain ⟨hg, hn⟩ := and_e (Cond.before_iff.mp (show (Jvm.Cond.and given_1 narrow_1).before args s = true from hpre))
  obtain ⟨hct, hg0⟩ := and_e hg
  obtain ⟨ga0, hg1⟩ := and_e hg0
  have ga1 := hg1
  obtain ⟨w0, w1, rfl⟩ : ∃ w0 w1 : Value, args = #[w0, w1] := by
    have hs : args.size = 2 := by simpa [Cond.value, given_1] using hct
    obtain ⟨L⟩ := args
    match L, hs with
    | [w0, w1], _ => exact ⟨w0, w1, rfl⟩
  have hw := fun d (hd : d ∈ tables_1) => atoms_spec (ws := Jvm.Cond.code x code maxLocals ret :: tables_1) hat d (List.mem_cons_of_mem _ hd)
  obtain ⟨i0, ei0⟩ := is_v ga0
  obtain rfl : w0 = (.int i0) := Option.some.inj ei0
  obtain ⟨i1, ei1⟩ := is_v ga1
  obtain rfl : w1 = (.int i1) := Option.some.inj ei1
  obtain ⟨n, o, h1, h2, h3, _, L, rfl, ⟨rfl, N⟩, hq⟩ := rm_law l s _ hw tables_1 i0 i1 s.heap s.heap.size (Nat.le_refl _) p e ha hc hk s m _ below hf ((Spec.applies_iff_loose hf).mp happ).1 ⟨rfl, State.Warmed39.refl s, rfl⟩ trivial
  refine ⟨n, _, h1, h2, h3, hpost _ _ _ _ _ _ ⟨Cond.after_iff.mpr rfl, Cond.after_iff.mpr (eq_i res_at (Term.int_eval (1)) rfl), trivial⟩ ⟨hq.1, hq.2.1, (hq.2.2.sift fun y hy => Or.inr (N y hy)).mono (by decide) (by decide)⟩⟩
theorem main_1_1 : Claimed_1_1 := comes_1 fun _ _ _ _ _ _ h hF => ⟨h.1, hF⟩
theorem main_1_2 : Claimed_1_2 := comes_1 fun _ _ _ _ _ _ h hF => ⟨h.2.1, hF⟩
end Jvm.Pilot.@@N@@
namespace Jvm.Pilot.@@N@@
open Jvm Jvm.ClassFile Sem Op Lib Jvm.Free Jvm.Stand Jvm.Pilot.@@N@@.Jvm.D
/-! MADE BY PROGRAM (witnessworld.py) out of the Statement's table words and the real class files: 9 classes; the members and pool entries that the words name. The judged class is class 1, her method 1. -/
namespace start1
open Jvm.ClassFile
def u (s : String) : CpInfo := .utf8 (stringToUtf16 s)
/-- a pool by its gaps: so many unusable entries, then the entry; so many at the end -/
def gap : Nat → List CpInfo → List CpInfo
  | 0, r => r
  | n + 1, r => .unusable :: gap n r
def poolList (es : List (Nat × CpInfo)) (last : Nat) : List CpInfo := es.foldr (fun e r => gap e.1 (e.2 :: r)) (gap last [])
def pool (es : List (Nat × CpInfo)) (last : Nat) : Array CpInfo := ⟨poolList es last⟩
def fileOf (pool : Array CpInfo) (this : Nat) (attrs : Array Attribute := #[]) (ms : Array MethodInfo := #[]) (fl : Nat := 33) (sup : Nat := 0) (ifs : Array Nat := #[]) (fds : Array FieldInfo := #[]) : ClassFile where
  minorVersion := 0
  majorVersion := 65
  constantPool := pool
  accessFlags := fl
  thisClass := this
  superClass := sup
  interfaces := ifs
  fields := fds
  methods := ms
  attributes := attrs
def plain (name : String) (sup : Option ClassId) : Class where
  name := name
  kind := .ordinary
  loader := none
  accessFlags := 33
  super := sup
  interfaces := #[]
  cf := none
  fields := #[]
  methods := #[]
  instanceTypes := #[]
  staticTypes := #[]
  resolved := #[]
  callSites := []
  init := .initialized
  statics := none
  mirror := none

def pool0 : Array CpInfo := pool [(5, u "<init>"), (0, u "()V"), (1, .class_ 10), (1, u "java/lang/Object")] 113

def k0m0 : Method := { name := "<init>", desc := "()V", sig := { parameters := [], returnType := none }, accessFlags := 1, code := none }
/-- java/lang/Object -/
def k0 : Class := { plain "java/lang/Object" none with
  accessFlags := 33
  interfaces := #[]
  cf := some (fileOf pool0 8 #[] #[{ accessFlags := 1, nameIndex := 5, descriptorIndex := 6, attributes := #[] }] 33 0 #[] #[])
  fields := #[]
  methods := #[k0m0]
  instanceTypes := #[]
  staticTypes := #[]
  resolved := Array.replicate 124 none
  statics := none }

def pool1 : Array CpInfo := pool [(2, .class_ 4), (1, u "java/lang/Object"), (0, u "<init>"), (0, u "()V"), (0, .integer 2147483647), (0, .methodref 9 10), (0, .class_ 11), (0, .nameAndType 12 13), (0, u "com/example/fourfold/fourfold/xdr/FragmentHeader"), (0, u "of"), (0, u "(IZ)[B"), (0, .integer 16777216), (0, .integer 65536), (0, .class_ 17), (0, u "com/example/fourfold/fourfold/xdr/FragmentHeaderOfPinLaw"), (2, u "law"), (0, u "(II)Z")] 5

def k1m0 : Method := { name := "<init>", desc := "()V", sig := { parameters := [], returnType := none }, accessFlags := 2, code := none }
def k1c1 : Code := { maxStack := 2, maxLocals := 9, code := code, exceptionTable := #[], attributes := #[] }
def k1m1 : Method := { name := "law", desc := "(II)Z", sig := { parameters := [.int, .int], returnType := some .boolean }, accessFlags := 9, code := some k1c1 }
/-- com/example/fourfold/fourfold/xdr/FragmentHeaderOfPinLaw -/
def k1 : Class := { plain "com/example/fourfold/fourfold/xdr/FragmentHeaderOfPinLaw" (some 0) with
  accessFlags := 49
  interfaces := #[]
  cf := some (fileOf pool1 16 #[] #[{ accessFlags := 2, nameIndex := 5, descriptorIndex := 6, attributes := #[] }, { accessFlags := 9, nameIndex := 20, descriptorIndex := 21, attributes := #[] }] 49 2 #[] #[])
  fields := #[]
  methods := #[k1m0, k1m1]
  instanceTypes := #[]
  staticTypes := #[]
  resolved := Array.replicate 27 none
  statics := none }

def pool2 : Array CpInfo := pool [(2, .class_ 4), (1, u "java/lang/Object"), (0, u "<init>"), (0, u "()V"), (0, .class_ 8), (0, u "com/example/fourfold/fourfold/xdr/FragmentHeader"), (0, .integer 2147483648), (9, u "BYTES"), (0, u "I"), (2, u "MAX_LENGTH"), (0, u "LAST"), (2, u "of"), (0, u "(IZ)[B")] 8

def k2m0 : Method := { name := "<init>", desc := "()V", sig := { parameters := [], returnType := none }, accessFlags := 2, code := none }
def k2c1 : Code := { maxStack := 7, maxLocals := 5, code := prog_87_method_2_code, exceptionTable := #[], attributes := #[] }
def k2m1 : Method := { name := "of", desc := "(IZ)[B", sig := { parameters := [.int, .boolean], returnType := some (.array .byte) }, accessFlags := 8, code := some k2c1 }
/-- com/example/fourfold/fourfold/xdr/FragmentHeader -/
def k2 : Class := { plain "com/example/fourfold/fourfold/xdr/FragmentHeader" (some 0) with
  accessFlags := 48
  interfaces := #[]
  cf := some (fileOf pool2 7 #[] #[{ accessFlags := 2, nameIndex := 5, descriptorIndex := 6, attributes := #[] }, { accessFlags := 8, nameIndex := 27, descriptorIndex := 28, attributes := #[] }] 48 2 #[] #[{ accessFlags := 24, nameIndex := 19, descriptorIndex := 20, attributes := #[] }, { accessFlags := 24, nameIndex := 23, descriptorIndex := 20, attributes := #[] }, { accessFlags := 26, nameIndex := 24, descriptorIndex := 20, attributes := #[] }])
  fields := #[{ name := "BYTES", type := .int, accessFlags := 24, slot := 0, constantValue := 0 }, { name := "MAX_LENGTH", type := .int, accessFlags := 24, slot := 1, constantValue := 0 }, { name := "LAST", type := .int, accessFlags := 26, slot := 2, constantValue := 0 }]
  methods := #[k2m0, k2m1]
  instanceTypes := #[]
  staticTypes := #[.int, .int, .int]
  resolved := Array.replicate 37 none
  statics := none }

def pool3 : Array CpInfo := pool [(1, u "java/lang/Cloneable"), (0, .class_ 1), (0, u "java/lang/Object"), (0, .class_ 3)] 3

/-- java/lang/Cloneable -/
def k3 : Class := { plain "java/lang/Cloneable" (some 0) with
  accessFlags := 1537
  interfaces := #[]
  cf := some (fileOf pool3 2 #[] #[] 1537 4 #[] #[])
  fields := #[]
  methods := #[]
  instanceTypes := #[]
  staticTypes := #[]
  resolved := Array.replicate 8 none
  statics := none }

def pool4 : Array CpInfo := pool [(1, u "java/io/Serializable"), (0, .class_ 1), (0, u "java/lang/Object"), (0, .class_ 3)] 3

/-- java/io/Serializable -/
def k4 : Class := { plain "java/io/Serializable" (some 0) with
  accessFlags := 1537
  interfaces := #[]
  cf := some (fileOf pool4 2 #[] #[] 1537 4 #[] #[])
  fields := #[]
  methods := #[]
  instanceTypes := #[]
  staticTypes := #[]
  resolved := Array.replicate 8 none
  statics := none }

/-- the primitive byte -/
def k5 : Class := { plain "byte" none with kind := .primitive 'B', accessFlags := 0x411 }
/-- [B -/
def k6 : Class := { plain "[B" (some 0) with kind := .array 5 .byte, interfaces := #[3, 4], accessFlags := 1041 }

/-- the primitive int -/
def k7 : Class := { plain "int" none with kind := .primitive 'I', accessFlags := 0x411 }
/-- [I -/
def k8 : Class := { plain "[I" (some 0) with kind := .array 7 .int, interfaces := #[3, 4], accessFlags := 1041 }

def heap : Heap := #[]
def classes : Array Class := #[k0, k1, k2, k3, k4, k5, k6, k7, k8]
def interned : List (Array UInt16 × Addr) := []
def slotsUsed : Nat := 0
def theMethod : MethodId := ⟨1, 1⟩
def args0 : Array Value := #[.int 5, .int 1]
def aboutOver (below : List Frame) : State where
  vm := { classes := classes, interned := interned.toArray }
  heap := heap
  slotsUsed := slotsUsed
  threads := #[{ frames := .invoking theMethod args0 :: below }]
def below0 : List Frame := [.native { method := ⟨0, 0⟩, args := #[] }]
def about1 : State := aboutOver below0
def p0 : Program := .bare "" "" ""
def e0 : Env := launch0.env 0 0 0
theorem w_frames : about1.frames = Frame.invoking theMethod args0 :: below0 := rfl
set_option maxRecDepth 65536 in
theorem w_args : argsFit about1.vm theMethod args0 = true := by decide +kernel
set_option maxRecDepth 65536 in
theorem w_heap : heapFits about1 = true := by decide +kernel
set_option maxRecDepth 65536 in
theorem w_runnable : about1.curStatus? = some .runnable := by decide +kernel
set_option maxRecDepth 65536 in
theorem w_alone : about1.alone = true := by decide +kernel
set_option maxRecDepth 65536 in
theorem w_named : about1.methodNamed? x = some theMethod := by decide +kernel
set_option maxRecDepth 65536 in
theorem w_hears : about1.hears theMethod below0 = true := by decide +kernel
set_option maxRecDepth 65536 in
theorem w_ripe : about1.ripe theMethod args0 below0 = true := by decide +kernel
theorem w_running : about1.status = .running := rfl
set_option maxRecDepth 65536 in
theorem w_room : about1.hasRoom e0.platform room_1 = true :=
  launch0.hasRoom_least _ room_1 (by decide +kernel) (by decide +kernel) (by decide +kernel) (by decide +kernel) (by decide +kernel) (by decide +kernel)
theorem allAtoms_all (ts : List Jvm.Cond) (a : Array Jvm.Value) (st : Jvm.State) : (allAtoms ts).before a st = ts.all (fun c => c.before a st) := by
  induction ts with
  | nil => rfl
  | cons c t ih =>
    show (Jvm.Cond.and c (allAtoms t)).before a st = _
    rw [Jvm.Cond.before_and, ih, List.all_cons]
def words1 : List Jvm.Cond := Jvm.Cond.code x code maxLocals ret :: tables_1
/-- a 'code' word, met by the world's own term for the bytes: nothing is compared byte by byte -/
theorem code_word {y : MethodName} {bytes : ByteArray} {mx : Nat} {rt : Option FieldType} {a : Array Value} {s : State} {m : MethodId} {meth : Method} {c : Code} (h1 : s.methodNamed? y = some m) (h2 : s.vm.method? m = some meth) (h3 : meth.code = some c) (h4 : c.code = bytes)
    (h5 : (c.maxLocals == mx && c.exceptionTable.isEmpty && decide (c.maxStack ≤ mostOperands) && decide (meth.sig.returnType = rt) && !meth.locks && decide (parseMethodDescriptor y.desc = some meth.sig)) = true) : (Jvm.Cond.code y bytes mx rt).before a s = true := by
  simp only [Bool.and_eq_true, beq_iff_eq, Bool.not_eq_true', decide_eq_true_eq] at h5
  obtain ⟨⟨⟨⟨⟨g1, g2⟩, g3⟩, g4⟩, g5⟩, g6⟩ := h5
  simp [Cond.before, Cond.holds, Cond.value, h1, h2, h3, h4, g1, g2, g3, g4, g5, g6]
def isCode : Jvm.Cond → Bool
  | .code _ _ _ _ => true
  | _ => false
theorem all_split {L : List Jvm.Cond} {P : Jvm.Cond → Bool} (h1 : L.all (fun c => isCode c || P c) = true) (h2 : ∀ c ∈ L.filter isCode, P c = true) : L.all P = true := by
  refine List.all_eq_true.mpr fun c hc => ?_
  have h := List.all_eq_true.mp h1 c hc
  rcases Bool.eq_false_or_eq_true (isCode c) with hi | hi
  · exact h2 c (List.mem_filter.mpr ⟨hc, hi⟩)
  · simpa [hi] using h
set_option maxRecDepth 65536 in
theorem w_c0 : (Jvm.Cond.code x code maxLocals ret).before args0 about1 = true := code_word (m := ⟨1, 1⟩) (meth := k1m1) (c := k1c1) (by decide +kernel) rfl rfl rfl (by decide +kernel)
set_option maxRecDepth 65536 in
theorem w_c1 : (Jvm.Cond.code ({ cls := "com/example/fourfold/fourfold/xdr/FragmentHeader", name := "of", desc := "(IZ)[B" } : Jvm.MethodName) prog_87_method_2_code (5 : Nat) (Option.some (Jvm.ClassFile.FieldType.array Jvm.ClassFile.FieldType.byte))).before args0 about1 = true := code_word (m := ⟨2, 1⟩) (meth := k2m1) (c := k2c1) (by decide +kernel) rfl rfl rfl (by decide +kernel)
def codes1 : List Jvm.Cond := [Jvm.Cond.code x code maxLocals ret, Jvm.Cond.code ({ cls := "com/example/fourfold/fourfold/xdr/FragmentHeader", name := "of", desc := "(IZ)[B" } : Jvm.MethodName) prog_87_method_2_code (5 : Nat) (Option.some (Jvm.ClassFile.FieldType.array Jvm.ClassFile.FieldType.byte))]
set_option maxRecDepth 65536 in
theorem codes_eq : words1.filter isCode = codes1 := rfl
theorem w_codes : ∀ c ∈ words1.filter isCode, c.before args0 about1 = true := by
  rw [codes_eq]
  intro c hc
  simp only [codes1, List.mem_cons, List.not_mem_nil, or_false] at hc
  rcases hc with rfl | rfl
  · exact w_c0
  · exact w_c1
set_option maxRecDepth 65536 in
theorem w_t1 : words1.all (fun c => isCode c || c.before args0 about1) = true := by decide +kernel
theorem w_tables : (allAtoms (Jvm.Cond.code x code maxLocals ret :: tables_1)).before args0 about1 = true := by
  rw [allAtoms_all]
  show words1.all (fun c => c.before args0 about1) = true
  refine all_split ?_ w_codes
  rw [w_t1]
set_option maxRecDepth 65536 in
theorem w_case : (Jvm.Cond.and given_1 narrow_1).before args0 about1 = true := by decide +kernel
theorem w_applies : (headSpec (Jvm.Cond.code x code maxLocals ret :: tables_1) room_1).applies x e0.platform about1 = true :=
  (Spec.applies_iff w_frames).mpr ⟨w_running, w_runnable, w_alone, w_named, w_hears, w_ripe, w_room, w_tables⟩
theorem atStart : AtStart classFile x code maxLocals ret World_1 tables_1 room_1 Calls_1 rest_1 Pre_1 launch0 p0 e0 about1 theMethod args0 below0 :=
  ⟨lists_1, trivial, launch0.admits_env _ _ _, launch0.least_env, fairChoices_fair.cas, fairChoices_fair.clock, w_frames, w_args, w_heap, w_applies, trivial, trivial, w_case⟩
end start1
theorem witness_1 : WitnessClaimed_1 := ⟨start1.p0, start1.e0, start1.about1, start1.theMethod, start1.args0, start1.below0, start1.atStart⟩
end Jvm.Pilot.@@N@@
