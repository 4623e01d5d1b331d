import JvmDerived
import JvmDerived.Pilot.@@N@@Statement
import JvmDerived.Pilot.@@N@@Code
set_option linter.unusedVariables false
set_option linter.unusedSimpArgs false
namespace Jvm.Pilot.@@N@@
open Jvm Jvm.ClassFile Sem Op Lib Jvm.Free Jvm.Stand Jvm.LawKit Jvm.RoadKit Bundle Jvm.Pilot.@@N@@.Jvm.D
section Own
variable {p : Program} {l : Launch} {e : Env} {R : Room} {s : State} {m : MethodId} {args : Array Value} {below : List Frame} {meth : Method} {c : Code} {T : State} {locs : List Loc} {cells slots : Nat} {Z : State} {a0 : Array Value} {h h' : Heap}
/-- from S the walk comes to the method's end, where Q holds of what is returned, the heap and the written places -/
def OEnds (p : Program) (e : Env) (below : List Frame) (s : State) (Q : Option Value → Heap → List Loc → Prop) (K N : Nat) (S : State) : Prop :=
  ∃ s₂ o, Steps p.tables e below S s₂ ∧ s₂.status = .running ∧ Ended s₂ below o ∧ ∃ v L, o = .returned v ∧ Q v s₂.heap L ∧ FrameEnd s o s₂ L K N
variable {Q Q' : Option Value → Heap → List Loc → Prop} {K N : Nat} {S S' : State}
theorem own_by (st : ∀ t, Steps p.tables e below S' t → Steps p.tables e below S t) (k : OEnds p e below s Q K N S') : OEnds p e below s Q K N S := by
  obtain ⟨a, o, h1, h2⟩ := k
  exact ⟨a, o, st _ h1, h2⟩
theorem own_tr (st : Steps p.tables e below S S') (k : OEnds p e below s Q K N S') : OEnds p e below s Q K N S := by
  obtain ⟨a, o, h1, h2⟩ := k
  exact ⟨a, o, st.trans h1, h2⟩
theorem own_mono (f : ∀ v h L, Q' v h L → Q v h L) (k : OEnds p e below s Q' K N S) : OEnds p e below s Q K N S := by
  obtain ⟨a, o, h1, h2, h3, v, L, h4, h5, h6⟩ := k
  exact ⟨a, o, h1, h2, h3, v, L, h4, f _ _ _ h5, h6⟩
theorem own_fin (X : Stand p l e R s m args below meth c T locs cells slots) (hlk : meth.locks = false) {v : Option Value} (hv : meth.sig.returnType = none → v = none) (hQ : Q v T.heap locs) (hK : cells ≤ K) (hN : slots ≤ N)
    (hst : ∀ fs, (∀ (f : JFrame) (acts : List Action), f.method = m → f.locked = none → f.entered = [] → (doReturn e (T.setTop f) acts v).1 = T.setFrames fs) → Steps p.tables e below S (T.setFrames fs)) : OEnds p e below s Q K N S := by
  obtain ⟨fs, hr, hrun, hended, hW, hsame⟩ := X.leave hv hlk
  exact ⟨_, _, hst fs hr, hrun, hended, _, _, rfl, hQ, ⟨_, rfl⟩, hW, hsame.mono hK hN⟩
theorem own_retI (X : Stand p l e R s m args below meth c T locs cells slots) (hx : p.tables.exec = Jvm.exec) (hlk : meth.locks = false) {pc : Nat} {Ls : Array Slot} {z : Int32} {rest : List Value} (hret : meth.sig.returnType = some .int) (hd : decode c.code pc = .ok (.ireturn, 1))
    (hQ : Q (some (.int z)) T.heap locs) (hK : cells ≤ K) (hN : slots ≤ N) : OEnds p e below s Q K N (T.setTop (mkF m pc Ls (.int z :: rest))) :=
  own_fin X hlk (fun q => by rw [hret] at q; cases q) hQ hK hN fun _ hr => retOut X hx hret rfl (Or.inl ⟨rfl, Or.inl rfl, _, rfl⟩) hd hr
theorem own_retN (X : Stand p l e R s m args below meth c T locs cells slots) (hx : p.tables.exec = Jvm.exec) (hlk : meth.locks = false) (t : FieldType) (ht : t = .boolean ∨ t = .byte ∨ t = .char ∨ t = .short) {pc : Nat} {Ls : Array Slot} {z : Int32} {rest : List Value} (hret : meth.sig.returnType = some t) (hd : decode c.code pc = .ok (.ireturn, 1))
    (hQ : Q (some (.int (nar t z))) T.heap locs) (hK : cells ≤ K) (hN : slots ≤ N) : OEnds p e below s Q K N (T.setTop (mkF m pc Ls (.int z :: rest))) :=
  own_fin X hlk (fun q => by rw [hret] at q; cases q) hQ hK hN fun _ hr => retN X hx hret ht hd hr
theorem own_retJ (X : Stand p l e R s m args below meth c T locs cells slots) (hx : p.tables.exec = Jvm.exec) (hlk : meth.locks = false) {pc : Nat} {Ls : Array Slot} {z : Int64} {rest : List Value} (hret : meth.sig.returnType = some .long) (hd : decode c.code pc = .ok (.lreturn, 1))
    (hQ : Q (some (.long z)) T.heap locs) (hK : cells ≤ K) (hN : slots ≤ N) : OEnds p e below s Q K N (T.setTop (mkF m pc Ls (.long z :: rest))) :=
  own_fin X hlk (fun q => by rw [hret] at q; cases q) hQ hK hN fun _ hr => retOut X hx hret rfl (Or.inr (Or.inl ⟨rfl, rfl, _, rfl⟩)) hd hr
theorem own_retA (X : Stand p l e R s m args below meth c T locs cells slots) (hx : p.tables.exec = Jvm.exec) (hlk : meth.locks = false) {t : FieldType} (ht : t.isReference = true) {pc : Nat} {Ls : Array Slot} {a : Addr} {rest : List Value} (hret : meth.sig.returnType = some t) (hn : narrow t (.ref a) = .ref a) (hd : decode c.code pc = .ok (.areturn, 1))
    (hQ : Q (some (.ref a)) T.heap locs) (hK : cells ≤ K) (hN : slots ≤ N) : OEnds p e below s Q K N (T.setTop (mkF m pc Ls (.ref a :: rest))) :=
  own_fin X hlk (fun q => by rw [hret] at q; cases q) hQ hK hN fun _ hr => retOut X hx hret hn (Or.inr (Or.inr (Or.inr (Or.inr ⟨rfl, ht, rfl⟩)))) hd hr
theorem own_retV (X : Stand p l e R s m args below meth c T locs cells slots) (hx : p.tables.exec = Jvm.exec) (hlk : meth.locks = false) {pc : Nat} {Ls : Array Slot} (hret : meth.sig.returnType = none) (hd : decode c.code pc = .ok (.return_, 1))
    (hQ : Q none T.heap locs) (hK : cells ≤ K) (hN : slots ≤ N) : OEnds p e below s Q K N (T.setTop (mkF m pc Ls [])) :=
  own_fin X hlk (fun _ => rfl) hQ hK hN fun _ hr => X.returnOut hx hret hd hr
/-- what a plain method leaves: its value, nothing written, the heap as it was -/
def QP (r : Value) (h0 : Heap) (v : Option Value) (h : Heap) (L : List Loc) : Prop := v = some r ∧ L = [] ∧ h = h0
theorem own_eq {r r' : Value} {h0 : Heap} (q : r = r') (k : OEnds p e below s (QP r' h0) K N S) : OEnds p e below s (QP r h0) K N S := by subst q; exact k
theorem own_lrem {g : JFrame} {target : State} (X : Stand p l e R s m args below meth c T locs cells slots) (hx : p.tables.exec = Jvm.exec) (hg : g.method = m) {x y : Int64} {rest : List Value} (hd : decode c.code g.pc = .ok (.lrem, 1)) (hs : g.stack = .long y :: .long x :: rest) (hy : y ≠ 0)
    (hr : Steps p.tables e below (T.setTop { g with pc := g.pc + 1, stack := .long (x % y) :: rest }) target) : Steps p.tables e below (T.setTop g) target := by
  have q : x - x / y * y = x % y := lrem_mod x y
  exact XS.lrem X.here hx hg hd hs hy (by rw [q]; exact hr)
/-- a call of a plain static method by its contract -/
theorem own_callP (X : Stand p l e R s m args below meth c T locs cells slots) (hx : p.tables.exec = Jvm.exec) (hZ : Z.Warmed39 s.vm) {own : String} {index : Nat} {y : MethodName} {bytes : ByteArray} {maxL : Nat} {ret : Option FieldType} {fr lo : Nat} {r : Value} {argsL rest : List Value} {g : JFrame}
    (hown : s.vm.findClass own = some m.cls) (w1 : (Cond.methodLink own index y).before a0 Z = true) (w2 : (Cond.static y).before a0 Z = true) (w3 : (Cond.initialized y.cls).before a0 Z = true) (w4 : (Cond.code y bytes maxL ret).before a0 Z = true)
    (hy : y.cls ≠ "java/lang/invoke/MethodHandle" ∧ y.cls ≠ "java/lang/invoke/VarHandle")
    (hM : MetFree l y (head1 [Cond.code y bytes maxL ret] ({ frames := fr, cells := 0, slots := 0, locals := lo } : Room)) (fun a U => a = argsL.toArray ∧ Z.Warmed39 U.vm ∧ U.heap = h) (fun _ _ _ _ _ => True) (fun _ U o U' => ∃ v L, o = .returned v ∧ QP r h v U'.heap L ∧ FrameEnd U o U' L 0 0))
    (eT : T.heap = h) (hg : g.method = m) (hsize : g.locals.size = c.maxLocals) (hlen : ∀ sig, parseMethodDescriptor y.desc = some sig → argsL.length = sig.parameters.length) (hstack : g.stack = argsL.reverse ++ rest) {W : Nat} (hW : 2 * g.monitorRoom + (rest.map fun v => v.category).sum ≤ W)
    (hd : decode c.code g.pc = .ok (.invokestatic index, 3)) (hf : fr + 1 ≤ R.frames) (hl : W + (maxL + 11) + lo ≤ R.locals) (hc : cells ≤ R.cells) (hs : slots ≤ R.slots) :
    ∃ T', Stand p l e R s m args below meth c T' locs cells slots ∧ T'.heap = h ∧ ∀ target, Steps p.tables e below (T'.setTop { g with pc := g.pc + 3, stack := r :: rest }) target → Steps p.tables e below (T.setTop g) target := by
  obtain ⟨_, _, ⟨T1, L1, k1, n1⟩, -, X1, ⟨Lc, hQ, l1, y1, z1⟩, st⟩ := Jvm.LawKit.callS X hx (y := y) hown (mvT hZ w1) (mvT hZ w2) (mvT hZ w3) (mvT hZ w4) hy (backOf (rm := ({ frames := fr, cells := 0, slots := 0, locals := lo } : Room)) (W := W) hM hZ w4 w3 hf hl) (g := g) hg hsize (argsL := argsL) (rest := rest) hlen hstack hW hd (fun _ _ => ⟨rfl, eT, hc, hs⟩)
  dsimp only [Pt.U, Pt.locs, Pt.cells, Pt.slots] at X1 l1 y1 z1 st hQ
  subst l1 y1 z1
  obtain ⟨rfl, rfl, e1⟩ := hQ
  rw [List.append_nil] at X1
  exact ⟨T1, X1, e1, st⟩
end Own
theorem pd_pIrI : parseMethodDescriptor "(I)I" = some ⟨[.int], some .int⟩ := by decide +kernel
theorem pd_pIIrI : parseMethodDescriptor "(II)I" = some ⟨[.int, .int], some .int⟩ := by decide +kernel
theorem pd_pJrI : parseMethodDescriptor "(J)I" = some ⟨[.long], some .int⟩ := by decide +kernel
theorem pd_pJIrI : parseMethodDescriptor "(JI)I" = some ⟨[.long, .int], some .int⟩ := by decide +kernel
theorem pd_pJIrJ : parseMethodDescriptor "(JI)J" = some ⟨[.long, .int], some .long⟩ := by decide +kernel
theorem pd_pJIIrJ : parseMethodDescriptor "(JII)J" = some ⟨[.long, .int, .int], some .long⟩ := by decide +kernel
theorem pd_pJJrJ : parseMethodDescriptor "(JJ)J" = some ⟨[.long, .long], some .long⟩ := by decide +kernel
theorem d4_0 : decode jdk_29_method_49_code 0 = .ok (.lload_n 0, 1) := by decide +kernel
theorem d4_1 : decode jdk_29_method_49_code 1 = .ok (.lload_n 2, 1) := by decide +kernel
theorem d4_2 : decode jdk_29_method_49_code 2 = .ok (.ldiv, 1) := by decide +kernel
theorem d4_3 : decode jdk_29_method_49_code 3 = .ok (.lstore 4, 2) := by decide +kernel
theorem d4_5 : decode jdk_29_method_49_code 5 = .ok (.lload_n 0, 1) := by decide +kernel
theorem d4_6 : decode jdk_29_method_49_code 6 = .ok (.lload_n 2, 1) := by decide +kernel
theorem d4_7 : decode jdk_29_method_49_code 7 = .ok (.lxor, 1) := by decide +kernel
theorem d4_8 : decode jdk_29_method_49_code 8 = .ok (.lconst 0, 1) := by decide +kernel
theorem d4_9 : decode jdk_29_method_49_code 9 = .ok (.lcmp, 1) := by decide +kernel
theorem d4_10 : decode jdk_29_method_49_code 10 = .ok (.ifCond .ge 17, 3) := by decide +kernel
theorem d4_13 : decode jdk_29_method_49_code 13 = .ok (.lload 4, 2) := by decide +kernel
theorem d4_15 : decode jdk_29_method_49_code 15 = .ok (.lload_n 2, 1) := by decide +kernel
theorem d4_16 : decode jdk_29_method_49_code 16 = .ok (.lmul, 1) := by decide +kernel
theorem d4_17 : decode jdk_29_method_49_code 17 = .ok (.lload_n 0, 1) := by decide +kernel
theorem d4_18 : decode jdk_29_method_49_code 18 = .ok (.lcmp, 1) := by decide +kernel
theorem d4_19 : decode jdk_29_method_49_code 19 = .ok (.ifCond .eq 8, 3) := by decide +kernel
theorem d4_22 : decode jdk_29_method_49_code 22 = .ok (.lload 4, 2) := by decide +kernel
theorem d4_24 : decode jdk_29_method_49_code 24 = .ok (.lconst 1, 1) := by decide +kernel
theorem d4_25 : decode jdk_29_method_49_code 25 = .ok (.lsub, 1) := by decide +kernel
theorem d4_26 : decode jdk_29_method_49_code 26 = .ok (.lreturn, 1) := by decide +kernel
theorem d4_27 : decode jdk_29_method_49_code 27 = .ok (.lload 4, 2) := by decide +kernel
theorem d4_29 : decode jdk_29_method_49_code 29 = .ok (.lreturn, 1) := by decide +kernel
theorem ef_4 (m : MethodId) (q0 : Int64) (q1 : Int64) : entryFrame m #[(.long q0), (.long q1)] 6 = mkF m 0 #[.val (.long q0), .second, .val (.long q1), .second, .unset, .unset] [] := by first | (simp [entryFrame, mkF, argsToLocals, Value.category]; done) | rfl
def fdivL_27 (q0 : Int64) (q1 : Int64) : Int64 := (q0 / q1)
def fdivL (q0 : Int64) (q1 : Int64) : Int64 := if (q0 ^^^ q1) < (0 : Int64) then if ((q0 / q1) * q1) = q0 then (fdivL_27 q0 q1) else ((q0 / q1) - (1 : Int64)) else (fdivL_27 q0 q1)
set_option maxRecDepth 65536 in
set_option maxHeartbeats 40000000 in
theorem rm_fdivL (l : Launch) (Z : State) (a0 : Array Value) (hw : ∀ d ∈ tables_1, d.before a0 Z = true) (ws : List Jvm.Cond) (q0 : Int64) (q1 : Int64) (h0 : Heap) (hnz_q1 : q1 ≠ 0) :
    MetFree l (⟨"java/lang/Math", "floorDiv", "(JJ)J"⟩ : MethodName) (head1 (Jvm.Cond.code (⟨"java/lang/Math", "floorDiv", "(JJ)J"⟩ : MethodName) jdk_29_method_49_code 6 (some .long) :: ws) ({ frames := 0, cells := 0, slots := 0, locals := 0 } : Room)) (fun a U => a = #[(.long q0), (.long q1)] ∧ Z.Warmed39 U.vm ∧ U.heap = h0) (fun _ _ _ _ _ => True) (fun _ U o U' => ∃ v L, o = .returned v ∧ QP (Value.long (fdivL q0 q1)) h0 v U'.heap L ∧ FrameEnd U o U' L 0 0) := by
  refine MetFree.of_bodySF (Jvm.Free.JP.mathPlain rfl (by decide +kernel)) hisR ?_
  intro p e s m args below meth c s₁ Bd hml0 hP hK
  obtain ⟨rfl, hZ, hh⟩ := hP
  have hx := Bd.exec
  have hby := Bd.bytes
  have hlk : meth.locks = false := Bd.notSynchronized
  have hml : c.maxLocals = 6 := hml0
  have hown : s.vm.findClass "java/lang/Math" = some m.cls := findClass_of_methodNamed Bd.named
  have X0 : Stand p l e ({ frames := 0, cells := 0, slots := 0, locals := 0 } : Room) s m #[(.long q0), (.long q1)] below meth c s₁ [] 0 0 := Stand.of_body Bd
  have e0 : s₁.heap = h0 := by rw [← hh, Bd.state]; rfl
  have bfdivL_27 : ∀ (T : State) (X : Stand p l e ({ frames := 0, cells := 0, slots := 0, locals := 0 } : Room) s m #[(.long q0), (.long q1)] below meth c T [] 0 0) (eT : T.heap = h0), OEnds p e below s (QP (Value.long (fdivL_27 q0 q1)) h0) 0 0 (T.setTop (mkF m 27 #[.val (.long q0), .second, .val (.long q1), .second, .val (.long (q0 / q1)), .second] [])) := by
    intro T X eT
    refine own_by (fun _ k => XS.lload X.here hx rfl (hb hby d4_27) rfl k) ?_
    show OEnds p e below s _ _ _ (T.setTop (mkF m 29 #[.val (.long q0), .second, .val (.long q1), .second, .val (.long (q0 / q1)), .second] [(.long (q0 / q1))]))
    exact own_retJ X hx hlk Bd.returns (hb hby d4_29) ⟨congrArg (fun z => some (Value.long z)) (Eq.symm (by rw [fdivL_27] <;> rfl)), rfl, eT⟩ (Nat.le_refl _) (Nat.le_refl _)
  show OEnds p e below s _ _ _ _
  refine own_by (fun t k => castTop (ef_4 m q0 q1) k) ?_
  show OEnds p e below s _ _ _ (s₁.setTop (mkF m 0 #[.val (.long q0), .second, .val (.long q1), .second, .unset, .unset] []))
  refine own_by (fun _ k => XS.lloadN X0.here hx rfl (hb hby d4_0) rfl k) ?_
  show OEnds p e below s _ _ _ (s₁.setTop (mkF m 1 #[.val (.long q0), .second, .val (.long q1), .second, .unset, .unset] [(.long q0)]))
  refine own_by (fun _ k => XS.lloadN X0.here hx rfl (hb hby d4_1) rfl k) ?_
  show OEnds p e below s _ _ _ (s₁.setTop (mkF m 2 #[.val (.long q0), .second, .val (.long q1), .second, .unset, .unset] [(.long q1), (.long q0)]))
  refine own_by (fun _ k => XS.ldiv X0.here hx rfl (hb hby d4_2) rfl hnz_q1 k) ?_
  show OEnds p e below s _ _ _ (s₁.setTop (mkF m 3 #[.val (.long q0), .second, .val (.long q1), .second, .unset, .unset] [(.long (q0 / q1))]))
  refine own_by (fun _ k => XS.lstore X0.here hx rfl (hb hby d4_3) rfl (l' := #[.val (.long q0), .second, .val (.long q1), .second, .val (.long (q0 / q1)), .second]) rfl k) ?_
  show OEnds p e below s _ _ _ (s₁.setTop (mkF m 5 #[.val (.long q0), .second, .val (.long q1), .second, .val (.long (q0 / q1)), .second] []))
  refine own_by (fun _ k => XS.lloadN X0.here hx rfl (hb hby d4_5) rfl k) ?_
  show OEnds p e below s _ _ _ (s₁.setTop (mkF m 6 #[.val (.long q0), .second, .val (.long q1), .second, .val (.long (q0 / q1)), .second] [(.long q0)]))
  refine own_by (fun _ k => XS.lloadN X0.here hx rfl (hb hby d4_6) rfl k) ?_
  show OEnds p e below s _ _ _ (s₁.setTop (mkF m 7 #[.val (.long q0), .second, .val (.long q1), .second, .val (.long (q0 / q1)), .second] [(.long q1), (.long q0)]))
  refine own_by (fun _ k => XS.lxor X0.here hx rfl (hb hby d4_7) rfl k) ?_
  show OEnds p e below s _ _ _ (s₁.setTop (mkF m 8 #[.val (.long q0), .second, .val (.long q1), .second, .val (.long (q0 / q1)), .second] [(.long (q0 ^^^ q1))]))
  refine own_by (fun _ k => XS.lconst X0.here hx rfl (hb hby d4_8) k) ?_
  show OEnds p e below s _ _ _ (s₁.setTop (mkF m 9 #[.val (.long q0), .second, .val (.long q1), .second, .val (.long (q0 / q1)), .second] [(.long (0 : Int64)), (.long (q0 ^^^ q1))]))
  refine own_by (fun _ k => XS.lcmp X0.here hx rfl (hb hby d4_9) rfl k) ?_
  show OEnds p e below s _ _ _ (s₁.setTop (mkF m 10 #[.val (.long q0), .second, .val (.long q1), .second, .val (.long (q0 / q1)), .second] [(.int (lcmpW (q0 ^^^ q1) (0 : Int64)))]))
  by_cases hc10 : (q0 ^^^ q1) < (0 : Int64)
  · refine own_by (fun _ k => XS.ifNo X0.here hx rfl (hb hby d4_10) rfl ((if0 _ _).trans (tlt ((lw_lt _ _).mpr hc10)).2.1) k) ?_
    show OEnds p e below s _ _ _ (s₁.setTop (mkF m 13 #[.val (.long q0), .second, .val (.long q1), .second, .val (.long (q0 / q1)), .second] []))
    refine own_by (fun _ k => XS.lload X0.here hx rfl (hb hby d4_13) rfl k) ?_
    show OEnds p e below s _ _ _ (s₁.setTop (mkF m 15 #[.val (.long q0), .second, .val (.long q1), .second, .val (.long (q0 / q1)), .second] [(.long (q0 / q1))]))
    refine own_by (fun _ k => XS.lloadN X0.here hx rfl (hb hby d4_15) rfl k) ?_
    show OEnds p e below s _ _ _ (s₁.setTop (mkF m 16 #[.val (.long q0), .second, .val (.long q1), .second, .val (.long (q0 / q1)), .second] [(.long q1), (.long (q0 / q1))]))
    refine own_by (fun _ k => XS.lmul X0.here hx rfl (hb hby d4_16) rfl k) ?_
    show OEnds p e below s _ _ _ (s₁.setTop (mkF m 17 #[.val (.long q0), .second, .val (.long q1), .second, .val (.long (q0 / q1)), .second] [(.long ((q0 / q1) * q1))]))
    refine own_by (fun _ k => XS.lloadN X0.here hx rfl (hb hby d4_17) rfl k) ?_
    show OEnds p e below s _ _ _ (s₁.setTop (mkF m 18 #[.val (.long q0), .second, .val (.long q1), .second, .val (.long (q0 / q1)), .second] [(.long q0), (.long ((q0 / q1) * q1))]))
    refine own_by (fun _ k => XS.lcmp X0.here hx rfl (hb hby d4_18) rfl k) ?_
    show OEnds p e below s _ _ _ (s₁.setTop (mkF m 19 #[.val (.long q0), .second, .val (.long q1), .second, .val (.long (q0 / q1)), .second] [(.int (lcmpW ((q0 / q1) * q1) q0))]))
    by_cases hc19 : ((q0 / q1) * q1) = q0
    · refine own_by (fun _ k => XS.ifYes X0.here hx rfl (pc0 := 19) (pc' := 27) rfl (hb hby d4_19) rfl ((if0 _ _).trans (teq ((lw_eq _ _).mpr hc19)).1) (by decide) (by decide) k) ?_
      show OEnds p e below s _ _ _ (s₁.setTop (mkF m 27 #[.val (.long q0), .second, .val (.long q1), .second, .val (.long (q0 / q1)), .second] []))
      exact own_eq (congrArg Value.long (by rw [fdivL, if_pos hc10, if_pos hc19] <;> rfl)) (bfdivL_27 s₁ X0 e0)
    · refine own_by (fun _ k => XS.ifNo X0.here hx rfl (hb hby d4_19) rfl ((if0 _ _).trans (feq (fun q => hc19 ((lw_eq _ _).mp q))).1) k) ?_
      show OEnds p e below s _ _ _ (s₁.setTop (mkF m 22 #[.val (.long q0), .second, .val (.long q1), .second, .val (.long (q0 / q1)), .second] []))
      refine own_by (fun _ k => XS.lload X0.here hx rfl (hb hby d4_22) rfl k) ?_
      show OEnds p e below s _ _ _ (s₁.setTop (mkF m 24 #[.val (.long q0), .second, .val (.long q1), .second, .val (.long (q0 / q1)), .second] [(.long (q0 / q1))]))
      refine own_by (fun _ k => XS.lconst X0.here hx rfl (hb hby d4_24) k) ?_
      show OEnds p e below s _ _ _ (s₁.setTop (mkF m 25 #[.val (.long q0), .second, .val (.long q1), .second, .val (.long (q0 / q1)), .second] [(.long (1 : Int64)), (.long (q0 / q1))]))
      refine own_by (fun _ k => XS.lsub X0.here hx rfl (hb hby d4_25) rfl k) ?_
      show OEnds p e below s _ _ _ (s₁.setTop (mkF m 26 #[.val (.long q0), .second, .val (.long q1), .second, .val (.long (q0 / q1)), .second] [(.long ((q0 / q1) - (1 : Int64)))]))
      exact own_retJ X0 hx hlk Bd.returns (hb hby d4_26) ⟨congrArg (fun z => some (Value.long z)) (Eq.symm (by rw [fdivL, if_pos hc10, if_neg hc19] <;> rfl)), rfl, e0⟩ (Nat.le_refl _) (Nat.le_refl _)
  · refine own_by (fun _ k => XS.ifYes X0.here hx rfl (pc0 := 10) (pc' := 27) rfl (hb hby d4_10) rfl ((if0 _ _).trans (flt (fun q => hc10 ((lw_lt _ _).mp q))).2.1) (by decide) (by decide) k) ?_
    show OEnds p e below s _ _ _ (s₁.setTop (mkF m 27 #[.val (.long q0), .second, .val (.long q1), .second, .val (.long (q0 / q1)), .second] []))
    exact own_eq (congrArg Value.long (by rw [fdivL, if_neg hc10] <;> rfl)) (bfdivL_27 s₁ X0 e0)
theorem d3_0 : decode jdk_29_method_48_code 0 = .ok (.lload_n 0, 1) := by decide +kernel
theorem d3_1 : decode jdk_29_method_48_code 1 = .ok (.iload_n 2, 1) := by decide +kernel
theorem d3_2 : decode jdk_29_method_48_code 2 = .ok (.i2l, 1) := by decide +kernel
theorem d3_3 : decode jdk_29_method_48_code 3 = .ok (.invokestatic 143, 3) := by decide +kernel
theorem d3_6 : decode jdk_29_method_48_code 6 = .ok (.lreturn, 1) := by decide +kernel
theorem ef_3 (m : MethodId) (q0 : Int64) (q1 : Int32) : entryFrame m #[(.long q0), (.int q1)] 3 = mkF m 0 #[.val (.long q0), .second, .val (.int q1)] [] := by first | (simp [entryFrame, mkF, argsToLocals, Value.category]; done) | rfl
def fdivI (q0 : Int64) (q1 : Int32) : Int64 := (fdivL q0 (q1.toInt64))
set_option maxRecDepth 65536 in
set_option maxHeartbeats 40000000 in
theorem rm_fdivI (l : Launch) (Z : State) (a0 : Array Value) (hw : ∀ d ∈ tables_1, d.before a0 Z = true) (ws : List Jvm.Cond) (q0 : Int64) (q1 : Int32) (h0 : Heap) (hnz : (q1.toInt64) ≠ 0) :
    MetFree l (⟨"java/lang/Math", "floorDiv", "(JI)J"⟩ : MethodName) (head1 (Jvm.Cond.code (⟨"java/lang/Math", "floorDiv", "(JI)J"⟩ : MethodName) jdk_29_method_48_code 3 (some .long) :: ws) ({ frames := 1, cells := 0, slots := 0, locals := 17 } : Room)) (fun a U => a = #[(.long q0), (.int q1)] ∧ Z.Warmed39 U.vm ∧ U.heap = h0) (fun _ _ _ _ _ => True) (fun _ U o U' => ∃ v L, o = .returned v ∧ QP (Value.long (fdivI q0 q1)) h0 v U'.heap L ∧ FrameEnd U o U' L 0 0) := by
  refine MetFree.of_bodySF (Jvm.Free.JP.mathPlain rfl (by decide +kernel)) hisR ?_
  intro p e s m args below meth c s₁ Bd hml0 hP hK
  obtain ⟨rfl, hZ, hh⟩ := hP
  have hx := Bd.exec
  have hby := Bd.bytes
  have hlk : meth.locks = false := Bd.notSynchronized
  have hml : c.maxLocals = 3 := hml0
  have hown : s.vm.findClass "java/lang/Math" = some m.cls := findClass_of_methodNamed Bd.named
  have X0 : Stand p l e ({ frames := 1, cells := 0, slots := 0, locals := 17 } : Room) s m #[(.long q0), (.int q1)] below meth c s₁ [] 0 0 := Stand.of_body Bd
  have e0 : s₁.heap = h0 := by rw [← hh, Bd.state]; rfl
  show OEnds p e below s _ _ _ _
  refine own_by (fun t k => castTop (ef_3 m q0 q1) k) ?_
  show OEnds p e below s _ _ _ (s₁.setTop (mkF m 0 #[.val (.long q0), .second, .val (.int q1)] []))
  refine own_by (fun _ k => XS.lloadN X0.here hx rfl (hb hby d3_0) rfl k) ?_
  show OEnds p e below s _ _ _ (s₁.setTop (mkF m 1 #[.val (.long q0), .second, .val (.int q1)] [(.long q0)]))
  refine own_by (fun _ k => XS.iloadN X0.here hx rfl (hb hby d3_1) rfl k) ?_
  show OEnds p e below s _ _ _ (s₁.setTop (mkF m 2 #[.val (.long q0), .second, .val (.int q1)] [(.int q1), (.long q0)]))
  refine own_by (fun _ k => XS.i2l X0.here hx rfl (hb hby d3_2) rfl k) ?_
  show OEnds p e below s _ _ _ (s₁.setTop (mkF m 3 #[.val (.long q0), .second, .val (.int q1)] [(.long (q1.toInt64)), (.long q0)]))
  obtain ⟨T2, X2, e2, st2⟩ := own_callP X0 hx hZ (y := (⟨"java/lang/Math", "floorDiv", "(JJ)J"⟩ : MethodName)) hown (hw _ (List.mem_of_getElem? (i := 13) rfl)) (hw _ (List.mem_of_getElem? (i := 14) rfl)) (hw _ (List.mem_of_getElem? (i := 11) rfl)) (hw _ (List.mem_of_getElem? (i := 15) rfl)) (by decide) (rm_fdivL l Z a0 hw [] q0 (q1.toInt64) h0 hnz) e0 (g := (mkF m 3 #[.val (.long q0), .second, .val (.int q1)] [(.long (q1.toInt64)), (.long q0)])) rfl (by rw [hml]; rfl) (argsL := [(.long q0), (.long (q1.toInt64))]) (rest := []) (lenOf pd_pJJrJ rfl) rfl (W := 0) (by show 2 * 0 + _ ≤ _; exact Nat.le_of_eq rfl) (hb hby d3_3) (by decide) (by decide) (by decide) (by decide)
  refine own_by st2 ?_
  show OEnds p e below s _ _ _ (T2.setTop (mkF m 6 #[.val (.long q0), .second, .val (.int q1)] [(.long (fdivL q0 (q1.toInt64)))]))
  exact own_retJ X2 hx hlk Bd.returns (hb hby d3_6) ⟨congrArg (fun z => some (Value.long z)) (Eq.symm (by rw [fdivI] <;> rfl)), rfl, e2⟩ (Nat.le_refl _) (Nat.le_refl _)
theorem d8_0 : decode jdk_29_method_52_code 0 = .ok (.lload_n 0, 1) := by decide +kernel
theorem d8_1 : decode jdk_29_method_52_code 1 = .ok (.lload_n 2, 1) := by decide +kernel
theorem d8_2 : decode jdk_29_method_52_code 2 = .ok (.lrem, 1) := by decide +kernel
theorem d8_3 : decode jdk_29_method_52_code 3 = .ok (.lstore 4, 2) := by decide +kernel
theorem d8_5 : decode jdk_29_method_52_code 5 = .ok (.lload_n 0, 1) := by decide +kernel
theorem d8_6 : decode jdk_29_method_52_code 6 = .ok (.lload_n 2, 1) := by decide +kernel
theorem d8_7 : decode jdk_29_method_52_code 7 = .ok (.lxor, 1) := by decide +kernel
theorem d8_8 : decode jdk_29_method_52_code 8 = .ok (.lconst 0, 1) := by decide +kernel
theorem d8_9 : decode jdk_29_method_52_code 9 = .ok (.lcmp, 1) := by decide +kernel
theorem d8_10 : decode jdk_29_method_52_code 10 = .ok (.ifCond .ge 15, 3) := by decide +kernel
theorem d8_13 : decode jdk_29_method_52_code 13 = .ok (.lload 4, 2) := by decide +kernel
theorem d8_15 : decode jdk_29_method_52_code 15 = .ok (.lconst 0, 1) := by decide +kernel
theorem d8_16 : decode jdk_29_method_52_code 16 = .ok (.lcmp, 1) := by decide +kernel
theorem d8_17 : decode jdk_29_method_52_code 17 = .ok (.ifCond .eq 8, 3) := by decide +kernel
theorem d8_20 : decode jdk_29_method_52_code 20 = .ok (.lload 4, 2) := by decide +kernel
theorem d8_22 : decode jdk_29_method_52_code 22 = .ok (.lload_n 2, 1) := by decide +kernel
theorem d8_23 : decode jdk_29_method_52_code 23 = .ok (.ladd, 1) := by decide +kernel
theorem d8_24 : decode jdk_29_method_52_code 24 = .ok (.lreturn, 1) := by decide +kernel
theorem d8_25 : decode jdk_29_method_52_code 25 = .ok (.lload 4, 2) := by decide +kernel
theorem d8_27 : decode jdk_29_method_52_code 27 = .ok (.lreturn, 1) := by decide +kernel
theorem ef_8 (m : MethodId) (q0 : Int64) (q1 : Int64) : entryFrame m #[(.long q0), (.long q1)] 6 = mkF m 0 #[.val (.long q0), .second, .val (.long q1), .second, .unset, .unset] [] := by first | (simp [entryFrame, mkF, argsToLocals, Value.category]; done) | rfl
def fmodL_25 (q0 : Int64) (q1 : Int64) : Int64 := (q0 % q1)
def fmodL (q0 : Int64) (q1 : Int64) : Int64 := if (q0 ^^^ q1) < (0 : Int64) then if (q0 % q1) = (0 : Int64) then (fmodL_25 q0 q1) else ((q0 % q1) + q1) else (fmodL_25 q0 q1)
set_option maxRecDepth 65536 in
set_option maxHeartbeats 40000000 in
theorem rm_fmodL (l : Launch) (Z : State) (a0 : Array Value) (hw : ∀ d ∈ tables_1, d.before a0 Z = true) (ws : List Jvm.Cond) (q0 : Int64) (q1 : Int64) (h0 : Heap) (hnz_q1 : q1 ≠ 0) :
    MetFree l (⟨"java/lang/Math", "floorMod", "(JJ)J"⟩ : MethodName) (head1 (Jvm.Cond.code (⟨"java/lang/Math", "floorMod", "(JJ)J"⟩ : MethodName) jdk_29_method_52_code 6 (some .long) :: ws) ({ frames := 0, cells := 0, slots := 0, locals := 0 } : Room)) (fun a U => a = #[(.long q0), (.long q1)] ∧ Z.Warmed39 U.vm ∧ U.heap = h0) (fun _ _ _ _ _ => True) (fun _ U o U' => ∃ v L, o = .returned v ∧ QP (Value.long (fmodL q0 q1)) h0 v U'.heap L ∧ FrameEnd U o U' L 0 0) := by
  refine MetFree.of_bodySF (Jvm.Free.JP.mathPlain rfl (by decide +kernel)) hisR ?_
  intro p e s m args below meth c s₁ Bd hml0 hP hK
  obtain ⟨rfl, hZ, hh⟩ := hP
  have hx := Bd.exec
  have hby := Bd.bytes
  have hlk : meth.locks = false := Bd.notSynchronized
  have hml : c.maxLocals = 6 := hml0
  have hown : s.vm.findClass "java/lang/Math" = some m.cls := findClass_of_methodNamed Bd.named
  have X0 : Stand p l e ({ frames := 0, cells := 0, slots := 0, locals := 0 } : Room) s m #[(.long q0), (.long q1)] below meth c s₁ [] 0 0 := Stand.of_body Bd
  have e0 : s₁.heap = h0 := by rw [← hh, Bd.state]; rfl
  have bfmodL_25 : ∀ (T : State) (X : Stand p l e ({ frames := 0, cells := 0, slots := 0, locals := 0 } : Room) s m #[(.long q0), (.long q1)] below meth c T [] 0 0) (eT : T.heap = h0), OEnds p e below s (QP (Value.long (fmodL_25 q0 q1)) h0) 0 0 (T.setTop (mkF m 25 #[.val (.long q0), .second, .val (.long q1), .second, .val (.long (q0 % q1)), .second] [])) := by
    intro T X eT
    refine own_by (fun _ k => XS.lload X.here hx rfl (hb hby d8_25) rfl k) ?_
    show OEnds p e below s _ _ _ (T.setTop (mkF m 27 #[.val (.long q0), .second, .val (.long q1), .second, .val (.long (q0 % q1)), .second] [(.long (q0 % q1))]))
    exact own_retJ X hx hlk Bd.returns (hb hby d8_27) ⟨congrArg (fun z => some (Value.long z)) (Eq.symm (by rw [fmodL_25] <;> rfl)), rfl, eT⟩ (Nat.le_refl _) (Nat.le_refl _)
  show OEnds p e below s _ _ _ _
  refine own_by (fun t k => castTop (ef_8 m q0 q1) k) ?_
  show OEnds p e below s _ _ _ (s₁.setTop (mkF m 0 #[.val (.long q0), .second, .val (.long q1), .second, .unset, .unset] []))
  refine own_by (fun _ k => XS.lloadN X0.here hx rfl (hb hby d8_0) rfl k) ?_
  show OEnds p e below s _ _ _ (s₁.setTop (mkF m 1 #[.val (.long q0), .second, .val (.long q1), .second, .unset, .unset] [(.long q0)]))
  refine own_by (fun _ k => XS.lloadN X0.here hx rfl (hb hby d8_1) rfl k) ?_
  show OEnds p e below s _ _ _ (s₁.setTop (mkF m 2 #[.val (.long q0), .second, .val (.long q1), .second, .unset, .unset] [(.long q1), (.long q0)]))
  refine own_by (fun _ k => own_lrem X0 hx rfl (hb hby d8_2) rfl hnz_q1 k) ?_
  show OEnds p e below s _ _ _ (s₁.setTop (mkF m 3 #[.val (.long q0), .second, .val (.long q1), .second, .unset, .unset] [(.long (q0 % q1))]))
  refine own_by (fun _ k => XS.lstore X0.here hx rfl (hb hby d8_3) rfl (l' := #[.val (.long q0), .second, .val (.long q1), .second, .val (.long (q0 % q1)), .second]) rfl k) ?_
  show OEnds p e below s _ _ _ (s₁.setTop (mkF m 5 #[.val (.long q0), .second, .val (.long q1), .second, .val (.long (q0 % q1)), .second] []))
  refine own_by (fun _ k => XS.lloadN X0.here hx rfl (hb hby d8_5) rfl k) ?_
  show OEnds p e below s _ _ _ (s₁.setTop (mkF m 6 #[.val (.long q0), .second, .val (.long q1), .second, .val (.long (q0 % q1)), .second] [(.long q0)]))
  refine own_by (fun _ k => XS.lloadN X0.here hx rfl (hb hby d8_6) rfl k) ?_
  show OEnds p e below s _ _ _ (s₁.setTop (mkF m 7 #[.val (.long q0), .second, .val (.long q1), .second, .val (.long (q0 % q1)), .second] [(.long q1), (.long q0)]))
  refine own_by (fun _ k => XS.lxor X0.here hx rfl (hb hby d8_7) rfl k) ?_
  show OEnds p e below s _ _ _ (s₁.setTop (mkF m 8 #[.val (.long q0), .second, .val (.long q1), .second, .val (.long (q0 % q1)), .second] [(.long (q0 ^^^ q1))]))
  refine own_by (fun _ k => XS.lconst X0.here hx rfl (hb hby d8_8) k) ?_
  show OEnds p e below s _ _ _ (s₁.setTop (mkF m 9 #[.val (.long q0), .second, .val (.long q1), .second, .val (.long (q0 % q1)), .second] [(.long (0 : Int64)), (.long (q0 ^^^ q1))]))
  refine own_by (fun _ k => XS.lcmp X0.here hx rfl (hb hby d8_9) rfl k) ?_
  show OEnds p e below s _ _ _ (s₁.setTop (mkF m 10 #[.val (.long q0), .second, .val (.long q1), .second, .val (.long (q0 % q1)), .second] [(.int (lcmpW (q0 ^^^ q1) (0 : Int64)))]))
  by_cases hc10 : (q0 ^^^ q1) < (0 : Int64)
  · refine own_by (fun _ k => XS.ifNo X0.here hx rfl (hb hby d8_10) rfl ((if0 _ _).trans (tlt ((lw_lt _ _).mpr hc10)).2.1) k) ?_
    show OEnds p e below s _ _ _ (s₁.setTop (mkF m 13 #[.val (.long q0), .second, .val (.long q1), .second, .val (.long (q0 % q1)), .second] []))
    refine own_by (fun _ k => XS.lload X0.here hx rfl (hb hby d8_13) rfl k) ?_
    show OEnds p e below s _ _ _ (s₁.setTop (mkF m 15 #[.val (.long q0), .second, .val (.long q1), .second, .val (.long (q0 % q1)), .second] [(.long (q0 % q1))]))
    refine own_by (fun _ k => XS.lconst X0.here hx rfl (hb hby d8_15) k) ?_
    show OEnds p e below s _ _ _ (s₁.setTop (mkF m 16 #[.val (.long q0), .second, .val (.long q1), .second, .val (.long (q0 % q1)), .second] [(.long (0 : Int64)), (.long (q0 % q1))]))
    refine own_by (fun _ k => XS.lcmp X0.here hx rfl (hb hby d8_16) rfl k) ?_
    show OEnds p e below s _ _ _ (s₁.setTop (mkF m 17 #[.val (.long q0), .second, .val (.long q1), .second, .val (.long (q0 % q1)), .second] [(.int (lcmpW (q0 % q1) (0 : Int64)))]))
    by_cases hc17 : (q0 % q1) = (0 : Int64)
    · refine own_by (fun _ k => XS.ifYes X0.here hx rfl (pc0 := 17) (pc' := 25) rfl (hb hby d8_17) rfl ((if0 _ _).trans (teq ((lw_eq _ _).mpr hc17)).1) (by decide) (by decide) k) ?_
      show OEnds p e below s _ _ _ (s₁.setTop (mkF m 25 #[.val (.long q0), .second, .val (.long q1), .second, .val (.long (q0 % q1)), .second] []))
      exact own_eq (congrArg Value.long (by rw [fmodL, if_pos hc10, if_pos hc17] <;> rfl)) (bfmodL_25 s₁ X0 e0)
    · refine own_by (fun _ k => XS.ifNo X0.here hx rfl (hb hby d8_17) rfl ((if0 _ _).trans (feq (fun q => hc17 ((lw_eq _ _).mp q))).1) k) ?_
      show OEnds p e below s _ _ _ (s₁.setTop (mkF m 20 #[.val (.long q0), .second, .val (.long q1), .second, .val (.long (q0 % q1)), .second] []))
      refine own_by (fun _ k => XS.lload X0.here hx rfl (hb hby d8_20) rfl k) ?_
      show OEnds p e below s _ _ _ (s₁.setTop (mkF m 22 #[.val (.long q0), .second, .val (.long q1), .second, .val (.long (q0 % q1)), .second] [(.long (q0 % q1))]))
      refine own_by (fun _ k => XS.lloadN X0.here hx rfl (hb hby d8_22) rfl k) ?_
      show OEnds p e below s _ _ _ (s₁.setTop (mkF m 23 #[.val (.long q0), .second, .val (.long q1), .second, .val (.long (q0 % q1)), .second] [(.long q1), (.long (q0 % q1))]))
      refine own_by (fun _ k => XS.ladd X0.here hx rfl (hb hby d8_23) rfl k) ?_
      show OEnds p e below s _ _ _ (s₁.setTop (mkF m 24 #[.val (.long q0), .second, .val (.long q1), .second, .val (.long (q0 % q1)), .second] [(.long ((q0 % q1) + q1))]))
      exact own_retJ X0 hx hlk Bd.returns (hb hby d8_24) ⟨congrArg (fun z => some (Value.long z)) (Eq.symm (by rw [fmodL, if_pos hc10, if_neg hc17] <;> rfl)), rfl, e0⟩ (Nat.le_refl _) (Nat.le_refl _)
  · refine own_by (fun _ k => XS.ifYes X0.here hx rfl (pc0 := 10) (pc' := 25) rfl (hb hby d8_10) rfl ((if0 _ _).trans (flt (fun q => hc10 ((lw_lt _ _).mp q))).2.1) (by decide) (by decide) k) ?_
    show OEnds p e below s _ _ _ (s₁.setTop (mkF m 25 #[.val (.long q0), .second, .val (.long q1), .second, .val (.long (q0 % q1)), .second] []))
    exact own_eq (congrArg Value.long (by rw [fmodL, if_neg hc10] <;> rfl)) (bfmodL_25 s₁ X0 e0)
theorem d7_0 : decode jdk_29_method_51_code 0 = .ok (.lload_n 0, 1) := by decide +kernel
theorem d7_1 : decode jdk_29_method_51_code 1 = .ok (.iload_n 2, 1) := by decide +kernel
theorem d7_2 : decode jdk_29_method_51_code 2 = .ok (.i2l, 1) := by decide +kernel
theorem d7_3 : decode jdk_29_method_51_code 3 = .ok (.invokestatic 146, 3) := by decide +kernel
theorem d7_6 : decode jdk_29_method_51_code 6 = .ok (.l2i, 1) := by decide +kernel
theorem d7_7 : decode jdk_29_method_51_code 7 = .ok (.ireturn, 1) := by decide +kernel
theorem ef_7 (m : MethodId) (q0 : Int64) (q1 : Int32) : entryFrame m #[(.long q0), (.int q1)] 3 = mkF m 0 #[.val (.long q0), .second, .val (.int q1)] [] := by first | (simp [entryFrame, mkF, argsToLocals, Value.category]; done) | rfl
def fmodI (q0 : Int64) (q1 : Int32) : Int32 := ((fmodL q0 (q1.toInt64)).toInt32)
set_option maxRecDepth 65536 in
set_option maxHeartbeats 40000000 in
theorem rm_fmodI (l : Launch) (Z : State) (a0 : Array Value) (hw : ∀ d ∈ tables_1, d.before a0 Z = true) (ws : List Jvm.Cond) (q0 : Int64) (q1 : Int32) (h0 : Heap) (hnz : (q1.toInt64) ≠ 0) :
    MetFree l (⟨"java/lang/Math", "floorMod", "(JI)I"⟩ : MethodName) (head1 (Jvm.Cond.code (⟨"java/lang/Math", "floorMod", "(JI)I"⟩ : MethodName) jdk_29_method_51_code 3 (some .int) :: ws) ({ frames := 1, cells := 0, slots := 0, locals := 17 } : Room)) (fun a U => a = #[(.long q0), (.int q1)] ∧ Z.Warmed39 U.vm ∧ U.heap = h0) (fun _ _ _ _ _ => True) (fun _ U o U' => ∃ v L, o = .returned v ∧ QP (Value.int (fmodI q0 q1)) h0 v U'.heap L ∧ FrameEnd U o U' L 0 0) := by
  refine MetFree.of_bodySF (Jvm.Free.JP.mathPlain rfl (by decide +kernel)) hisR ?_
  intro p e s m args below meth c s₁ Bd hml0 hP hK
  obtain ⟨rfl, hZ, hh⟩ := hP
  have hx := Bd.exec
  have hby := Bd.bytes
  have hlk : meth.locks = false := Bd.notSynchronized
  have hml : c.maxLocals = 3 := hml0
  have hown : s.vm.findClass "java/lang/Math" = some m.cls := findClass_of_methodNamed Bd.named
  have X0 : Stand p l e ({ frames := 1, cells := 0, slots := 0, locals := 17 } : Room) s m #[(.long q0), (.int q1)] below meth c s₁ [] 0 0 := Stand.of_body Bd
  have e0 : s₁.heap = h0 := by rw [← hh, Bd.state]; rfl
  show OEnds p e below s _ _ _ _
  refine own_by (fun t k => castTop (ef_7 m q0 q1) k) ?_
  show OEnds p e below s _ _ _ (s₁.setTop (mkF m 0 #[.val (.long q0), .second, .val (.int q1)] []))
  refine own_by (fun _ k => XS.lloadN X0.here hx rfl (hb hby d7_0) rfl k) ?_
  show OEnds p e below s _ _ _ (s₁.setTop (mkF m 1 #[.val (.long q0), .second, .val (.int q1)] [(.long q0)]))
  refine own_by (fun _ k => XS.iloadN X0.here hx rfl (hb hby d7_1) rfl k) ?_
  show OEnds p e below s _ _ _ (s₁.setTop (mkF m 2 #[.val (.long q0), .second, .val (.int q1)] [(.int q1), (.long q0)]))
  refine own_by (fun _ k => XS.i2l X0.here hx rfl (hb hby d7_2) rfl k) ?_
  show OEnds p e below s _ _ _ (s₁.setTop (mkF m 3 #[.val (.long q0), .second, .val (.int q1)] [(.long (q1.toInt64)), (.long q0)]))
  obtain ⟨T2, X2, e2, st2⟩ := own_callP X0 hx hZ (y := (⟨"java/lang/Math", "floorMod", "(JJ)J"⟩ : MethodName)) hown (hw _ (List.mem_of_getElem? (i := 32) rfl)) (hw _ (List.mem_of_getElem? (i := 33) rfl)) (hw _ (List.mem_of_getElem? (i := 11) rfl)) (hw _ (List.mem_of_getElem? (i := 34) rfl)) (by decide) (rm_fmodL l Z a0 hw [] q0 (q1.toInt64) h0 hnz) e0 (g := (mkF m 3 #[.val (.long q0), .second, .val (.int q1)] [(.long (q1.toInt64)), (.long q0)])) rfl (by rw [hml]; rfl) (argsL := [(.long q0), (.long (q1.toInt64))]) (rest := []) (lenOf pd_pJJrJ rfl) rfl (W := 0) (by show 2 * 0 + _ ≤ _; exact Nat.le_of_eq rfl) (hb hby d7_3) (by decide) (by decide) (by decide) (by decide)
  refine own_by st2 ?_
  show OEnds p e below s _ _ _ (T2.setTop (mkF m 6 #[.val (.long q0), .second, .val (.int q1)] [(.long (fmodL q0 (q1.toInt64)))]))
  refine own_by (fun _ k => XS.l2i X2.here hx rfl (hb hby d7_6) rfl k) ?_
  show OEnds p e below s _ _ _ (T2.setTop (mkF m 7 #[.val (.long q0), .second, .val (.int q1)] [(.int ((fmodL q0 (q1.toInt64)).toInt32))]))
  exact own_retI X2 hx hlk Bd.returns (hb hby d7_7) ⟨congrArg (fun z => some (Value.int z)) (Eq.symm (by rw [fmodI] <;> rfl)), rfl, e2⟩ (Nat.le_refl _) (Nat.le_refl _)
theorem d2_0 : decode prog_18_method_2_code 0 = .ok (.iload_n 2, 1) := by decide +kernel
theorem d2_1 : decode prog_18_method_2_code 1 = .ok (.bipush 9, 2) := by decide +kernel
theorem d2_3 : decode prog_18_method_2_code 3 = .ok (.iadd, 1) := by decide +kernel
theorem d2_4 : decode prog_18_method_2_code 4 = .ok (.bipush 12, 2) := by decide +kernel
theorem d2_6 : decode prog_18_method_2_code 6 = .ok (.irem, 1) := by decide +kernel
theorem d2_7 : decode prog_18_method_2_code 7 = .ok (.istore 4, 2) := by decide +kernel
theorem d2_9 : decode prog_18_method_2_code 9 = .ok (.lload_n 0, 1) := by decide +kernel
theorem d2_10 : decode prog_18_method_2_code 10 = .ok (.iload 4, 2) := by decide +kernel
theorem d2_12 : decode prog_18_method_2_code 12 = .ok (.bipush 10, 2) := by decide +kernel
theorem d2_14 : decode prog_18_method_2_code 14 = .ok (.idiv, 1) := by decide +kernel
theorem d2_15 : decode prog_18_method_2_code 15 = .ok (.i2l, 1) := by decide +kernel
theorem d2_16 : decode prog_18_method_2_code 16 = .ok (.lsub, 1) := by decide +kernel
theorem d2_17 : decode prog_18_method_2_code 17 = .ok (.lstore 5, 2) := by decide +kernel
theorem d2_19 : decode prog_18_method_2_code 19 = .ok (.lload 5, 2) := by decide +kernel
theorem d2_21 : decode prog_18_method_2_code 21 = .ok (.sipush 400, 3) := by decide +kernel
theorem d2_24 : decode prog_18_method_2_code 24 = .ok (.invokestatic 9, 3) := by decide +kernel
theorem d2_27 : decode prog_18_method_2_code 27 = .ok (.lstore 7, 2) := by decide +kernel
theorem d2_29 : decode prog_18_method_2_code 29 = .ok (.lload 5, 2) := by decide +kernel
theorem d2_31 : decode prog_18_method_2_code 31 = .ok (.lload 7, 2) := by decide +kernel
theorem d2_33 : decode prog_18_method_2_code 33 = .ok (.ldc2_w 15, 3) := by decide +kernel
theorem d2_36 : decode prog_18_method_2_code 36 = .ok (.lmul, 1) := by decide +kernel
theorem d2_37 : decode prog_18_method_2_code 37 = .ok (.lsub, 1) := by decide +kernel
theorem d2_38 : decode prog_18_method_2_code 38 = .ok (.lstore 9, 2) := by decide +kernel
theorem d2_40 : decode prog_18_method_2_code 40 = .ok (.sipush 153, 3) := by decide +kernel
theorem d2_43 : decode prog_18_method_2_code 43 = .ok (.iload 4, 2) := by decide +kernel
theorem d2_45 : decode prog_18_method_2_code 45 = .ok (.imul, 1) := by decide +kernel
theorem d2_46 : decode prog_18_method_2_code 46 = .ok (.iconst 2, 1) := by decide +kernel
theorem d2_47 : decode prog_18_method_2_code 47 = .ok (.iadd, 1) := by decide +kernel
theorem d2_48 : decode prog_18_method_2_code 48 = .ok (.iconst 5, 1) := by decide +kernel
theorem d2_49 : decode prog_18_method_2_code 49 = .ok (.idiv, 1) := by decide +kernel
theorem d2_50 : decode prog_18_method_2_code 50 = .ok (.iload_n 3, 1) := by decide +kernel
theorem d2_51 : decode prog_18_method_2_code 51 = .ok (.iadd, 1) := by decide +kernel
theorem d2_52 : decode prog_18_method_2_code 52 = .ok (.iconst 1, 1) := by decide +kernel
theorem d2_53 : decode prog_18_method_2_code 53 = .ok (.isub, 1) := by decide +kernel
theorem d2_54 : decode prog_18_method_2_code 54 = .ok (.istore 11, 2) := by decide +kernel
theorem d2_56 : decode prog_18_method_2_code 56 = .ok (.lload 9, 2) := by decide +kernel
theorem d2_58 : decode prog_18_method_2_code 58 = .ok (.ldc2_w 17, 3) := by decide +kernel
theorem d2_61 : decode prog_18_method_2_code 61 = .ok (.lmul, 1) := by decide +kernel
theorem d2_62 : decode prog_18_method_2_code 62 = .ok (.lload 9, 2) := by decide +kernel
theorem d2_64 : decode prog_18_method_2_code 64 = .ok (.ldc2_w 19, 3) := by decide +kernel
theorem d2_67 : decode prog_18_method_2_code 67 = .ok (.ldiv, 1) := by decide +kernel
theorem d2_68 : decode prog_18_method_2_code 68 = .ok (.ladd, 1) := by decide +kernel
theorem d2_69 : decode prog_18_method_2_code 69 = .ok (.lload 9, 2) := by decide +kernel
theorem d2_71 : decode prog_18_method_2_code 71 = .ok (.ldc2_w 21, 3) := by decide +kernel
theorem d2_74 : decode prog_18_method_2_code 74 = .ok (.ldiv, 1) := by decide +kernel
theorem d2_75 : decode prog_18_method_2_code 75 = .ok (.lsub, 1) := by decide +kernel
theorem d2_76 : decode prog_18_method_2_code 76 = .ok (.iload 11, 2) := by decide +kernel
theorem d2_78 : decode prog_18_method_2_code 78 = .ok (.i2l, 1) := by decide +kernel
theorem d2_79 : decode prog_18_method_2_code 79 = .ok (.ladd, 1) := by decide +kernel
theorem d2_80 : decode prog_18_method_2_code 80 = .ok (.lstore 12, 2) := by decide +kernel
theorem d2_82 : decode prog_18_method_2_code 82 = .ok (.lload 7, 2) := by decide +kernel
theorem d2_84 : decode prog_18_method_2_code 84 = .ok (.ldc2_w 23, 3) := by decide +kernel
theorem d2_87 : decode prog_18_method_2_code 87 = .ok (.lmul, 1) := by decide +kernel
theorem d2_88 : decode prog_18_method_2_code 88 = .ok (.lload 12, 2) := by decide +kernel
theorem d2_90 : decode prog_18_method_2_code 90 = .ok (.ladd, 1) := by decide +kernel
theorem d2_91 : decode prog_18_method_2_code 91 = .ok (.ldc2_w 25, 3) := by decide +kernel
theorem d2_94 : decode prog_18_method_2_code 94 = .ok (.lsub, 1) := by decide +kernel
theorem d2_95 : decode prog_18_method_2_code 95 = .ok (.lreturn, 1) := by decide +kernel
theorem pn_2 : plainName "com/example/exact_membership/exactmembership/model/EpochDays" = true := by first | (simp [plainName, overriddenIn]; done) | decide +kernel
theorem ef_2 (m : MethodId) (q0 : Int64) (q1 : Int32) (q2 : Int32) : entryFrame m #[(.long q0), (.int q1), (.int q2)] 14 = mkF m 0 #[.val (.long q0), .second, .val (.int q1), .val (.int q2), .unset, .unset, .unset, .unset, .unset, .unset, .unset, .unset, .unset, .unset] [] := by first | (simp [entryFrame, mkF, argsToLocals, Value.category]; done) | rfl
def epof_82 (v29_7 : Int64) (v82_12 : Int64) : Int64 := (((v29_7 * (146097 : Int64)) + v82_12) - (719468 : Int64))
def epof_56 (v29_7 : Int64) (v40_9 : Int64) (v56_11 : Int32) : Int64 := (epof_82 v29_7 ((((v40_9 * (365 : Int64)) + (v40_9 / (4 : Int64))) - (v40_9 / (100 : Int64))) + (v56_11.toInt64)))
def epof_40 (q2 : Int32) (v9_4 : Int32) (v29_7 : Int64) (v40_9 : Int64) : Int64 := (epof_56 v29_7 v40_9 ((((((153 : Int32) * v9_4) + (2 : Int32)) / (5 : Int32)) + q2) - (1 : Int32)))
def epof_29 (q2 : Int32) (v9_4 : Int32) (v19_5 : Int64) (v29_7 : Int64) : Int64 := (epof_40 q2 v9_4 v29_7 (v19_5 - (v29_7 * (400 : Int64))))
def epof_19 (q2 : Int32) (v9_4 : Int32) (v19_5 : Int64) : Int64 := (epof_29 q2 v9_4 v19_5 (fdivI v19_5 (400 : Int32)))
def epof_9 (q0 : Int64) (q2 : Int32) (v9_4 : Int32) : Int64 := (epof_19 q2 v9_4 (q0 - ((v9_4 / (10 : Int32)).toInt64)))
def epof (q0 : Int64) (q1 : Int32) (q2 : Int32) : Int64 := (epof_9 q0 q2 ((q1 + (9 : Int32)) % (12 : Int32)))
set_option maxRecDepth 65536 in
set_option maxHeartbeats 40000000 in
theorem rm_epof (l : Launch) (Z : State) (a0 : Array Value) (hw : ∀ d ∈ tables_1, d.before a0 Z = true) (ws : List Jvm.Cond) (q0 : Int64) (q1 : Int32) (q2 : Int32) (h0 : Heap) :
    MetFree l (⟨"com/example/exact_membership/exactmembership/model/EpochDays", "of", "(JII)J"⟩ : MethodName) (head1 (Jvm.Cond.code (⟨"com/example/exact_membership/exactmembership/model/EpochDays", "of", "(JII)J"⟩ : MethodName) prog_18_method_2_code 14 (some .long) :: ws) ({ frames := 2, cells := 0, slots := 0, locals := 31 } : Room)) (fun a U => a = #[(.long q0), (.int q1), (.int q2)] ∧ Z.Warmed39 U.vm ∧ U.heap = h0) (fun _ _ _ _ _ => True) (fun _ U o U' => ∃ v L, o = .returned v ∧ QP (Value.long (epof q0 q1 q2)) h0 v U'.heap L ∧ FrameEnd U o U' L 0 0) := by
  refine MetFree.of_bodySF (plainFor_of_name pn_2) hisR ?_
  intro p e s m args below meth c s₁ Bd hml0 hP hK
  obtain ⟨rfl, hZ, hh⟩ := hP
  have hx := Bd.exec
  have hby := Bd.bytes
  have hlk : meth.locks = false := Bd.notSynchronized
  have hml : c.maxLocals = 14 := hml0
  have hown : s.vm.findClass "com/example/exact_membership/exactmembership/model/EpochDays" = some m.cls := findClass_of_methodNamed Bd.named
  have X0 : Stand p l e ({ frames := 2, cells := 0, slots := 0, locals := 31 } : Room) s m #[(.long q0), (.int q1), (.int q2)] below meth c s₁ [] 0 0 := Stand.of_body Bd
  have e0 : s₁.heap = h0 := by rw [← hh, Bd.state]; rfl
  have bepof_82 : ∀ (T : State) (X : Stand p l e ({ frames := 2, cells := 0, slots := 0, locals := 31 } : Room) s m #[(.long q0), (.int q1), (.int q2)] below meth c T [] 0 0) (eT : T.heap = h0) (v9_4 : Int32) (v19_5 : Int64) (v29_7 : Int64) (v40_9 : Int64) (v56_11 : Int32) (v82_12 : Int64), OEnds p e below s (QP (Value.long (epof_82 v29_7 v82_12)) h0) 0 0 (T.setTop (mkF m 82 #[.val (.long q0), .second, .val (.int q1), .val (.int q2), .val (.int v9_4), .val (.long v19_5), .second, .val (.long v29_7), .second, .val (.long v40_9), .second, .val (.int v56_11), .val (.long v82_12), .second] [])) := by
    intro T X eT v9_4 v19_5 v29_7 v40_9 v56_11 v82_12
    refine own_by (fun _ k => XS.lload X.here hx rfl (hb hby d2_82) rfl k) ?_
    show OEnds p e below s _ _ _ (T.setTop (mkF m 84 #[.val (.long q0), .second, .val (.int q1), .val (.int q2), .val (.int v9_4), .val (.long v19_5), .second, .val (.long v29_7), .second, .val (.long v40_9), .second, .val (.int v56_11), .val (.long v82_12), .second] [(.long v29_7)]))
    refine own_by (X.ldc2Long hx hown (mvT hZ (hw _ (List.mem_of_getElem? (i := 20) rfl))) (g := (mkF m 84 #[.val (.long q0), .second, .val (.int q1), .val (.int q2), .val (.int v9_4), .val (.long v19_5), .second, .val (.long v29_7), .second, .val (.long v40_9), .second, .val (.int v56_11), .val (.long v82_12), .second] [(.long v29_7)])) rfl (hb hby d2_84)) ?_
    show OEnds p e below s _ _ _ (T.setTop (mkF m 87 #[.val (.long q0), .second, .val (.int q1), .val (.int q2), .val (.int v9_4), .val (.long v19_5), .second, .val (.long v29_7), .second, .val (.long v40_9), .second, .val (.int v56_11), .val (.long v82_12), .second] [(.long (146097 : Int64)), (.long v29_7)]))
    refine own_by (fun _ k => XS.lmul X.here hx rfl (hb hby d2_87) rfl k) ?_
    show OEnds p e below s _ _ _ (T.setTop (mkF m 88 #[.val (.long q0), .second, .val (.int q1), .val (.int q2), .val (.int v9_4), .val (.long v19_5), .second, .val (.long v29_7), .second, .val (.long v40_9), .second, .val (.int v56_11), .val (.long v82_12), .second] [(.long (v29_7 * (146097 : Int64)))]))
    refine own_by (fun _ k => XS.lload X.here hx rfl (hb hby d2_88) rfl k) ?_
    show OEnds p e below s _ _ _ (T.setTop (mkF m 90 #[.val (.long q0), .second, .val (.int q1), .val (.int q2), .val (.int v9_4), .val (.long v19_5), .second, .val (.long v29_7), .second, .val (.long v40_9), .second, .val (.int v56_11), .val (.long v82_12), .second] [(.long v82_12), (.long (v29_7 * (146097 : Int64)))]))
    refine own_by (fun _ k => XS.ladd X.here hx rfl (hb hby d2_90) rfl k) ?_
    show OEnds p e below s _ _ _ (T.setTop (mkF m 91 #[.val (.long q0), .second, .val (.int q1), .val (.int q2), .val (.int v9_4), .val (.long v19_5), .second, .val (.long v29_7), .second, .val (.long v40_9), .second, .val (.int v56_11), .val (.long v82_12), .second] [(.long ((v29_7 * (146097 : Int64)) + v82_12))]))
    refine own_by (X.ldc2Long hx hown (mvT hZ (hw _ (List.mem_of_getElem? (i := 21) rfl))) (g := (mkF m 91 #[.val (.long q0), .second, .val (.int q1), .val (.int q2), .val (.int v9_4), .val (.long v19_5), .second, .val (.long v29_7), .second, .val (.long v40_9), .second, .val (.int v56_11), .val (.long v82_12), .second] [(.long ((v29_7 * (146097 : Int64)) + v82_12))])) rfl (hb hby d2_91)) ?_
    show OEnds p e below s _ _ _ (T.setTop (mkF m 94 #[.val (.long q0), .second, .val (.int q1), .val (.int q2), .val (.int v9_4), .val (.long v19_5), .second, .val (.long v29_7), .second, .val (.long v40_9), .second, .val (.int v56_11), .val (.long v82_12), .second] [(.long (719468 : Int64)), (.long ((v29_7 * (146097 : Int64)) + v82_12))]))
    refine own_by (fun _ k => XS.lsub X.here hx rfl (hb hby d2_94) rfl k) ?_
    show OEnds p e below s _ _ _ (T.setTop (mkF m 95 #[.val (.long q0), .second, .val (.int q1), .val (.int q2), .val (.int v9_4), .val (.long v19_5), .second, .val (.long v29_7), .second, .val (.long v40_9), .second, .val (.int v56_11), .val (.long v82_12), .second] [(.long (((v29_7 * (146097 : Int64)) + v82_12) - (719468 : Int64)))]))
    exact own_retJ X hx hlk Bd.returns (hb hby d2_95) ⟨congrArg (fun z => some (Value.long z)) (Eq.symm (by rw [epof_82] <;> rfl)), rfl, eT⟩ (Nat.le_refl _) (Nat.le_refl _)
  have bepof_56 : ∀ (T : State) (X : Stand p l e ({ frames := 2, cells := 0, slots := 0, locals := 31 } : Room) s m #[(.long q0), (.int q1), (.int q2)] below meth c T [] 0 0) (eT : T.heap = h0) (v9_4 : Int32) (v19_5 : Int64) (v29_7 : Int64) (v40_9 : Int64) (v56_11 : Int32), OEnds p e below s (QP (Value.long (epof_56 v29_7 v40_9 v56_11)) h0) 0 0 (T.setTop (mkF m 56 #[.val (.long q0), .second, .val (.int q1), .val (.int q2), .val (.int v9_4), .val (.long v19_5), .second, .val (.long v29_7), .second, .val (.long v40_9), .second, .val (.int v56_11), .unset, .unset] [])) := by
    intro T X eT v9_4 v19_5 v29_7 v40_9 v56_11
    refine own_by (fun _ k => XS.lload X.here hx rfl (hb hby d2_56) rfl k) ?_
    show OEnds p e below s _ _ _ (T.setTop (mkF m 58 #[.val (.long q0), .second, .val (.int q1), .val (.int q2), .val (.int v9_4), .val (.long v19_5), .second, .val (.long v29_7), .second, .val (.long v40_9), .second, .val (.int v56_11), .unset, .unset] [(.long v40_9)]))
    refine own_by (X.ldc2Long hx hown (mvT hZ (hw _ (List.mem_of_getElem? (i := 17) rfl))) (g := (mkF m 58 #[.val (.long q0), .second, .val (.int q1), .val (.int q2), .val (.int v9_4), .val (.long v19_5), .second, .val (.long v29_7), .second, .val (.long v40_9), .second, .val (.int v56_11), .unset, .unset] [(.long v40_9)])) rfl (hb hby d2_58)) ?_
    show OEnds p e below s _ _ _ (T.setTop (mkF m 61 #[.val (.long q0), .second, .val (.int q1), .val (.int q2), .val (.int v9_4), .val (.long v19_5), .second, .val (.long v29_7), .second, .val (.long v40_9), .second, .val (.int v56_11), .unset, .unset] [(.long (365 : Int64)), (.long v40_9)]))
    refine own_by (fun _ k => XS.lmul X.here hx rfl (hb hby d2_61) rfl k) ?_
    show OEnds p e below s _ _ _ (T.setTop (mkF m 62 #[.val (.long q0), .second, .val (.int q1), .val (.int q2), .val (.int v9_4), .val (.long v19_5), .second, .val (.long v29_7), .second, .val (.long v40_9), .second, .val (.int v56_11), .unset, .unset] [(.long (v40_9 * (365 : Int64)))]))
    refine own_by (fun _ k => XS.lload X.here hx rfl (hb hby d2_62) rfl k) ?_
    show OEnds p e below s _ _ _ (T.setTop (mkF m 64 #[.val (.long q0), .second, .val (.int q1), .val (.int q2), .val (.int v9_4), .val (.long v19_5), .second, .val (.long v29_7), .second, .val (.long v40_9), .second, .val (.int v56_11), .unset, .unset] [(.long v40_9), (.long (v40_9 * (365 : Int64)))]))
    refine own_by (X.ldc2Long hx hown (mvT hZ (hw _ (List.mem_of_getElem? (i := 18) rfl))) (g := (mkF m 64 #[.val (.long q0), .second, .val (.int q1), .val (.int q2), .val (.int v9_4), .val (.long v19_5), .second, .val (.long v29_7), .second, .val (.long v40_9), .second, .val (.int v56_11), .unset, .unset] [(.long v40_9), (.long (v40_9 * (365 : Int64)))])) rfl (hb hby d2_64)) ?_
    show OEnds p e below s _ _ _ (T.setTop (mkF m 67 #[.val (.long q0), .second, .val (.int q1), .val (.int q2), .val (.int v9_4), .val (.long v19_5), .second, .val (.long v29_7), .second, .val (.long v40_9), .second, .val (.int v56_11), .unset, .unset] [(.long (4 : Int64)), (.long v40_9), (.long (v40_9 * (365 : Int64)))]))
    refine own_by (fun _ k => XS.ldiv X.here hx rfl (hb hby d2_67) rfl (by decide) k) ?_
    show OEnds p e below s _ _ _ (T.setTop (mkF m 68 #[.val (.long q0), .second, .val (.int q1), .val (.int q2), .val (.int v9_4), .val (.long v19_5), .second, .val (.long v29_7), .second, .val (.long v40_9), .second, .val (.int v56_11), .unset, .unset] [(.long (v40_9 / (4 : Int64))), (.long (v40_9 * (365 : Int64)))]))
    refine own_by (fun _ k => XS.ladd X.here hx rfl (hb hby d2_68) rfl k) ?_
    show OEnds p e below s _ _ _ (T.setTop (mkF m 69 #[.val (.long q0), .second, .val (.int q1), .val (.int q2), .val (.int v9_4), .val (.long v19_5), .second, .val (.long v29_7), .second, .val (.long v40_9), .second, .val (.int v56_11), .unset, .unset] [(.long ((v40_9 * (365 : Int64)) + (v40_9 / (4 : Int64))))]))
    refine own_by (fun _ k => XS.lload X.here hx rfl (hb hby d2_69) rfl k) ?_
    show OEnds p e below s _ _ _ (T.setTop (mkF m 71 #[.val (.long q0), .second, .val (.int q1), .val (.int q2), .val (.int v9_4), .val (.long v19_5), .second, .val (.long v29_7), .second, .val (.long v40_9), .second, .val (.int v56_11), .unset, .unset] [(.long v40_9), (.long ((v40_9 * (365 : Int64)) + (v40_9 / (4 : Int64))))]))
    refine own_by (X.ldc2Long hx hown (mvT hZ (hw _ (List.mem_of_getElem? (i := 19) rfl))) (g := (mkF m 71 #[.val (.long q0), .second, .val (.int q1), .val (.int q2), .val (.int v9_4), .val (.long v19_5), .second, .val (.long v29_7), .second, .val (.long v40_9), .second, .val (.int v56_11), .unset, .unset] [(.long v40_9), (.long ((v40_9 * (365 : Int64)) + (v40_9 / (4 : Int64))))])) rfl (hb hby d2_71)) ?_
    show OEnds p e below s _ _ _ (T.setTop (mkF m 74 #[.val (.long q0), .second, .val (.int q1), .val (.int q2), .val (.int v9_4), .val (.long v19_5), .second, .val (.long v29_7), .second, .val (.long v40_9), .second, .val (.int v56_11), .unset, .unset] [(.long (100 : Int64)), (.long v40_9), (.long ((v40_9 * (365 : Int64)) + (v40_9 / (4 : Int64))))]))
    refine own_by (fun _ k => XS.ldiv X.here hx rfl (hb hby d2_74) rfl (by decide) k) ?_
    show OEnds p e below s _ _ _ (T.setTop (mkF m 75 #[.val (.long q0), .second, .val (.int q1), .val (.int q2), .val (.int v9_4), .val (.long v19_5), .second, .val (.long v29_7), .second, .val (.long v40_9), .second, .val (.int v56_11), .unset, .unset] [(.long (v40_9 / (100 : Int64))), (.long ((v40_9 * (365 : Int64)) + (v40_9 / (4 : Int64))))]))
    refine own_by (fun _ k => XS.lsub X.here hx rfl (hb hby d2_75) rfl k) ?_
    show OEnds p e below s _ _ _ (T.setTop (mkF m 76 #[.val (.long q0), .second, .val (.int q1), .val (.int q2), .val (.int v9_4), .val (.long v19_5), .second, .val (.long v29_7), .second, .val (.long v40_9), .second, .val (.int v56_11), .unset, .unset] [(.long (((v40_9 * (365 : Int64)) + (v40_9 / (4 : Int64))) - (v40_9 / (100 : Int64))))]))
    refine own_by (fun _ k => XS.iload X.here hx rfl (hb hby d2_76) rfl k) ?_
    show OEnds p e below s _ _ _ (T.setTop (mkF m 78 #[.val (.long q0), .second, .val (.int q1), .val (.int q2), .val (.int v9_4), .val (.long v19_5), .second, .val (.long v29_7), .second, .val (.long v40_9), .second, .val (.int v56_11), .unset, .unset] [(.int v56_11), (.long (((v40_9 * (365 : Int64)) + (v40_9 / (4 : Int64))) - (v40_9 / (100 : Int64))))]))
    refine own_by (fun _ k => XS.i2l X.here hx rfl (hb hby d2_78) rfl k) ?_
    show OEnds p e below s _ _ _ (T.setTop (mkF m 79 #[.val (.long q0), .second, .val (.int q1), .val (.int q2), .val (.int v9_4), .val (.long v19_5), .second, .val (.long v29_7), .second, .val (.long v40_9), .second, .val (.int v56_11), .unset, .unset] [(.long (v56_11.toInt64)), (.long (((v40_9 * (365 : Int64)) + (v40_9 / (4 : Int64))) - (v40_9 / (100 : Int64))))]))
    refine own_by (fun _ k => XS.ladd X.here hx rfl (hb hby d2_79) rfl k) ?_
    show OEnds p e below s _ _ _ (T.setTop (mkF m 80 #[.val (.long q0), .second, .val (.int q1), .val (.int q2), .val (.int v9_4), .val (.long v19_5), .second, .val (.long v29_7), .second, .val (.long v40_9), .second, .val (.int v56_11), .unset, .unset] [(.long ((((v40_9 * (365 : Int64)) + (v40_9 / (4 : Int64))) - (v40_9 / (100 : Int64))) + (v56_11.toInt64)))]))
    refine own_by (fun _ k => XS.lstore X.here hx rfl (hb hby d2_80) rfl (l' := #[.val (.long q0), .second, .val (.int q1), .val (.int q2), .val (.int v9_4), .val (.long v19_5), .second, .val (.long v29_7), .second, .val (.long v40_9), .second, .val (.int v56_11), .val (.long ((((v40_9 * (365 : Int64)) + (v40_9 / (4 : Int64))) - (v40_9 / (100 : Int64))) + (v56_11.toInt64))), .second]) rfl k) ?_
    show OEnds p e below s _ _ _ (T.setTop (mkF m 82 #[.val (.long q0), .second, .val (.int q1), .val (.int q2), .val (.int v9_4), .val (.long v19_5), .second, .val (.long v29_7), .second, .val (.long v40_9), .second, .val (.int v56_11), .val (.long ((((v40_9 * (365 : Int64)) + (v40_9 / (4 : Int64))) - (v40_9 / (100 : Int64))) + (v56_11.toInt64))), .second] []))
    exact own_eq (congrArg Value.long (by rw [epof_56] <;> rfl)) (bepof_82 T X eT v9_4 v19_5 v29_7 v40_9 v56_11 ((((v40_9 * (365 : Int64)) + (v40_9 / (4 : Int64))) - (v40_9 / (100 : Int64))) + (v56_11.toInt64)))
  have bepof_40 : ∀ (T : State) (X : Stand p l e ({ frames := 2, cells := 0, slots := 0, locals := 31 } : Room) s m #[(.long q0), (.int q1), (.int q2)] below meth c T [] 0 0) (eT : T.heap = h0) (v9_4 : Int32) (v19_5 : Int64) (v29_7 : Int64) (v40_9 : Int64), OEnds p e below s (QP (Value.long (epof_40 q2 v9_4 v29_7 v40_9)) h0) 0 0 (T.setTop (mkF m 40 #[.val (.long q0), .second, .val (.int q1), .val (.int q2), .val (.int v9_4), .val (.long v19_5), .second, .val (.long v29_7), .second, .val (.long v40_9), .second, .unset, .unset, .unset] [])) := by
    intro T X eT v9_4 v19_5 v29_7 v40_9
    refine own_by (fun _ k => XS.sipush X.here hx rfl (hb hby d2_40) k) ?_
    show OEnds p e below s _ _ _ (T.setTop (mkF m 43 #[.val (.long q0), .second, .val (.int q1), .val (.int q2), .val (.int v9_4), .val (.long v19_5), .second, .val (.long v29_7), .second, .val (.long v40_9), .second, .unset, .unset, .unset] [(.int (153 : Int32))]))
    refine own_by (fun _ k => XS.iload X.here hx rfl (hb hby d2_43) rfl k) ?_
    show OEnds p e below s _ _ _ (T.setTop (mkF m 45 #[.val (.long q0), .second, .val (.int q1), .val (.int q2), .val (.int v9_4), .val (.long v19_5), .second, .val (.long v29_7), .second, .val (.long v40_9), .second, .unset, .unset, .unset] [(.int v9_4), (.int (153 : Int32))]))
    refine own_by (fun _ k => XS.imul X.here hx rfl (hb hby d2_45) rfl k) ?_
    show OEnds p e below s _ _ _ (T.setTop (mkF m 46 #[.val (.long q0), .second, .val (.int q1), .val (.int q2), .val (.int v9_4), .val (.long v19_5), .second, .val (.long v29_7), .second, .val (.long v40_9), .second, .unset, .unset, .unset] [(.int ((153 : Int32) * v9_4))]))
    refine own_by (fun _ k => XS.iconst X.here hx rfl (hb hby d2_46) k) ?_
    show OEnds p e below s _ _ _ (T.setTop (mkF m 47 #[.val (.long q0), .second, .val (.int q1), .val (.int q2), .val (.int v9_4), .val (.long v19_5), .second, .val (.long v29_7), .second, .val (.long v40_9), .second, .unset, .unset, .unset] [(.int (2 : Int32)), (.int ((153 : Int32) * v9_4))]))
    refine own_by (fun _ k => XS.iadd X.here hx rfl (hb hby d2_47) rfl k) ?_
    show OEnds p e below s _ _ _ (T.setTop (mkF m 48 #[.val (.long q0), .second, .val (.int q1), .val (.int q2), .val (.int v9_4), .val (.long v19_5), .second, .val (.long v29_7), .second, .val (.long v40_9), .second, .unset, .unset, .unset] [(.int (((153 : Int32) * v9_4) + (2 : Int32)))]))
    refine own_by (fun _ k => XS.iconst X.here hx rfl (hb hby d2_48) k) ?_
    show OEnds p e below s _ _ _ (T.setTop (mkF m 49 #[.val (.long q0), .second, .val (.int q1), .val (.int q2), .val (.int v9_4), .val (.long v19_5), .second, .val (.long v29_7), .second, .val (.long v40_9), .second, .unset, .unset, .unset] [(.int (5 : Int32)), (.int (((153 : Int32) * v9_4) + (2 : Int32)))]))
    refine own_by (fun _ k => XS.idiv X.here hx rfl (hb hby d2_49) rfl (by decide) k) ?_
    show OEnds p e below s _ _ _ (T.setTop (mkF m 50 #[.val (.long q0), .second, .val (.int q1), .val (.int q2), .val (.int v9_4), .val (.long v19_5), .second, .val (.long v29_7), .second, .val (.long v40_9), .second, .unset, .unset, .unset] [(.int ((((153 : Int32) * v9_4) + (2 : Int32)) / (5 : Int32)))]))
    refine own_by (fun _ k => XS.iloadN X.here hx rfl (hb hby d2_50) rfl k) ?_
    show OEnds p e below s _ _ _ (T.setTop (mkF m 51 #[.val (.long q0), .second, .val (.int q1), .val (.int q2), .val (.int v9_4), .val (.long v19_5), .second, .val (.long v29_7), .second, .val (.long v40_9), .second, .unset, .unset, .unset] [(.int q2), (.int ((((153 : Int32) * v9_4) + (2 : Int32)) / (5 : Int32)))]))
    refine own_by (fun _ k => XS.iadd X.here hx rfl (hb hby d2_51) rfl k) ?_
    show OEnds p e below s _ _ _ (T.setTop (mkF m 52 #[.val (.long q0), .second, .val (.int q1), .val (.int q2), .val (.int v9_4), .val (.long v19_5), .second, .val (.long v29_7), .second, .val (.long v40_9), .second, .unset, .unset, .unset] [(.int (((((153 : Int32) * v9_4) + (2 : Int32)) / (5 : Int32)) + q2))]))
    refine own_by (fun _ k => XS.iconst X.here hx rfl (hb hby d2_52) k) ?_
    show OEnds p e below s _ _ _ (T.setTop (mkF m 53 #[.val (.long q0), .second, .val (.int q1), .val (.int q2), .val (.int v9_4), .val (.long v19_5), .second, .val (.long v29_7), .second, .val (.long v40_9), .second, .unset, .unset, .unset] [(.int (1 : Int32)), (.int (((((153 : Int32) * v9_4) + (2 : Int32)) / (5 : Int32)) + q2))]))
    refine own_by (fun _ k => XS.isub X.here hx rfl (hb hby d2_53) rfl k) ?_
    show OEnds p e below s _ _ _ (T.setTop (mkF m 54 #[.val (.long q0), .second, .val (.int q1), .val (.int q2), .val (.int v9_4), .val (.long v19_5), .second, .val (.long v29_7), .second, .val (.long v40_9), .second, .unset, .unset, .unset] [(.int ((((((153 : Int32) * v9_4) + (2 : Int32)) / (5 : Int32)) + q2) - (1 : Int32)))]))
    refine own_by (fun _ k => XS.istore X.here hx rfl (hb hby d2_54) rfl (l' := #[.val (.long q0), .second, .val (.int q1), .val (.int q2), .val (.int v9_4), .val (.long v19_5), .second, .val (.long v29_7), .second, .val (.long v40_9), .second, .val (.int ((((((153 : Int32) * v9_4) + (2 : Int32)) / (5 : Int32)) + q2) - (1 : Int32))), .unset, .unset]) rfl k) ?_
    show OEnds p e below s _ _ _ (T.setTop (mkF m 56 #[.val (.long q0), .second, .val (.int q1), .val (.int q2), .val (.int v9_4), .val (.long v19_5), .second, .val (.long v29_7), .second, .val (.long v40_9), .second, .val (.int ((((((153 : Int32) * v9_4) + (2 : Int32)) / (5 : Int32)) + q2) - (1 : Int32))), .unset, .unset] []))
    exact own_eq (congrArg Value.long (by rw [epof_40] <;> rfl)) (bepof_56 T X eT v9_4 v19_5 v29_7 v40_9 ((((((153 : Int32) * v9_4) + (2 : Int32)) / (5 : Int32)) + q2) - (1 : Int32)))
  have bepof_29 : ∀ (T : State) (X : Stand p l e ({ frames := 2, cells := 0, slots := 0, locals := 31 } : Room) s m #[(.long q0), (.int q1), (.int q2)] below meth c T [] 0 0) (eT : T.heap = h0) (v9_4 : Int32) (v19_5 : Int64) (v29_7 : Int64), OEnds p e below s (QP (Value.long (epof_29 q2 v9_4 v19_5 v29_7)) h0) 0 0 (T.setTop (mkF m 29 #[.val (.long q0), .second, .val (.int q1), .val (.int q2), .val (.int v9_4), .val (.long v19_5), .second, .val (.long v29_7), .second, .unset, .unset, .unset, .unset, .unset] [])) := by
    intro T X eT v9_4 v19_5 v29_7
    refine own_by (fun _ k => XS.lload X.here hx rfl (hb hby d2_29) rfl k) ?_
    show OEnds p e below s _ _ _ (T.setTop (mkF m 31 #[.val (.long q0), .second, .val (.int q1), .val (.int q2), .val (.int v9_4), .val (.long v19_5), .second, .val (.long v29_7), .second, .unset, .unset, .unset, .unset, .unset] [(.long v19_5)]))
    refine own_by (fun _ k => XS.lload X.here hx rfl (hb hby d2_31) rfl k) ?_
    show OEnds p e below s _ _ _ (T.setTop (mkF m 33 #[.val (.long q0), .second, .val (.int q1), .val (.int q2), .val (.int v9_4), .val (.long v19_5), .second, .val (.long v29_7), .second, .unset, .unset, .unset, .unset, .unset] [(.long v29_7), (.long v19_5)]))
    refine own_by (X.ldc2Long hx hown (mvT hZ (hw _ (List.mem_of_getElem? (i := 16) rfl))) (g := (mkF m 33 #[.val (.long q0), .second, .val (.int q1), .val (.int q2), .val (.int v9_4), .val (.long v19_5), .second, .val (.long v29_7), .second, .unset, .unset, .unset, .unset, .unset] [(.long v29_7), (.long v19_5)])) rfl (hb hby d2_33)) ?_
    show OEnds p e below s _ _ _ (T.setTop (mkF m 36 #[.val (.long q0), .second, .val (.int q1), .val (.int q2), .val (.int v9_4), .val (.long v19_5), .second, .val (.long v29_7), .second, .unset, .unset, .unset, .unset, .unset] [(.long (400 : Int64)), (.long v29_7), (.long v19_5)]))
    refine own_by (fun _ k => XS.lmul X.here hx rfl (hb hby d2_36) rfl k) ?_
    show OEnds p e below s _ _ _ (T.setTop (mkF m 37 #[.val (.long q0), .second, .val (.int q1), .val (.int q2), .val (.int v9_4), .val (.long v19_5), .second, .val (.long v29_7), .second, .unset, .unset, .unset, .unset, .unset] [(.long (v29_7 * (400 : Int64))), (.long v19_5)]))
    refine own_by (fun _ k => XS.lsub X.here hx rfl (hb hby d2_37) rfl k) ?_
    show OEnds p e below s _ _ _ (T.setTop (mkF m 38 #[.val (.long q0), .second, .val (.int q1), .val (.int q2), .val (.int v9_4), .val (.long v19_5), .second, .val (.long v29_7), .second, .unset, .unset, .unset, .unset, .unset] [(.long (v19_5 - (v29_7 * (400 : Int64))))]))
    refine own_by (fun _ k => XS.lstore X.here hx rfl (hb hby d2_38) rfl (l' := #[.val (.long q0), .second, .val (.int q1), .val (.int q2), .val (.int v9_4), .val (.long v19_5), .second, .val (.long v29_7), .second, .val (.long (v19_5 - (v29_7 * (400 : Int64)))), .second, .unset, .unset, .unset]) rfl k) ?_
    show OEnds p e below s _ _ _ (T.setTop (mkF m 40 #[.val (.long q0), .second, .val (.int q1), .val (.int q2), .val (.int v9_4), .val (.long v19_5), .second, .val (.long v29_7), .second, .val (.long (v19_5 - (v29_7 * (400 : Int64)))), .second, .unset, .unset, .unset] []))
    exact own_eq (congrArg Value.long (by rw [epof_29] <;> rfl)) (bepof_40 T X eT v9_4 v19_5 v29_7 (v19_5 - (v29_7 * (400 : Int64))))
  have bepof_19 : ∀ (T : State) (X : Stand p l e ({ frames := 2, cells := 0, slots := 0, locals := 31 } : Room) s m #[(.long q0), (.int q1), (.int q2)] below meth c T [] 0 0) (eT : T.heap = h0) (v9_4 : Int32) (v19_5 : Int64), OEnds p e below s (QP (Value.long (epof_19 q2 v9_4 v19_5)) h0) 0 0 (T.setTop (mkF m 19 #[.val (.long q0), .second, .val (.int q1), .val (.int q2), .val (.int v9_4), .val (.long v19_5), .second, .unset, .unset, .unset, .unset, .unset, .unset, .unset] [])) := by
    intro T X eT v9_4 v19_5
    refine own_by (fun _ k => XS.lload X.here hx rfl (hb hby d2_19) rfl k) ?_
    show OEnds p e below s _ _ _ (T.setTop (mkF m 21 #[.val (.long q0), .second, .val (.int q1), .val (.int q2), .val (.int v9_4), .val (.long v19_5), .second, .unset, .unset, .unset, .unset, .unset, .unset, .unset] [(.long v19_5)]))
    refine own_by (fun _ k => XS.sipush X.here hx rfl (hb hby d2_21) k) ?_
    show OEnds p e below s _ _ _ (T.setTop (mkF m 24 #[.val (.long q0), .second, .val (.int q1), .val (.int q2), .val (.int v9_4), .val (.long v19_5), .second, .unset, .unset, .unset, .unset, .unset, .unset, .unset] [(.int (400 : Int32)), (.long v19_5)]))
    obtain ⟨T2, X2, e2, st2⟩ := own_callP X hx hZ (y := (⟨"java/lang/Math", "floorDiv", "(JI)J"⟩ : MethodName)) hown (hw _ (List.mem_of_getElem? (i := 9) rfl)) (hw _ (List.mem_of_getElem? (i := 10) rfl)) (hw _ (List.mem_of_getElem? (i := 11) rfl)) (hw _ (List.mem_of_getElem? (i := 12) rfl)) (by decide) (rm_fdivI l Z a0 hw [] v19_5 (400 : Int32) h0 (by decide)) eT (g := (mkF m 24 #[.val (.long q0), .second, .val (.int q1), .val (.int q2), .val (.int v9_4), .val (.long v19_5), .second, .unset, .unset, .unset, .unset, .unset, .unset, .unset] [(.int (400 : Int32)), (.long v19_5)])) rfl (by rw [hml]; rfl) (argsL := [(.long v19_5), (.int (400 : Int32))]) (rest := []) (lenOf pd_pJIrJ rfl) rfl (W := 0) (by show 2 * 0 + _ ≤ _; exact Nat.le_of_eq rfl) (hb hby d2_24) (by decide) (by decide) (by decide) (by decide)
    refine own_by st2 ?_
    show OEnds p e below s _ _ _ (T2.setTop (mkF m 27 #[.val (.long q0), .second, .val (.int q1), .val (.int q2), .val (.int v9_4), .val (.long v19_5), .second, .unset, .unset, .unset, .unset, .unset, .unset, .unset] [(.long (fdivI v19_5 (400 : Int32)))]))
    refine own_by (fun _ k => XS.lstore X2.here hx rfl (hb hby d2_27) rfl (l' := #[.val (.long q0), .second, .val (.int q1), .val (.int q2), .val (.int v9_4), .val (.long v19_5), .second, .val (.long (fdivI v19_5 (400 : Int32))), .second, .unset, .unset, .unset, .unset, .unset]) rfl k) ?_
    show OEnds p e below s _ _ _ (T2.setTop (mkF m 29 #[.val (.long q0), .second, .val (.int q1), .val (.int q2), .val (.int v9_4), .val (.long v19_5), .second, .val (.long (fdivI v19_5 (400 : Int32))), .second, .unset, .unset, .unset, .unset, .unset] []))
    exact own_eq (congrArg Value.long (by rw [epof_19] <;> rfl)) (bepof_29 T2 X2 e2 v9_4 v19_5 (fdivI v19_5 (400 : Int32)))
  have bepof_9 : ∀ (T : State) (X : Stand p l e ({ frames := 2, cells := 0, slots := 0, locals := 31 } : Room) s m #[(.long q0), (.int q1), (.int q2)] below meth c T [] 0 0) (eT : T.heap = h0) (v9_4 : Int32), OEnds p e below s (QP (Value.long (epof_9 q0 q2 v9_4)) h0) 0 0 (T.setTop (mkF m 9 #[.val (.long q0), .second, .val (.int q1), .val (.int q2), .val (.int v9_4), .unset, .unset, .unset, .unset, .unset, .unset, .unset, .unset, .unset] [])) := by
    intro T X eT v9_4
    refine own_by (fun _ k => XS.lloadN X.here hx rfl (hb hby d2_9) rfl k) ?_
    show OEnds p e below s _ _ _ (T.setTop (mkF m 10 #[.val (.long q0), .second, .val (.int q1), .val (.int q2), .val (.int v9_4), .unset, .unset, .unset, .unset, .unset, .unset, .unset, .unset, .unset] [(.long q0)]))
    refine own_by (fun _ k => XS.iload X.here hx rfl (hb hby d2_10) rfl k) ?_
    show OEnds p e below s _ _ _ (T.setTop (mkF m 12 #[.val (.long q0), .second, .val (.int q1), .val (.int q2), .val (.int v9_4), .unset, .unset, .unset, .unset, .unset, .unset, .unset, .unset, .unset] [(.int v9_4), (.long q0)]))
    refine own_by (fun _ k => XS.bipush X.here hx rfl (hb hby d2_12) k) ?_
    show OEnds p e below s _ _ _ (T.setTop (mkF m 14 #[.val (.long q0), .second, .val (.int q1), .val (.int q2), .val (.int v9_4), .unset, .unset, .unset, .unset, .unset, .unset, .unset, .unset, .unset] [(.int (10 : Int32)), (.int v9_4), (.long q0)]))
    refine own_by (fun _ k => XS.idiv X.here hx rfl (hb hby d2_14) rfl (by decide) k) ?_
    show OEnds p e below s _ _ _ (T.setTop (mkF m 15 #[.val (.long q0), .second, .val (.int q1), .val (.int q2), .val (.int v9_4), .unset, .unset, .unset, .unset, .unset, .unset, .unset, .unset, .unset] [(.int (v9_4 / (10 : Int32))), (.long q0)]))
    refine own_by (fun _ k => XS.i2l X.here hx rfl (hb hby d2_15) rfl k) ?_
    show OEnds p e below s _ _ _ (T.setTop (mkF m 16 #[.val (.long q0), .second, .val (.int q1), .val (.int q2), .val (.int v9_4), .unset, .unset, .unset, .unset, .unset, .unset, .unset, .unset, .unset] [(.long ((v9_4 / (10 : Int32)).toInt64)), (.long q0)]))
    refine own_by (fun _ k => XS.lsub X.here hx rfl (hb hby d2_16) rfl k) ?_
    show OEnds p e below s _ _ _ (T.setTop (mkF m 17 #[.val (.long q0), .second, .val (.int q1), .val (.int q2), .val (.int v9_4), .unset, .unset, .unset, .unset, .unset, .unset, .unset, .unset, .unset] [(.long (q0 - ((v9_4 / (10 : Int32)).toInt64)))]))
    refine own_by (fun _ k => XS.lstore X.here hx rfl (hb hby d2_17) rfl (l' := #[.val (.long q0), .second, .val (.int q1), .val (.int q2), .val (.int v9_4), .val (.long (q0 - ((v9_4 / (10 : Int32)).toInt64))), .second, .unset, .unset, .unset, .unset, .unset, .unset, .unset]) rfl k) ?_
    show OEnds p e below s _ _ _ (T.setTop (mkF m 19 #[.val (.long q0), .second, .val (.int q1), .val (.int q2), .val (.int v9_4), .val (.long (q0 - ((v9_4 / (10 : Int32)).toInt64))), .second, .unset, .unset, .unset, .unset, .unset, .unset, .unset] []))
    exact own_eq (congrArg Value.long (by rw [epof_9] <;> rfl)) (bepof_19 T X eT v9_4 (q0 - ((v9_4 / (10 : Int32)).toInt64)))
  show OEnds p e below s _ _ _ _
  refine own_by (fun t k => castTop (ef_2 m q0 q1 q2) k) ?_
  show OEnds p e below s _ _ _ (s₁.setTop (mkF m 0 #[.val (.long q0), .second, .val (.int q1), .val (.int q2), .unset, .unset, .unset, .unset, .unset, .unset, .unset, .unset, .unset, .unset] []))
  refine own_by (fun _ k => XS.iloadN X0.here hx rfl (hb hby d2_0) rfl k) ?_
  show OEnds p e below s _ _ _ (s₁.setTop (mkF m 1 #[.val (.long q0), .second, .val (.int q1), .val (.int q2), .unset, .unset, .unset, .unset, .unset, .unset, .unset, .unset, .unset, .unset] [(.int q1)]))
  refine own_by (fun _ k => XS.bipush X0.here hx rfl (hb hby d2_1) k) ?_
  show OEnds p e below s _ _ _ (s₁.setTop (mkF m 3 #[.val (.long q0), .second, .val (.int q1), .val (.int q2), .unset, .unset, .unset, .unset, .unset, .unset, .unset, .unset, .unset, .unset] [(.int (9 : Int32)), (.int q1)]))
  refine own_by (fun _ k => XS.iadd X0.here hx rfl (hb hby d2_3) rfl k) ?_
  show OEnds p e below s _ _ _ (s₁.setTop (mkF m 4 #[.val (.long q0), .second, .val (.int q1), .val (.int q2), .unset, .unset, .unset, .unset, .unset, .unset, .unset, .unset, .unset, .unset] [(.int (q1 + (9 : Int32)))]))
  refine own_by (fun _ k => XS.bipush X0.here hx rfl (hb hby d2_4) k) ?_
  show OEnds p e below s _ _ _ (s₁.setTop (mkF m 6 #[.val (.long q0), .second, .val (.int q1), .val (.int q2), .unset, .unset, .unset, .unset, .unset, .unset, .unset, .unset, .unset, .unset] [(.int (12 : Int32)), (.int (q1 + (9 : Int32)))]))
  refine own_by (fun _ k => iremM X0 hx rfl (hb hby d2_6) rfl (by decide) k) ?_
  show OEnds p e below s _ _ _ (s₁.setTop (mkF m 7 #[.val (.long q0), .second, .val (.int q1), .val (.int q2), .unset, .unset, .unset, .unset, .unset, .unset, .unset, .unset, .unset, .unset] [(.int ((q1 + (9 : Int32)) % (12 : Int32)))]))
  refine own_by (fun _ k => XS.istore X0.here hx rfl (hb hby d2_7) rfl (l' := #[.val (.long q0), .second, .val (.int q1), .val (.int q2), .val (.int ((q1 + (9 : Int32)) % (12 : Int32))), .unset, .unset, .unset, .unset, .unset, .unset, .unset, .unset, .unset]) rfl k) ?_
  show OEnds p e below s _ _ _ (s₁.setTop (mkF m 9 #[.val (.long q0), .second, .val (.int q1), .val (.int q2), .val (.int ((q1 + (9 : Int32)) % (12 : Int32))), .unset, .unset, .unset, .unset, .unset, .unset, .unset, .unset, .unset] []))
  exact own_eq (congrArg Value.long (by rw [epof] <;> rfl)) (bepof_9 s₁ X0 e0 ((q1 + (9 : Int32)) % (12 : Int32)))
theorem d1_0 : decode method_3_code 0 = .ok (.iload_n 2, 1) := by decide +kernel
theorem d1_1 : decode method_3_code 1 = .ok (.iconst 2, 1) := by decide +kernel
theorem d1_2 : decode method_3_code 2 = .ok (.if_icmp .ne 49, 3) := by decide +kernel
theorem d1_5 : decode method_3_code 5 = .ok (.lload_n 0, 1) := by decide +kernel
theorem d1_6 : decode method_3_code 6 = .ok (.ldc2_w 24, 3) := by decide +kernel
theorem d1_9 : decode method_3_code 9 = .ok (.lrem, 1) := by decide +kernel
theorem d1_10 : decode method_3_code 10 = .ok (.lconst 0, 1) := by decide +kernel
theorem d1_11 : decode method_3_code 11 = .ok (.lcmp, 1) := by decide +kernel
theorem d1_12 : decode method_3_code 12 = .ok (.ifCond .ne 27, 3) := by decide +kernel
theorem d1_15 : decode method_3_code 15 = .ok (.lload_n 0, 1) := by decide +kernel
theorem d1_16 : decode method_3_code 16 = .ok (.ldc2_w 26, 3) := by decide +kernel
theorem d1_19 : decode method_3_code 19 = .ok (.lrem, 1) := by decide +kernel
theorem d1_20 : decode method_3_code 20 = .ok (.lconst 0, 1) := by decide +kernel
theorem d1_21 : decode method_3_code 21 = .ok (.lcmp, 1) := by decide +kernel
theorem d1_22 : decode method_3_code 22 = .ok (.ifCond .ne 13, 3) := by decide +kernel
theorem d1_25 : decode method_3_code 25 = .ok (.lload_n 0, 1) := by decide +kernel
theorem d1_26 : decode method_3_code 26 = .ok (.ldc2_w 28, 3) := by decide +kernel
theorem d1_29 : decode method_3_code 29 = .ok (.lrem, 1) := by decide +kernel
theorem d1_30 : decode method_3_code 30 = .ok (.lconst 0, 1) := by decide +kernel
theorem d1_31 : decode method_3_code 31 = .ok (.lcmp, 1) := by decide +kernel
theorem d1_32 : decode method_3_code 32 = .ok (.ifCond .ne 7, 3) := by decide +kernel
theorem d1_35 : decode method_3_code 35 = .ok (.iconst 1, 1) := by decide +kernel
theorem d1_36 : decode method_3_code 36 = .ok (.goto 4, 3) := by decide +kernel
theorem d1_39 : decode method_3_code 39 = .ok (.iconst 0, 1) := by decide +kernel
theorem d1_40 : decode method_3_code 40 = .ok (.istore_n 3, 1) := by decide +kernel
theorem d1_41 : decode method_3_code 41 = .ok (.iload_n 3, 1) := by decide +kernel
theorem d1_42 : decode method_3_code 42 = .ok (.ifCond .eq 6, 3) := by decide +kernel
theorem d1_45 : decode method_3_code 45 = .ok (.bipush 29, 2) := by decide +kernel
theorem d1_47 : decode method_3_code 47 = .ok (.ireturn, 1) := by decide +kernel
theorem d1_48 : decode method_3_code 48 = .ok (.bipush 28, 2) := by decide +kernel
theorem d1_50 : decode method_3_code 50 = .ok (.ireturn, 1) := by decide +kernel
theorem d1_51 : decode method_3_code 51 = .ok (.iload_n 2, 1) := by decide +kernel
theorem d1_52 : decode method_3_code 52 = .ok (.iconst 4, 1) := by decide +kernel
theorem d1_53 : decode method_3_code 53 = .ok (.if_icmp .eq 21, 3) := by decide +kernel
theorem d1_56 : decode method_3_code 56 = .ok (.iload_n 2, 1) := by decide +kernel
theorem d1_57 : decode method_3_code 57 = .ok (.bipush 6, 2) := by decide +kernel
theorem d1_59 : decode method_3_code 59 = .ok (.if_icmp .eq 15, 3) := by decide +kernel
theorem d1_62 : decode method_3_code 62 = .ok (.iload_n 2, 1) := by decide +kernel
theorem d1_63 : decode method_3_code 63 = .ok (.bipush 9, 2) := by decide +kernel
theorem d1_65 : decode method_3_code 65 = .ok (.if_icmp .eq 9, 3) := by decide +kernel
theorem d1_68 : decode method_3_code 68 = .ok (.iload_n 2, 1) := by decide +kernel
theorem d1_69 : decode method_3_code 69 = .ok (.bipush 11, 2) := by decide +kernel
theorem d1_71 : decode method_3_code 71 = .ok (.if_icmp .ne 6, 3) := by decide +kernel
theorem d1_74 : decode method_3_code 74 = .ok (.bipush 30, 2) := by decide +kernel
theorem d1_76 : decode method_3_code 76 = .ok (.ireturn, 1) := by decide +kernel
theorem d1_77 : decode method_3_code 77 = .ok (.bipush 31, 2) := by decide +kernel
theorem d1_79 : decode method_3_code 79 = .ok (.ireturn, 1) := by decide +kernel
theorem pn_1 : plainName "com/example/exact_membership/exactmembership/model/EpochDaysDayOfMonthPinLaw" = true := by first | (simp [plainName, overriddenIn]; done) | decide +kernel
theorem ef_1 (m : MethodId) (q0 : Int64) (q1 : Int32) : entryFrame m #[(.long q0), (.int q1)] 4 = mkF m 0 #[.val (.long q0), .second, .val (.int q1), .unset] [] := by first | (simp [entryFrame, mkF, argsToLocals, Value.category]; done) | rfl
def mlen_74  : Int32 := (30 : Int32)
def mlen_40 (v40_s0 : Int32) : Int32 := if v40_s0 = (0 : Int32) then (28 : Int32) else (29 : Int32)
def mlen_39  : Int32 := (mlen_40 (0 : Int32))
def mlen_35  : Int32 := (mlen_40 (1 : Int32))
def mlen (q0 : Int64) (q1 : Int32) : Int32 := if q1 = (2 : Int32) then if (q0 % (4 : Int64)) = (0 : Int64) then if (q0 % (100 : Int64)) = (0 : Int64) then if (q0 % (400 : Int64)) = (0 : Int64) then mlen_35 else mlen_39 else mlen_35 else mlen_39 else if q1 = (4 : Int32) then mlen_74 else if q1 = (6 : Int32) then mlen_74 else if q1 = (9 : Int32) then mlen_74 else if q1 = (11 : Int32) then mlen_74 else (31 : Int32)
set_option maxRecDepth 65536 in
set_option maxHeartbeats 40000000 in
theorem rm_mlen (l : Launch) (Z : State) (a0 : Array Value) (hw : ∀ d ∈ tables_1, d.before a0 Z = true) (ws : List Jvm.Cond) (q0 : Int64) (q1 : Int32) (h0 : Heap) :
    MetFree l (⟨"com/example/exact_membership/exactmembership/model/EpochDaysDayOfMonthPinLaw", "monthLength", "(JI)I"⟩ : MethodName) (head1 (Jvm.Cond.code (⟨"com/example/exact_membership/exactmembership/model/EpochDaysDayOfMonthPinLaw", "monthLength", "(JI)I"⟩ : MethodName) method_3_code 4 (some .int) :: ws) ({ frames := 0, cells := 0, slots := 0, locals := 0 } : Room)) (fun a U => a = #[(.long q0), (.int q1)] ∧ Z.Warmed39 U.vm ∧ U.heap = h0) (fun _ _ _ _ _ => True) (fun _ U o U' => ∃ v L, o = .returned v ∧ QP (Value.int (mlen q0 q1)) h0 v U'.heap L ∧ FrameEnd U o U' L 0 0) := by
  refine MetFree.of_bodySF (plainFor_of_name pn_1) hisR ?_
  intro p e s m args below meth c s₁ Bd hml0 hP hK
  obtain ⟨rfl, hZ, hh⟩ := hP
  have hx := Bd.exec
  have hby := Bd.bytes
  have hlk : meth.locks = false := Bd.notSynchronized
  have hml : c.maxLocals = 4 := hml0
  have hown : s.vm.findClass "com/example/exact_membership/exactmembership/model/EpochDaysDayOfMonthPinLaw" = some m.cls := findClass_of_methodNamed Bd.named
  have X0 : Stand p l e ({ frames := 0, cells := 0, slots := 0, locals := 0 } : Room) s m #[(.long q0), (.int q1)] below meth c s₁ [] 0 0 := Stand.of_body Bd
  have e0 : s₁.heap = h0 := by rw [← hh, Bd.state]; rfl
  have bmlen_74 : ∀ (T : State) (X : Stand p l e ({ frames := 0, cells := 0, slots := 0, locals := 0 } : Room) s m #[(.long q0), (.int q1)] below meth c T [] 0 0) (eT : T.heap = h0), OEnds p e below s (QP (Value.int (mlen_74)) h0) 0 0 (T.setTop (mkF m 74 #[.val (.long q0), .second, .val (.int q1), .unset] [])) := by
    intro T X eT
    refine own_by (fun _ k => XS.bipush X.here hx rfl (hb hby d1_74) k) ?_
    show OEnds p e below s _ _ _ (T.setTop (mkF m 76 #[.val (.long q0), .second, .val (.int q1), .unset] [(.int (30 : Int32))]))
    exact own_retI X hx hlk Bd.returns (hb hby d1_76) ⟨congrArg (fun z => some (Value.int z)) (Eq.symm (by rw [mlen_74] <;> rfl)), rfl, eT⟩ (Nat.le_refl _) (Nat.le_refl _)
  have bmlen_40 : ∀ (T : State) (X : Stand p l e ({ frames := 0, cells := 0, slots := 0, locals := 0 } : Room) s m #[(.long q0), (.int q1)] below meth c T [] 0 0) (eT : T.heap = h0) (v40_s0 : Int32), OEnds p e below s (QP (Value.int (mlen_40 v40_s0)) h0) 0 0 (T.setTop (mkF m 40 #[.val (.long q0), .second, .val (.int q1), .unset] [(.int v40_s0)])) := by
    intro T X eT v40_s0
    refine own_by (fun _ k => XS.istoreN X.here hx rfl (hb hby d1_40) rfl (l' := #[.val (.long q0), .second, .val (.int q1), .val (.int v40_s0)]) rfl k) ?_
    show OEnds p e below s _ _ _ (T.setTop (mkF m 41 #[.val (.long q0), .second, .val (.int q1), .val (.int v40_s0)] []))
    refine own_by (fun _ k => XS.iloadN X.here hx rfl (hb hby d1_41) rfl k) ?_
    show OEnds p e below s _ _ _ (T.setTop (mkF m 42 #[.val (.long q0), .second, .val (.int q1), .val (.int v40_s0)] [(.int v40_s0)]))
    by_cases hc42 : v40_s0 = (0 : Int32)
    · refine own_by (fun _ k => XS.ifYes X.here hx rfl (pc0 := 42) (pc' := 48) rfl (hb hby d1_42) rfl ((if0 _ _).trans (teq hc42).1) (by decide) (by decide) k) ?_
      show OEnds p e below s _ _ _ (T.setTop (mkF m 48 #[.val (.long q0), .second, .val (.int q1), .val (.int v40_s0)] []))
      refine own_by (fun _ k => XS.bipush X.here hx rfl (hb hby d1_48) k) ?_
      show OEnds p e below s _ _ _ (T.setTop (mkF m 50 #[.val (.long q0), .second, .val (.int q1), .val (.int v40_s0)] [(.int (28 : Int32))]))
      exact own_retI X hx hlk Bd.returns (hb hby d1_50) ⟨congrArg (fun z => some (Value.int z)) (Eq.symm (by rw [mlen_40, if_pos hc42] <;> rfl)), rfl, eT⟩ (Nat.le_refl _) (Nat.le_refl _)
    · refine own_by (fun _ k => XS.ifNo X.here hx rfl (hb hby d1_42) rfl ((if0 _ _).trans (feq hc42).1) k) ?_
      show OEnds p e below s _ _ _ (T.setTop (mkF m 45 #[.val (.long q0), .second, .val (.int q1), .val (.int v40_s0)] []))
      refine own_by (fun _ k => XS.bipush X.here hx rfl (hb hby d1_45) k) ?_
      show OEnds p e below s _ _ _ (T.setTop (mkF m 47 #[.val (.long q0), .second, .val (.int q1), .val (.int v40_s0)] [(.int (29 : Int32))]))
      exact own_retI X hx hlk Bd.returns (hb hby d1_47) ⟨congrArg (fun z => some (Value.int z)) (Eq.symm (by rw [mlen_40, if_neg hc42] <;> rfl)), rfl, eT⟩ (Nat.le_refl _) (Nat.le_refl _)
  have bmlen_39 : ∀ (T : State) (X : Stand p l e ({ frames := 0, cells := 0, slots := 0, locals := 0 } : Room) s m #[(.long q0), (.int q1)] below meth c T [] 0 0) (eT : T.heap = h0), OEnds p e below s (QP (Value.int (mlen_39)) h0) 0 0 (T.setTop (mkF m 39 #[.val (.long q0), .second, .val (.int q1), .unset] [])) := by
    intro T X eT
    refine own_by (fun _ k => XS.iconst X.here hx rfl (hb hby d1_39) k) ?_
    show OEnds p e below s _ _ _ (T.setTop (mkF m 40 #[.val (.long q0), .second, .val (.int q1), .unset] [(.int (0 : Int32))]))
    exact own_eq (congrArg Value.int (by rw [mlen_39] <;> rfl)) (bmlen_40 T X eT (0 : Int32))
  have bmlen_35 : ∀ (T : State) (X : Stand p l e ({ frames := 0, cells := 0, slots := 0, locals := 0 } : Room) s m #[(.long q0), (.int q1)] below meth c T [] 0 0) (eT : T.heap = h0), OEnds p e below s (QP (Value.int (mlen_35)) h0) 0 0 (T.setTop (mkF m 35 #[.val (.long q0), .second, .val (.int q1), .unset] [])) := by
    intro T X eT
    refine own_by (fun _ k => XS.iconst X.here hx rfl (hb hby d1_35) k) ?_
    show OEnds p e below s _ _ _ (T.setTop (mkF m 36 #[.val (.long q0), .second, .val (.int q1), .unset] [(.int (1 : Int32))]))
    refine own_by (fun _ k => XS.goto X.here hx rfl (pc0 := 36) (pc' := 40) rfl (hb hby d1_36) (by decide) (by decide) k) ?_
    show OEnds p e below s _ _ _ (T.setTop (mkF m 40 #[.val (.long q0), .second, .val (.int q1), .unset] [(.int (1 : Int32))]))
    exact own_eq (congrArg Value.int (by rw [mlen_35] <;> rfl)) (bmlen_40 T X eT (1 : Int32))
  show OEnds p e below s _ _ _ _
  refine own_by (fun t k => castTop (ef_1 m q0 q1) k) ?_
  show OEnds p e below s _ _ _ (s₁.setTop (mkF m 0 #[.val (.long q0), .second, .val (.int q1), .unset] []))
  refine own_by (fun _ k => XS.iloadN X0.here hx rfl (hb hby d1_0) rfl k) ?_
  show OEnds p e below s _ _ _ (s₁.setTop (mkF m 1 #[.val (.long q0), .second, .val (.int q1), .unset] [(.int q1)]))
  refine own_by (fun _ k => XS.iconst X0.here hx rfl (hb hby d1_1) k) ?_
  show OEnds p e below s _ _ _ (s₁.setTop (mkF m 2 #[.val (.long q0), .second, .val (.int q1), .unset] [(.int (2 : Int32)), (.int q1)]))
  by_cases hc2 : q1 = (2 : Int32)
  · refine own_by (fun _ k => XS.icmpNo X0.here hx rfl (hb hby d1_2) rfl (teq hc2).2 k) ?_
    show OEnds p e below s _ _ _ (s₁.setTop (mkF m 5 #[.val (.long q0), .second, .val (.int q1), .unset] []))
    refine own_by (fun _ k => XS.lloadN X0.here hx rfl (hb hby d1_5) rfl k) ?_
    show OEnds p e below s _ _ _ (s₁.setTop (mkF m 6 #[.val (.long q0), .second, .val (.int q1), .unset] [(.long q0)]))
    refine own_by (X0.ldc2Long hx hown (mvT hZ (hw _ (List.mem_of_getElem? (i := 43) rfl))) (g := (mkF m 6 #[.val (.long q0), .second, .val (.int q1), .unset] [(.long q0)])) rfl (hb hby d1_6)) ?_
    show OEnds p e below s _ _ _ (s₁.setTop (mkF m 9 #[.val (.long q0), .second, .val (.int q1), .unset] [(.long (4 : Int64)), (.long q0)]))
    refine own_by (fun _ k => own_lrem X0 hx rfl (hb hby d1_9) rfl (by decide) k) ?_
    show OEnds p e below s _ _ _ (s₁.setTop (mkF m 10 #[.val (.long q0), .second, .val (.int q1), .unset] [(.long (q0 % (4 : Int64)))]))
    refine own_by (fun _ k => XS.lconst X0.here hx rfl (hb hby d1_10) k) ?_
    show OEnds p e below s _ _ _ (s₁.setTop (mkF m 11 #[.val (.long q0), .second, .val (.int q1), .unset] [(.long (0 : Int64)), (.long (q0 % (4 : Int64)))]))
    refine own_by (fun _ k => XS.lcmp X0.here hx rfl (hb hby d1_11) rfl k) ?_
    show OEnds p e below s _ _ _ (s₁.setTop (mkF m 12 #[.val (.long q0), .second, .val (.int q1), .unset] [(.int (lcmpW (q0 % (4 : Int64)) (0 : Int64)))]))
    by_cases hc12 : (q0 % (4 : Int64)) = (0 : Int64)
    · refine own_by (fun _ k => XS.ifNo X0.here hx rfl (hb hby d1_12) rfl ((if0 _ _).trans (teq ((lw_eq _ _).mpr hc12)).2) k) ?_
      show OEnds p e below s _ _ _ (s₁.setTop (mkF m 15 #[.val (.long q0), .second, .val (.int q1), .unset] []))
      refine own_by (fun _ k => XS.lloadN X0.here hx rfl (hb hby d1_15) rfl k) ?_
      show OEnds p e below s _ _ _ (s₁.setTop (mkF m 16 #[.val (.long q0), .second, .val (.int q1), .unset] [(.long q0)]))
      refine own_by (X0.ldc2Long hx hown (mvT hZ (hw _ (List.mem_of_getElem? (i := 44) rfl))) (g := (mkF m 16 #[.val (.long q0), .second, .val (.int q1), .unset] [(.long q0)])) rfl (hb hby d1_16)) ?_
      show OEnds p e below s _ _ _ (s₁.setTop (mkF m 19 #[.val (.long q0), .second, .val (.int q1), .unset] [(.long (100 : Int64)), (.long q0)]))
      refine own_by (fun _ k => own_lrem X0 hx rfl (hb hby d1_19) rfl (by decide) k) ?_
      show OEnds p e below s _ _ _ (s₁.setTop (mkF m 20 #[.val (.long q0), .second, .val (.int q1), .unset] [(.long (q0 % (100 : Int64)))]))
      refine own_by (fun _ k => XS.lconst X0.here hx rfl (hb hby d1_20) k) ?_
      show OEnds p e below s _ _ _ (s₁.setTop (mkF m 21 #[.val (.long q0), .second, .val (.int q1), .unset] [(.long (0 : Int64)), (.long (q0 % (100 : Int64)))]))
      refine own_by (fun _ k => XS.lcmp X0.here hx rfl (hb hby d1_21) rfl k) ?_
      show OEnds p e below s _ _ _ (s₁.setTop (mkF m 22 #[.val (.long q0), .second, .val (.int q1), .unset] [(.int (lcmpW (q0 % (100 : Int64)) (0 : Int64)))]))
      by_cases hc22 : (q0 % (100 : Int64)) = (0 : Int64)
      · refine own_by (fun _ k => XS.ifNo X0.here hx rfl (hb hby d1_22) rfl ((if0 _ _).trans (teq ((lw_eq _ _).mpr hc22)).2) k) ?_
        show OEnds p e below s _ _ _ (s₁.setTop (mkF m 25 #[.val (.long q0), .second, .val (.int q1), .unset] []))
        refine own_by (fun _ k => XS.lloadN X0.here hx rfl (hb hby d1_25) rfl k) ?_
        show OEnds p e below s _ _ _ (s₁.setTop (mkF m 26 #[.val (.long q0), .second, .val (.int q1), .unset] [(.long q0)]))
        refine own_by (X0.ldc2Long hx hown (mvT hZ (hw _ (List.mem_of_getElem? (i := 45) rfl))) (g := (mkF m 26 #[.val (.long q0), .second, .val (.int q1), .unset] [(.long q0)])) rfl (hb hby d1_26)) ?_
        show OEnds p e below s _ _ _ (s₁.setTop (mkF m 29 #[.val (.long q0), .second, .val (.int q1), .unset] [(.long (400 : Int64)), (.long q0)]))
        refine own_by (fun _ k => own_lrem X0 hx rfl (hb hby d1_29) rfl (by decide) k) ?_
        show OEnds p e below s _ _ _ (s₁.setTop (mkF m 30 #[.val (.long q0), .second, .val (.int q1), .unset] [(.long (q0 % (400 : Int64)))]))
        refine own_by (fun _ k => XS.lconst X0.here hx rfl (hb hby d1_30) k) ?_
        show OEnds p e below s _ _ _ (s₁.setTop (mkF m 31 #[.val (.long q0), .second, .val (.int q1), .unset] [(.long (0 : Int64)), (.long (q0 % (400 : Int64)))]))
        refine own_by (fun _ k => XS.lcmp X0.here hx rfl (hb hby d1_31) rfl k) ?_
        show OEnds p e below s _ _ _ (s₁.setTop (mkF m 32 #[.val (.long q0), .second, .val (.int q1), .unset] [(.int (lcmpW (q0 % (400 : Int64)) (0 : Int64)))]))
        by_cases hc32 : (q0 % (400 : Int64)) = (0 : Int64)
        · refine own_by (fun _ k => XS.ifNo X0.here hx rfl (hb hby d1_32) rfl ((if0 _ _).trans (teq ((lw_eq _ _).mpr hc32)).2) k) ?_
          show OEnds p e below s _ _ _ (s₁.setTop (mkF m 35 #[.val (.long q0), .second, .val (.int q1), .unset] []))
          exact own_eq (congrArg Value.int (by rw [mlen, if_pos hc2, if_pos hc12, if_pos hc22, if_pos hc32] <;> rfl)) (bmlen_35 s₁ X0 e0)
        · refine own_by (fun _ k => XS.ifYes X0.here hx rfl (pc0 := 32) (pc' := 39) rfl (hb hby d1_32) rfl ((if0 _ _).trans (feq (fun q => hc32 ((lw_eq _ _).mp q))).2) (by decide) (by decide) k) ?_
          show OEnds p e below s _ _ _ (s₁.setTop (mkF m 39 #[.val (.long q0), .second, .val (.int q1), .unset] []))
          exact own_eq (congrArg Value.int (by rw [mlen, if_pos hc2, if_pos hc12, if_pos hc22, if_neg hc32] <;> rfl)) (bmlen_39 s₁ X0 e0)
      · refine own_by (fun _ k => XS.ifYes X0.here hx rfl (pc0 := 22) (pc' := 35) rfl (hb hby d1_22) rfl ((if0 _ _).trans (feq (fun q => hc22 ((lw_eq _ _).mp q))).2) (by decide) (by decide) k) ?_
        show OEnds p e below s _ _ _ (s₁.setTop (mkF m 35 #[.val (.long q0), .second, .val (.int q1), .unset] []))
        exact own_eq (congrArg Value.int (by rw [mlen, if_pos hc2, if_pos hc12, if_neg hc22] <;> rfl)) (bmlen_35 s₁ X0 e0)
    · refine own_by (fun _ k => XS.ifYes X0.here hx rfl (pc0 := 12) (pc' := 39) rfl (hb hby d1_12) rfl ((if0 _ _).trans (feq (fun q => hc12 ((lw_eq _ _).mp q))).2) (by decide) (by decide) k) ?_
      show OEnds p e below s _ _ _ (s₁.setTop (mkF m 39 #[.val (.long q0), .second, .val (.int q1), .unset] []))
      exact own_eq (congrArg Value.int (by rw [mlen, if_pos hc2, if_neg hc12] <;> rfl)) (bmlen_39 s₁ X0 e0)
  · refine own_by (fun _ k => XS.icmpYes X0.here hx rfl (pc0 := 2) (pc' := 51) rfl (hb hby d1_2) rfl (feq hc2).2 (by decide) (by decide) k) ?_
    show OEnds p e below s _ _ _ (s₁.setTop (mkF m 51 #[.val (.long q0), .second, .val (.int q1), .unset] []))
    refine own_by (fun _ k => XS.iloadN X0.here hx rfl (hb hby d1_51) rfl k) ?_
    show OEnds p e below s _ _ _ (s₁.setTop (mkF m 52 #[.val (.long q0), .second, .val (.int q1), .unset] [(.int q1)]))
    refine own_by (fun _ k => XS.iconst X0.here hx rfl (hb hby d1_52) k) ?_
    show OEnds p e below s _ _ _ (s₁.setTop (mkF m 53 #[.val (.long q0), .second, .val (.int q1), .unset] [(.int (4 : Int32)), (.int q1)]))
    by_cases hc53 : q1 = (4 : Int32)
    · refine own_by (fun _ k => XS.icmpYes X0.here hx rfl (pc0 := 53) (pc' := 74) rfl (hb hby d1_53) rfl (teq hc53).1 (by decide) (by decide) k) ?_
      show OEnds p e below s _ _ _ (s₁.setTop (mkF m 74 #[.val (.long q0), .second, .val (.int q1), .unset] []))
      exact own_eq (congrArg Value.int (by rw [mlen, if_neg hc2, if_pos hc53] <;> rfl)) (bmlen_74 s₁ X0 e0)
    · refine own_by (fun _ k => XS.icmpNo X0.here hx rfl (hb hby d1_53) rfl (feq hc53).1 k) ?_
      show OEnds p e below s _ _ _ (s₁.setTop (mkF m 56 #[.val (.long q0), .second, .val (.int q1), .unset] []))
      refine own_by (fun _ k => XS.iloadN X0.here hx rfl (hb hby d1_56) rfl k) ?_
      show OEnds p e below s _ _ _ (s₁.setTop (mkF m 57 #[.val (.long q0), .second, .val (.int q1), .unset] [(.int q1)]))
      refine own_by (fun _ k => XS.bipush X0.here hx rfl (hb hby d1_57) k) ?_
      show OEnds p e below s _ _ _ (s₁.setTop (mkF m 59 #[.val (.long q0), .second, .val (.int q1), .unset] [(.int (6 : Int32)), (.int q1)]))
      by_cases hc59 : q1 = (6 : Int32)
      · refine own_by (fun _ k => XS.icmpYes X0.here hx rfl (pc0 := 59) (pc' := 74) rfl (hb hby d1_59) rfl (teq hc59).1 (by decide) (by decide) k) ?_
        show OEnds p e below s _ _ _ (s₁.setTop (mkF m 74 #[.val (.long q0), .second, .val (.int q1), .unset] []))
        exact own_eq (congrArg Value.int (by rw [mlen, if_neg hc2, if_neg hc53, if_pos hc59] <;> rfl)) (bmlen_74 s₁ X0 e0)
      · refine own_by (fun _ k => XS.icmpNo X0.here hx rfl (hb hby d1_59) rfl (feq hc59).1 k) ?_
        show OEnds p e below s _ _ _ (s₁.setTop (mkF m 62 #[.val (.long q0), .second, .val (.int q1), .unset] []))
        refine own_by (fun _ k => XS.iloadN X0.here hx rfl (hb hby d1_62) rfl k) ?_
        show OEnds p e below s _ _ _ (s₁.setTop (mkF m 63 #[.val (.long q0), .second, .val (.int q1), .unset] [(.int q1)]))
        refine own_by (fun _ k => XS.bipush X0.here hx rfl (hb hby d1_63) k) ?_
        show OEnds p e below s _ _ _ (s₁.setTop (mkF m 65 #[.val (.long q0), .second, .val (.int q1), .unset] [(.int (9 : Int32)), (.int q1)]))
        by_cases hc65 : q1 = (9 : Int32)
        · refine own_by (fun _ k => XS.icmpYes X0.here hx rfl (pc0 := 65) (pc' := 74) rfl (hb hby d1_65) rfl (teq hc65).1 (by decide) (by decide) k) ?_
          show OEnds p e below s _ _ _ (s₁.setTop (mkF m 74 #[.val (.long q0), .second, .val (.int q1), .unset] []))
          exact own_eq (congrArg Value.int (by rw [mlen, if_neg hc2, if_neg hc53, if_neg hc59, if_pos hc65] <;> rfl)) (bmlen_74 s₁ X0 e0)
        · refine own_by (fun _ k => XS.icmpNo X0.here hx rfl (hb hby d1_65) rfl (feq hc65).1 k) ?_
          show OEnds p e below s _ _ _ (s₁.setTop (mkF m 68 #[.val (.long q0), .second, .val (.int q1), .unset] []))
          refine own_by (fun _ k => XS.iloadN X0.here hx rfl (hb hby d1_68) rfl k) ?_
          show OEnds p e below s _ _ _ (s₁.setTop (mkF m 69 #[.val (.long q0), .second, .val (.int q1), .unset] [(.int q1)]))
          refine own_by (fun _ k => XS.bipush X0.here hx rfl (hb hby d1_69) k) ?_
          show OEnds p e below s _ _ _ (s₁.setTop (mkF m 71 #[.val (.long q0), .second, .val (.int q1), .unset] [(.int (11 : Int32)), (.int q1)]))
          by_cases hc71 : q1 = (11 : Int32)
          · refine own_by (fun _ k => XS.icmpNo X0.here hx rfl (hb hby d1_71) rfl (teq hc71).2 k) ?_
            show OEnds p e below s _ _ _ (s₁.setTop (mkF m 74 #[.val (.long q0), .second, .val (.int q1), .unset] []))
            exact own_eq (congrArg Value.int (by rw [mlen, if_neg hc2, if_neg hc53, if_neg hc59, if_neg hc65, if_pos hc71] <;> rfl)) (bmlen_74 s₁ X0 e0)
          · refine own_by (fun _ k => XS.icmpYes X0.here hx rfl (pc0 := 71) (pc' := 77) rfl (hb hby d1_71) rfl (feq hc71).2 (by decide) (by decide) k) ?_
            show OEnds p e below s _ _ _ (s₁.setTop (mkF m 77 #[.val (.long q0), .second, .val (.int q1), .unset] []))
            refine own_by (fun _ k => XS.bipush X0.here hx rfl (hb hby d1_77) k) ?_
            show OEnds p e below s _ _ _ (s₁.setTop (mkF m 79 #[.val (.long q0), .second, .val (.int q1), .unset] [(.int (31 : Int32))]))
            exact own_retI X0 hx hlk Bd.returns (hb hby d1_79) ⟨congrArg (fun z => some (Value.int z)) (Eq.symm (by rw [mlen, if_neg hc2, if_neg hc53, if_neg hc59, if_neg hc65, if_neg hc71] <;> rfl)), rfl, e0⟩ (Nat.le_refl _) (Nat.le_refl _)
theorem d6_0 : decode prog_18_method_6_code 0 = .ok (.lload_n 0, 1) := by decide +kernel
theorem d6_1 : decode prog_18_method_6_code 1 = .ok (.ldc2_w 25, 3) := by decide +kernel
theorem d6_4 : decode prog_18_method_6_code 4 = .ok (.ladd, 1) := by decide +kernel
theorem d6_5 : decode prog_18_method_6_code 5 = .ok (.ldc 35, 2) := by decide +kernel
theorem d6_7 : decode prog_18_method_6_code 7 = .ok (.invokestatic 27, 3) := by decide +kernel
theorem d6_10 : decode prog_18_method_6_code 10 = .ok (.ireturn, 1) := by decide +kernel
theorem pn_6 : plainName "com/example/exact_membership/exactmembership/model/EpochDays" = true := by first | (simp [plainName, overriddenIn]; done) | decide +kernel
theorem ef_6 (m : MethodId) (q0 : Int64) : entryFrame m #[(.long q0)] 2 = mkF m 0 #[.val (.long q0), .second] [] := by first | (simp [entryFrame, mkF, argsToLocals, Value.category]; done) | rfl
def doEra (q0 : Int64) : Int32 := (fmodI (q0 + (719468 : Int64)) (146097 : Int32))
set_option maxRecDepth 65536 in
set_option maxHeartbeats 40000000 in
theorem rm_doEra (l : Launch) (Z : State) (a0 : Array Value) (hw : ∀ d ∈ tables_1, d.before a0 Z = true) (ws : List Jvm.Cond) (q0 : Int64) (h0 : Heap) :
    MetFree l (⟨"com/example/exact_membership/exactmembership/model/EpochDays", "dayOfEra", "(J)I"⟩ : MethodName) (head1 (Jvm.Cond.code (⟨"com/example/exact_membership/exactmembership/model/EpochDays", "dayOfEra", "(J)I"⟩ : MethodName) prog_18_method_6_code 2 (some .int) :: ws) ({ frames := 2, cells := 0, slots := 0, locals := 31 } : Room)) (fun a U => a = #[(.long q0)] ∧ Z.Warmed39 U.vm ∧ U.heap = h0) (fun _ _ _ _ _ => True) (fun _ U o U' => ∃ v L, o = .returned v ∧ QP (Value.int (doEra q0)) h0 v U'.heap L ∧ FrameEnd U o U' L 0 0) := by
  refine MetFree.of_bodySF (plainFor_of_name pn_6) hisR ?_
  intro p e s m args below meth c s₁ Bd hml0 hP hK
  obtain ⟨rfl, hZ, hh⟩ := hP
  have hx := Bd.exec
  have hby := Bd.bytes
  have hlk : meth.locks = false := Bd.notSynchronized
  have hml : c.maxLocals = 2 := hml0
  have hown : s.vm.findClass "com/example/exact_membership/exactmembership/model/EpochDays" = some m.cls := findClass_of_methodNamed Bd.named
  have X0 : Stand p l e ({ frames := 2, cells := 0, slots := 0, locals := 31 } : Room) s m #[(.long q0)] below meth c s₁ [] 0 0 := Stand.of_body Bd
  have e0 : s₁.heap = h0 := by rw [← hh, Bd.state]; rfl
  show OEnds p e below s _ _ _ _
  refine own_by (fun t k => castTop (ef_6 m q0) k) ?_
  show OEnds p e below s _ _ _ (s₁.setTop (mkF m 0 #[.val (.long q0), .second] []))
  refine own_by (fun _ k => XS.lloadN X0.here hx rfl (hb hby d6_0) rfl k) ?_
  show OEnds p e below s _ _ _ (s₁.setTop (mkF m 1 #[.val (.long q0), .second] [(.long q0)]))
  refine own_by (X0.ldc2Long hx hown (mvT hZ (hw _ (List.mem_of_getElem? (i := 21) rfl))) (g := (mkF m 1 #[.val (.long q0), .second] [(.long q0)])) rfl (hb hby d6_1)) ?_
  show OEnds p e below s _ _ _ (s₁.setTop (mkF m 4 #[.val (.long q0), .second] [(.long (719468 : Int64)), (.long q0)]))
  refine own_by (fun _ k => XS.ladd X0.here hx rfl (hb hby d6_4) rfl k) ?_
  show OEnds p e below s _ _ _ (s₁.setTop (mkF m 5 #[.val (.long q0), .second] [(.long (q0 + (719468 : Int64)))]))
  refine own_by (X0.ldcInt hx hown (mvT hZ (hw _ (List.mem_of_getElem? (i := 28) rfl))) (g := (mkF m 5 #[.val (.long q0), .second] [(.long (q0 + (719468 : Int64)))])) rfl (hb hby d6_5)) ?_
  show OEnds p e below s _ _ _ (s₁.setTop (mkF m 7 #[.val (.long q0), .second] [(.int (146097 : Int32)), (.long (q0 + (719468 : Int64)))]))
  obtain ⟨T2, X2, e2, st2⟩ := own_callP X0 hx hZ (y := (⟨"java/lang/Math", "floorMod", "(JI)I"⟩ : MethodName)) hown (hw _ (List.mem_of_getElem? (i := 29) rfl)) (hw _ (List.mem_of_getElem? (i := 30) rfl)) (hw _ (List.mem_of_getElem? (i := 11) rfl)) (hw _ (List.mem_of_getElem? (i := 31) rfl)) (by decide) (rm_fmodI l Z a0 hw [] (q0 + (719468 : Int64)) (146097 : Int32) h0 (by decide)) e0 (g := (mkF m 7 #[.val (.long q0), .second] [(.int (146097 : Int32)), (.long (q0 + (719468 : Int64)))])) rfl (by rw [hml]; rfl) (argsL := [(.long (q0 + (719468 : Int64))), (.int (146097 : Int32))]) (rest := []) (lenOf pd_pJIrI rfl) rfl (W := 0) (by show 2 * 0 + _ ≤ _; exact Nat.le_of_eq rfl) (hb hby d6_7) (by decide) (by decide) (by decide) (by decide)
  refine own_by st2 ?_
  show OEnds p e below s _ _ _ (T2.setTop (mkF m 10 #[.val (.long q0), .second] [(.int (fmodI (q0 + (719468 : Int64)) (146097 : Int32)))]))
  exact own_retI X2 hx hlk Bd.returns (hb hby d6_10) ⟨congrArg (fun z => some (Value.int z)) (Eq.symm (by rw [doEra] <;> rfl)), rfl, e2⟩ (Nat.le_refl _) (Nat.le_refl _)
theorem d9_0 : decode prog_18_method_7_code 0 = .ok (.iload_n 0, 1) := by decide +kernel
theorem d9_1 : decode prog_18_method_7_code 1 = .ok (.iload_n 0, 1) := by decide +kernel
theorem d9_2 : decode prog_18_method_7_code 2 = .ok (.sipush 1460, 3) := by decide +kernel
theorem d9_5 : decode prog_18_method_7_code 5 = .ok (.idiv, 1) := by decide +kernel
theorem d9_6 : decode prog_18_method_7_code 6 = .ok (.isub, 1) := by decide +kernel
theorem d9_7 : decode prog_18_method_7_code 7 = .ok (.iload_n 0, 1) := by decide +kernel
theorem d9_8 : decode prog_18_method_7_code 8 = .ok (.ldc 50, 2) := by decide +kernel
theorem d9_10 : decode prog_18_method_7_code 10 = .ok (.idiv, 1) := by decide +kernel
theorem d9_11 : decode prog_18_method_7_code 11 = .ok (.iadd, 1) := by decide +kernel
theorem d9_12 : decode prog_18_method_7_code 12 = .ok (.iload_n 0, 1) := by decide +kernel
theorem d9_13 : decode prog_18_method_7_code 13 = .ok (.ldc 51, 2) := by decide +kernel
theorem d9_15 : decode prog_18_method_7_code 15 = .ok (.idiv, 1) := by decide +kernel
theorem d9_16 : decode prog_18_method_7_code 16 = .ok (.isub, 1) := by decide +kernel
theorem d9_17 : decode prog_18_method_7_code 17 = .ok (.sipush 365, 3) := by decide +kernel
theorem d9_20 : decode prog_18_method_7_code 20 = .ok (.idiv, 1) := by decide +kernel
theorem d9_21 : decode prog_18_method_7_code 21 = .ok (.ireturn, 1) := by decide +kernel
theorem pn_9 : plainName "com/example/exact_membership/exactmembership/model/EpochDays" = true := by first | (simp [plainName, overriddenIn]; done) | decide +kernel
theorem ef_9 (m : MethodId) (q0 : Int32) : entryFrame m #[(.int q0)] 1 = mkF m 0 #[.val (.int q0)] [] := by first | (simp [entryFrame, mkF, argsToLocals, Value.category]; done) | rfl
def yoEra (q0 : Int32) : Int32 := ((((q0 - (q0 / (1460 : Int32))) + (q0 / (36524 : Int32))) - (q0 / (146096 : Int32))) / (365 : Int32))
set_option maxRecDepth 65536 in
set_option maxHeartbeats 40000000 in
theorem rm_yoEra (l : Launch) (Z : State) (a0 : Array Value) (hw : ∀ d ∈ tables_1, d.before a0 Z = true) (ws : List Jvm.Cond) (q0 : Int32) (h0 : Heap) :
    MetFree l (⟨"com/example/exact_membership/exactmembership/model/EpochDays", "yearOfEra", "(I)I"⟩ : MethodName) (head1 (Jvm.Cond.code (⟨"com/example/exact_membership/exactmembership/model/EpochDays", "yearOfEra", "(I)I"⟩ : MethodName) prog_18_method_7_code 1 (some .int) :: ws) ({ frames := 0, cells := 0, slots := 0, locals := 0 } : Room)) (fun a U => a = #[(.int q0)] ∧ Z.Warmed39 U.vm ∧ U.heap = h0) (fun _ _ _ _ _ => True) (fun _ U o U' => ∃ v L, o = .returned v ∧ QP (Value.int (yoEra q0)) h0 v U'.heap L ∧ FrameEnd U o U' L 0 0) := by
  refine MetFree.of_bodySF (plainFor_of_name pn_9) hisR ?_
  intro p e s m args below meth c s₁ Bd hml0 hP hK
  obtain ⟨rfl, hZ, hh⟩ := hP
  have hx := Bd.exec
  have hby := Bd.bytes
  have hlk : meth.locks = false := Bd.notSynchronized
  have hml : c.maxLocals = 1 := hml0
  have hown : s.vm.findClass "com/example/exact_membership/exactmembership/model/EpochDays" = some m.cls := findClass_of_methodNamed Bd.named
  have X0 : Stand p l e ({ frames := 0, cells := 0, slots := 0, locals := 0 } : Room) s m #[(.int q0)] below meth c s₁ [] 0 0 := Stand.of_body Bd
  have e0 : s₁.heap = h0 := by rw [← hh, Bd.state]; rfl
  show OEnds p e below s _ _ _ _
  refine own_by (fun t k => castTop (ef_9 m q0) k) ?_
  show OEnds p e below s _ _ _ (s₁.setTop (mkF m 0 #[.val (.int q0)] []))
  refine own_by (fun _ k => XS.iloadN X0.here hx rfl (hb hby d9_0) rfl k) ?_
  show OEnds p e below s _ _ _ (s₁.setTop (mkF m 1 #[.val (.int q0)] [(.int q0)]))
  refine own_by (fun _ k => XS.iloadN X0.here hx rfl (hb hby d9_1) rfl k) ?_
  show OEnds p e below s _ _ _ (s₁.setTop (mkF m 2 #[.val (.int q0)] [(.int q0), (.int q0)]))
  refine own_by (fun _ k => XS.sipush X0.here hx rfl (hb hby d9_2) k) ?_
  show OEnds p e below s _ _ _ (s₁.setTop (mkF m 5 #[.val (.int q0)] [(.int (1460 : Int32)), (.int q0), (.int q0)]))
  refine own_by (fun _ k => XS.idiv X0.here hx rfl (hb hby d9_5) rfl (by decide) k) ?_
  show OEnds p e below s _ _ _ (s₁.setTop (mkF m 6 #[.val (.int q0)] [(.int (q0 / (1460 : Int32))), (.int q0)]))
  refine own_by (fun _ k => XS.isub X0.here hx rfl (hb hby d9_6) rfl k) ?_
  show OEnds p e below s _ _ _ (s₁.setTop (mkF m 7 #[.val (.int q0)] [(.int (q0 - (q0 / (1460 : Int32))))]))
  refine own_by (fun _ k => XS.iloadN X0.here hx rfl (hb hby d9_7) rfl k) ?_
  show OEnds p e below s _ _ _ (s₁.setTop (mkF m 8 #[.val (.int q0)] [(.int q0), (.int (q0 - (q0 / (1460 : Int32))))]))
  refine own_by (X0.ldcInt hx hown (mvT hZ (hw _ (List.mem_of_getElem? (i := 38) rfl))) (g := (mkF m 8 #[.val (.int q0)] [(.int q0), (.int (q0 - (q0 / (1460 : Int32))))])) rfl (hb hby d9_8)) ?_
  show OEnds p e below s _ _ _ (s₁.setTop (mkF m 10 #[.val (.int q0)] [(.int (36524 : Int32)), (.int q0), (.int (q0 - (q0 / (1460 : Int32))))]))
  refine own_by (fun _ k => XS.idiv X0.here hx rfl (hb hby d9_10) rfl (by decide) k) ?_
  show OEnds p e below s _ _ _ (s₁.setTop (mkF m 11 #[.val (.int q0)] [(.int (q0 / (36524 : Int32))), (.int (q0 - (q0 / (1460 : Int32))))]))
  refine own_by (fun _ k => XS.iadd X0.here hx rfl (hb hby d9_11) rfl k) ?_
  show OEnds p e below s _ _ _ (s₁.setTop (mkF m 12 #[.val (.int q0)] [(.int ((q0 - (q0 / (1460 : Int32))) + (q0 / (36524 : Int32))))]))
  refine own_by (fun _ k => XS.iloadN X0.here hx rfl (hb hby d9_12) rfl k) ?_
  show OEnds p e below s _ _ _ (s₁.setTop (mkF m 13 #[.val (.int q0)] [(.int q0), (.int ((q0 - (q0 / (1460 : Int32))) + (q0 / (36524 : Int32))))]))
  refine own_by (X0.ldcInt hx hown (mvT hZ (hw _ (List.mem_of_getElem? (i := 39) rfl))) (g := (mkF m 13 #[.val (.int q0)] [(.int q0), (.int ((q0 - (q0 / (1460 : Int32))) + (q0 / (36524 : Int32))))])) rfl (hb hby d9_13)) ?_
  show OEnds p e below s _ _ _ (s₁.setTop (mkF m 15 #[.val (.int q0)] [(.int (146096 : Int32)), (.int q0), (.int ((q0 - (q0 / (1460 : Int32))) + (q0 / (36524 : Int32))))]))
  refine own_by (fun _ k => XS.idiv X0.here hx rfl (hb hby d9_15) rfl (by decide) k) ?_
  show OEnds p e below s _ _ _ (s₁.setTop (mkF m 16 #[.val (.int q0)] [(.int (q0 / (146096 : Int32))), (.int ((q0 - (q0 / (1460 : Int32))) + (q0 / (36524 : Int32))))]))
  refine own_by (fun _ k => XS.isub X0.here hx rfl (hb hby d9_16) rfl k) ?_
  show OEnds p e below s _ _ _ (s₁.setTop (mkF m 17 #[.val (.int q0)] [(.int (((q0 - (q0 / (1460 : Int32))) + (q0 / (36524 : Int32))) - (q0 / (146096 : Int32))))]))
  refine own_by (fun _ k => XS.sipush X0.here hx rfl (hb hby d9_17) k) ?_
  show OEnds p e below s _ _ _ (s₁.setTop (mkF m 20 #[.val (.int q0)] [(.int (365 : Int32)), (.int (((q0 - (q0 / (1460 : Int32))) + (q0 / (36524 : Int32))) - (q0 / (146096 : Int32))))]))
  refine own_by (fun _ k => XS.idiv X0.here hx rfl (hb hby d9_20) rfl (by decide) k) ?_
  show OEnds p e below s _ _ _ (s₁.setTop (mkF m 21 #[.val (.int q0)] [(.int ((((q0 - (q0 / (1460 : Int32))) + (q0 / (36524 : Int32))) - (q0 / (146096 : Int32))) / (365 : Int32)))]))
  exact own_retI X0 hx hlk Bd.returns (hb hby d9_21) ⟨congrArg (fun z => some (Value.int z)) (Eq.symm (by rw [yoEra] <;> rfl)), rfl, e0⟩ (Nat.le_refl _) (Nat.le_refl _)
theorem d10_0 : decode prog_18_method_8_code 0 = .ok (.iload_n 0, 1) := by decide +kernel
theorem d10_1 : decode prog_18_method_8_code 1 = .ok (.sipush 365, 3) := by decide +kernel
theorem d10_4 : decode prog_18_method_8_code 4 = .ok (.iload_n 1, 1) := by decide +kernel
theorem d10_5 : decode prog_18_method_8_code 5 = .ok (.imul, 1) := by decide +kernel
theorem d10_6 : decode prog_18_method_8_code 6 = .ok (.iload_n 1, 1) := by decide +kernel
theorem d10_7 : decode prog_18_method_8_code 7 = .ok (.iconst 4, 1) := by decide +kernel
theorem d10_8 : decode prog_18_method_8_code 8 = .ok (.idiv, 1) := by decide +kernel
theorem d10_9 : decode prog_18_method_8_code 9 = .ok (.iadd, 1) := by decide +kernel
theorem d10_10 : decode prog_18_method_8_code 10 = .ok (.iload_n 1, 1) := by decide +kernel
theorem d10_11 : decode prog_18_method_8_code 11 = .ok (.bipush 100, 2) := by decide +kernel
theorem d10_13 : decode prog_18_method_8_code 13 = .ok (.idiv, 1) := by decide +kernel
theorem d10_14 : decode prog_18_method_8_code 14 = .ok (.isub, 1) := by decide +kernel
theorem d10_15 : decode prog_18_method_8_code 15 = .ok (.isub, 1) := by decide +kernel
theorem d10_16 : decode prog_18_method_8_code 16 = .ok (.ireturn, 1) := by decide +kernel
theorem pn_10 : plainName "com/example/exact_membership/exactmembership/model/EpochDays" = true := by first | (simp [plainName, overriddenIn]; done) | decide +kernel
theorem ef_10 (m : MethodId) (q0 : Int32) (q1 : Int32) : entryFrame m #[(.int q0), (.int q1)] 2 = mkF m 0 #[.val (.int q0), .val (.int q1)] [] := by first | (simp [entryFrame, mkF, argsToLocals, Value.category]; done) | rfl
def doYear (q0 : Int32) (q1 : Int32) : Int32 := (q0 - ((((365 : Int32) * q1) + (q1 / (4 : Int32))) - (q1 / (100 : Int32))))
set_option maxRecDepth 65536 in
set_option maxHeartbeats 40000000 in
theorem rm_doYear (l : Launch) (Z : State) (a0 : Array Value) (hw : ∀ d ∈ tables_1, d.before a0 Z = true) (ws : List Jvm.Cond) (q0 : Int32) (q1 : Int32) (h0 : Heap) :
    MetFree l (⟨"com/example/exact_membership/exactmembership/model/EpochDays", "dayOfYear", "(II)I"⟩ : MethodName) (head1 (Jvm.Cond.code (⟨"com/example/exact_membership/exactmembership/model/EpochDays", "dayOfYear", "(II)I"⟩ : MethodName) prog_18_method_8_code 2 (some .int) :: ws) ({ frames := 0, cells := 0, slots := 0, locals := 0 } : Room)) (fun a U => a = #[(.int q0), (.int q1)] ∧ Z.Warmed39 U.vm ∧ U.heap = h0) (fun _ _ _ _ _ => True) (fun _ U o U' => ∃ v L, o = .returned v ∧ QP (Value.int (doYear q0 q1)) h0 v U'.heap L ∧ FrameEnd U o U' L 0 0) := by
  refine MetFree.of_bodySF (plainFor_of_name pn_10) hisR ?_
  intro p e s m args below meth c s₁ Bd hml0 hP hK
  obtain ⟨rfl, hZ, hh⟩ := hP
  have hx := Bd.exec
  have hby := Bd.bytes
  have hlk : meth.locks = false := Bd.notSynchronized
  have hml : c.maxLocals = 2 := hml0
  have hown : s.vm.findClass "com/example/exact_membership/exactmembership/model/EpochDays" = some m.cls := findClass_of_methodNamed Bd.named
  have X0 : Stand p l e ({ frames := 0, cells := 0, slots := 0, locals := 0 } : Room) s m #[(.int q0), (.int q1)] below meth c s₁ [] 0 0 := Stand.of_body Bd
  have e0 : s₁.heap = h0 := by rw [← hh, Bd.state]; rfl
  show OEnds p e below s _ _ _ _
  refine own_by (fun t k => castTop (ef_10 m q0 q1) k) ?_
  show OEnds p e below s _ _ _ (s₁.setTop (mkF m 0 #[.val (.int q0), .val (.int q1)] []))
  refine own_by (fun _ k => XS.iloadN X0.here hx rfl (hb hby d10_0) rfl k) ?_
  show OEnds p e below s _ _ _ (s₁.setTop (mkF m 1 #[.val (.int q0), .val (.int q1)] [(.int q0)]))
  refine own_by (fun _ k => XS.sipush X0.here hx rfl (hb hby d10_1) k) ?_
  show OEnds p e below s _ _ _ (s₁.setTop (mkF m 4 #[.val (.int q0), .val (.int q1)] [(.int (365 : Int32)), (.int q0)]))
  refine own_by (fun _ k => XS.iloadN X0.here hx rfl (hb hby d10_4) rfl k) ?_
  show OEnds p e below s _ _ _ (s₁.setTop (mkF m 5 #[.val (.int q0), .val (.int q1)] [(.int q1), (.int (365 : Int32)), (.int q0)]))
  refine own_by (fun _ k => XS.imul X0.here hx rfl (hb hby d10_5) rfl k) ?_
  show OEnds p e below s _ _ _ (s₁.setTop (mkF m 6 #[.val (.int q0), .val (.int q1)] [(.int ((365 : Int32) * q1)), (.int q0)]))
  refine own_by (fun _ k => XS.iloadN X0.here hx rfl (hb hby d10_6) rfl k) ?_
  show OEnds p e below s _ _ _ (s₁.setTop (mkF m 7 #[.val (.int q0), .val (.int q1)] [(.int q1), (.int ((365 : Int32) * q1)), (.int q0)]))
  refine own_by (fun _ k => XS.iconst X0.here hx rfl (hb hby d10_7) k) ?_
  show OEnds p e below s _ _ _ (s₁.setTop (mkF m 8 #[.val (.int q0), .val (.int q1)] [(.int (4 : Int32)), (.int q1), (.int ((365 : Int32) * q1)), (.int q0)]))
  refine own_by (fun _ k => XS.idiv X0.here hx rfl (hb hby d10_8) rfl (by decide) k) ?_
  show OEnds p e below s _ _ _ (s₁.setTop (mkF m 9 #[.val (.int q0), .val (.int q1)] [(.int (q1 / (4 : Int32))), (.int ((365 : Int32) * q1)), (.int q0)]))
  refine own_by (fun _ k => XS.iadd X0.here hx rfl (hb hby d10_9) rfl k) ?_
  show OEnds p e below s _ _ _ (s₁.setTop (mkF m 10 #[.val (.int q0), .val (.int q1)] [(.int (((365 : Int32) * q1) + (q1 / (4 : Int32)))), (.int q0)]))
  refine own_by (fun _ k => XS.iloadN X0.here hx rfl (hb hby d10_10) rfl k) ?_
  show OEnds p e below s _ _ _ (s₁.setTop (mkF m 11 #[.val (.int q0), .val (.int q1)] [(.int q1), (.int (((365 : Int32) * q1) + (q1 / (4 : Int32)))), (.int q0)]))
  refine own_by (fun _ k => XS.bipush X0.here hx rfl (hb hby d10_11) k) ?_
  show OEnds p e below s _ _ _ (s₁.setTop (mkF m 13 #[.val (.int q0), .val (.int q1)] [(.int (100 : Int32)), (.int q1), (.int (((365 : Int32) * q1) + (q1 / (4 : Int32)))), (.int q0)]))
  refine own_by (fun _ k => XS.idiv X0.here hx rfl (hb hby d10_13) rfl (by decide) k) ?_
  show OEnds p e below s _ _ _ (s₁.setTop (mkF m 14 #[.val (.int q0), .val (.int q1)] [(.int (q1 / (100 : Int32))), (.int (((365 : Int32) * q1) + (q1 / (4 : Int32)))), (.int q0)]))
  refine own_by (fun _ k => XS.isub X0.here hx rfl (hb hby d10_14) rfl k) ?_
  show OEnds p e below s _ _ _ (s₁.setTop (mkF m 15 #[.val (.int q0), .val (.int q1)] [(.int ((((365 : Int32) * q1) + (q1 / (4 : Int32))) - (q1 / (100 : Int32)))), (.int q0)]))
  refine own_by (fun _ k => XS.isub X0.here hx rfl (hb hby d10_15) rfl k) ?_
  show OEnds p e below s _ _ _ (s₁.setTop (mkF m 16 #[.val (.int q0), .val (.int q1)] [(.int (q0 - ((((365 : Int32) * q1) + (q1 / (4 : Int32))) - (q1 / (100 : Int32)))))]))
  exact own_retI X0 hx hlk Bd.returns (hb hby d10_16) ⟨congrArg (fun z => some (Value.int z)) (Eq.symm (by rw [doYear] <;> rfl)), rfl, e0⟩ (Nat.le_refl _) (Nat.le_refl _)
theorem d5_0 : decode prog_18_method_5_code 0 = .ok (.lload_n 0, 1) := by decide +kernel
theorem d5_1 : decode prog_18_method_5_code 1 = .ok (.invokestatic 36, 3) := by decide +kernel
theorem d5_4 : decode prog_18_method_5_code 4 = .ok (.istore_n 2, 1) := by decide +kernel
theorem d5_5 : decode prog_18_method_5_code 5 = .ok (.iload_n 2, 1) := by decide +kernel
theorem d5_6 : decode prog_18_method_5_code 6 = .ok (.iload_n 2, 1) := by decide +kernel
theorem d5_7 : decode prog_18_method_5_code 7 = .ok (.invokestatic 40, 3) := by decide +kernel
theorem d5_10 : decode prog_18_method_5_code 10 = .ok (.invokestatic 44, 3) := by decide +kernel
theorem d5_13 : decode prog_18_method_5_code 13 = .ok (.istore_n 3, 1) := by decide +kernel
theorem d5_14 : decode prog_18_method_5_code 14 = .ok (.iconst 5, 1) := by decide +kernel
theorem d5_15 : decode prog_18_method_5_code 15 = .ok (.iload_n 3, 1) := by decide +kernel
theorem d5_16 : decode prog_18_method_5_code 16 = .ok (.imul, 1) := by decide +kernel
theorem d5_17 : decode prog_18_method_5_code 17 = .ok (.iconst 2, 1) := by decide +kernel
theorem d5_18 : decode prog_18_method_5_code 18 = .ok (.iadd, 1) := by decide +kernel
theorem d5_19 : decode prog_18_method_5_code 19 = .ok (.sipush 153, 3) := by decide +kernel
theorem d5_22 : decode prog_18_method_5_code 22 = .ok (.idiv, 1) := by decide +kernel
theorem d5_23 : decode prog_18_method_5_code 23 = .ok (.istore 4, 2) := by decide +kernel
theorem d5_25 : decode prog_18_method_5_code 25 = .ok (.iload_n 3, 1) := by decide +kernel
theorem d5_26 : decode prog_18_method_5_code 26 = .ok (.sipush 153, 3) := by decide +kernel
theorem d5_29 : decode prog_18_method_5_code 29 = .ok (.iload 4, 2) := by decide +kernel
theorem d5_31 : decode prog_18_method_5_code 31 = .ok (.imul, 1) := by decide +kernel
theorem d5_32 : decode prog_18_method_5_code 32 = .ok (.iconst 2, 1) := by decide +kernel
theorem d5_33 : decode prog_18_method_5_code 33 = .ok (.iadd, 1) := by decide +kernel
theorem d5_34 : decode prog_18_method_5_code 34 = .ok (.iconst 5, 1) := by decide +kernel
theorem d5_35 : decode prog_18_method_5_code 35 = .ok (.idiv, 1) := by decide +kernel
theorem d5_36 : decode prog_18_method_5_code 36 = .ok (.isub, 1) := by decide +kernel
theorem d5_37 : decode prog_18_method_5_code 37 = .ok (.iconst 1, 1) := by decide +kernel
theorem d5_38 : decode prog_18_method_5_code 38 = .ok (.iadd, 1) := by decide +kernel
theorem d5_39 : decode prog_18_method_5_code 39 = .ok (.ireturn, 1) := by decide +kernel
theorem pn_5 : plainName "com/example/exact_membership/exactmembership/model/EpochDays" = true := by first | (simp [plainName, overriddenIn]; done) | decide +kernel
theorem ef_5 (m : MethodId) (q0 : Int64) : entryFrame m #[(.long q0)] 5 = mkF m 0 #[.val (.long q0), .second, .unset, .unset, .unset] [] := by first | (simp [entryFrame, mkF, argsToLocals, Value.category]; done) | rfl
def doMonth_25 (v14_3 : Int32) (v25_4 : Int32) : Int32 := ((v14_3 - ((((153 : Int32) * v25_4) + (2 : Int32)) / (5 : Int32))) + (1 : Int32))
def doMonth_14 (v14_3 : Int32) : Int32 := (doMonth_25 v14_3 ((((5 : Int32) * v14_3) + (2 : Int32)) / (153 : Int32)))
def doMonth (q0 : Int64) : Int32 := (doMonth_14 (doYear (doEra q0) (yoEra (doEra q0))))
set_option maxRecDepth 65536 in
set_option maxHeartbeats 40000000 in
theorem rm_doMonth (l : Launch) (Z : State) (a0 : Array Value) (hw : ∀ d ∈ tables_1, d.before a0 Z = true) (ws : List Jvm.Cond) (q0 : Int64) (h0 : Heap) :
    MetFree l (⟨"com/example/exact_membership/exactmembership/model/EpochDays", "dayOfMonth", "(J)I"⟩ : MethodName) (head1 (Jvm.Cond.code (⟨"com/example/exact_membership/exactmembership/model/EpochDays", "dayOfMonth", "(J)I"⟩ : MethodName) prog_18_method_5_code 5 (some .int) :: ws) ({ frames := 3, cells := 0, slots := 0, locals := 44 } : Room)) (fun a U => a = #[(.long q0)] ∧ Z.Warmed39 U.vm ∧ U.heap = h0) (fun _ _ _ _ _ => True) (fun _ U o U' => ∃ v L, o = .returned v ∧ QP (Value.int (doMonth q0)) h0 v U'.heap L ∧ FrameEnd U o U' L 0 0) := by
  refine MetFree.of_bodySF (plainFor_of_name pn_5) hisR ?_
  intro p e s m args below meth c s₁ Bd hml0 hP hK
  obtain ⟨rfl, hZ, hh⟩ := hP
  have hx := Bd.exec
  have hby := Bd.bytes
  have hlk : meth.locks = false := Bd.notSynchronized
  have hml : c.maxLocals = 5 := hml0
  have hown : s.vm.findClass "com/example/exact_membership/exactmembership/model/EpochDays" = some m.cls := findClass_of_methodNamed Bd.named
  have X0 : Stand p l e ({ frames := 3, cells := 0, slots := 0, locals := 44 } : Room) s m #[(.long q0)] below meth c s₁ [] 0 0 := Stand.of_body Bd
  have e0 : s₁.heap = h0 := by rw [← hh, Bd.state]; rfl
  have bdoMonth_25 : ∀ (T : State) (X : Stand p l e ({ frames := 3, cells := 0, slots := 0, locals := 44 } : Room) s m #[(.long q0)] below meth c T [] 0 0) (eT : T.heap = h0) (v14_3 : Int32) (v25_4 : Int32), OEnds p e below s (QP (Value.int (doMonth_25 v14_3 v25_4)) h0) 0 0 (T.setTop (mkF m 25 #[.val (.long q0), .second, .val (.int (doEra q0)), .val (.int v14_3), .val (.int v25_4)] [])) := by
    intro T X eT v14_3 v25_4
    refine own_by (fun _ k => XS.iloadN X.here hx rfl (hb hby d5_25) rfl k) ?_
    show OEnds p e below s _ _ _ (T.setTop (mkF m 26 #[.val (.long q0), .second, .val (.int (doEra q0)), .val (.int v14_3), .val (.int v25_4)] [(.int v14_3)]))
    refine own_by (fun _ k => XS.sipush X.here hx rfl (hb hby d5_26) k) ?_
    show OEnds p e below s _ _ _ (T.setTop (mkF m 29 #[.val (.long q0), .second, .val (.int (doEra q0)), .val (.int v14_3), .val (.int v25_4)] [(.int (153 : Int32)), (.int v14_3)]))
    refine own_by (fun _ k => XS.iload X.here hx rfl (hb hby d5_29) rfl k) ?_
    show OEnds p e below s _ _ _ (T.setTop (mkF m 31 #[.val (.long q0), .second, .val (.int (doEra q0)), .val (.int v14_3), .val (.int v25_4)] [(.int v25_4), (.int (153 : Int32)), (.int v14_3)]))
    refine own_by (fun _ k => XS.imul X.here hx rfl (hb hby d5_31) rfl k) ?_
    show OEnds p e below s _ _ _ (T.setTop (mkF m 32 #[.val (.long q0), .second, .val (.int (doEra q0)), .val (.int v14_3), .val (.int v25_4)] [(.int ((153 : Int32) * v25_4)), (.int v14_3)]))
    refine own_by (fun _ k => XS.iconst X.here hx rfl (hb hby d5_32) k) ?_
    show OEnds p e below s _ _ _ (T.setTop (mkF m 33 #[.val (.long q0), .second, .val (.int (doEra q0)), .val (.int v14_3), .val (.int v25_4)] [(.int (2 : Int32)), (.int ((153 : Int32) * v25_4)), (.int v14_3)]))
    refine own_by (fun _ k => XS.iadd X.here hx rfl (hb hby d5_33) rfl k) ?_
    show OEnds p e below s _ _ _ (T.setTop (mkF m 34 #[.val (.long q0), .second, .val (.int (doEra q0)), .val (.int v14_3), .val (.int v25_4)] [(.int (((153 : Int32) * v25_4) + (2 : Int32))), (.int v14_3)]))
    refine own_by (fun _ k => XS.iconst X.here hx rfl (hb hby d5_34) k) ?_
    show OEnds p e below s _ _ _ (T.setTop (mkF m 35 #[.val (.long q0), .second, .val (.int (doEra q0)), .val (.int v14_3), .val (.int v25_4)] [(.int (5 : Int32)), (.int (((153 : Int32) * v25_4) + (2 : Int32))), (.int v14_3)]))
    refine own_by (fun _ k => XS.idiv X.here hx rfl (hb hby d5_35) rfl (by decide) k) ?_
    show OEnds p e below s _ _ _ (T.setTop (mkF m 36 #[.val (.long q0), .second, .val (.int (doEra q0)), .val (.int v14_3), .val (.int v25_4)] [(.int ((((153 : Int32) * v25_4) + (2 : Int32)) / (5 : Int32))), (.int v14_3)]))
    refine own_by (fun _ k => XS.isub X.here hx rfl (hb hby d5_36) rfl k) ?_
    show OEnds p e below s _ _ _ (T.setTop (mkF m 37 #[.val (.long q0), .second, .val (.int (doEra q0)), .val (.int v14_3), .val (.int v25_4)] [(.int (v14_3 - ((((153 : Int32) * v25_4) + (2 : Int32)) / (5 : Int32))))]))
    refine own_by (fun _ k => XS.iconst X.here hx rfl (hb hby d5_37) k) ?_
    show OEnds p e below s _ _ _ (T.setTop (mkF m 38 #[.val (.long q0), .second, .val (.int (doEra q0)), .val (.int v14_3), .val (.int v25_4)] [(.int (1 : Int32)), (.int (v14_3 - ((((153 : Int32) * v25_4) + (2 : Int32)) / (5 : Int32))))]))
    refine own_by (fun _ k => XS.iadd X.here hx rfl (hb hby d5_38) rfl k) ?_
    show OEnds p e below s _ _ _ (T.setTop (mkF m 39 #[.val (.long q0), .second, .val (.int (doEra q0)), .val (.int v14_3), .val (.int v25_4)] [(.int ((v14_3 - ((((153 : Int32) * v25_4) + (2 : Int32)) / (5 : Int32))) + (1 : Int32)))]))
    exact own_retI X hx hlk Bd.returns (hb hby d5_39) ⟨congrArg (fun z => some (Value.int z)) (Eq.symm (by rw [doMonth_25] <;> rfl)), rfl, eT⟩ (Nat.le_refl _) (Nat.le_refl _)
  have bdoMonth_14 : ∀ (T : State) (X : Stand p l e ({ frames := 3, cells := 0, slots := 0, locals := 44 } : Room) s m #[(.long q0)] below meth c T [] 0 0) (eT : T.heap = h0) (v14_3 : Int32), OEnds p e below s (QP (Value.int (doMonth_14 v14_3)) h0) 0 0 (T.setTop (mkF m 14 #[.val (.long q0), .second, .val (.int (doEra q0)), .val (.int v14_3), .unset] [])) := by
    intro T X eT v14_3
    refine own_by (fun _ k => XS.iconst X.here hx rfl (hb hby d5_14) k) ?_
    show OEnds p e below s _ _ _ (T.setTop (mkF m 15 #[.val (.long q0), .second, .val (.int (doEra q0)), .val (.int v14_3), .unset] [(.int (5 : Int32))]))
    refine own_by (fun _ k => XS.iloadN X.here hx rfl (hb hby d5_15) rfl k) ?_
    show OEnds p e below s _ _ _ (T.setTop (mkF m 16 #[.val (.long q0), .second, .val (.int (doEra q0)), .val (.int v14_3), .unset] [(.int v14_3), (.int (5 : Int32))]))
    refine own_by (fun _ k => XS.imul X.here hx rfl (hb hby d5_16) rfl k) ?_
    show OEnds p e below s _ _ _ (T.setTop (mkF m 17 #[.val (.long q0), .second, .val (.int (doEra q0)), .val (.int v14_3), .unset] [(.int ((5 : Int32) * v14_3))]))
    refine own_by (fun _ k => XS.iconst X.here hx rfl (hb hby d5_17) k) ?_
    show OEnds p e below s _ _ _ (T.setTop (mkF m 18 #[.val (.long q0), .second, .val (.int (doEra q0)), .val (.int v14_3), .unset] [(.int (2 : Int32)), (.int ((5 : Int32) * v14_3))]))
    refine own_by (fun _ k => XS.iadd X.here hx rfl (hb hby d5_18) rfl k) ?_
    show OEnds p e below s _ _ _ (T.setTop (mkF m 19 #[.val (.long q0), .second, .val (.int (doEra q0)), .val (.int v14_3), .unset] [(.int (((5 : Int32) * v14_3) + (2 : Int32)))]))
    refine own_by (fun _ k => XS.sipush X.here hx rfl (hb hby d5_19) k) ?_
    show OEnds p e below s _ _ _ (T.setTop (mkF m 22 #[.val (.long q0), .second, .val (.int (doEra q0)), .val (.int v14_3), .unset] [(.int (153 : Int32)), (.int (((5 : Int32) * v14_3) + (2 : Int32)))]))
    refine own_by (fun _ k => XS.idiv X.here hx rfl (hb hby d5_22) rfl (by decide) k) ?_
    show OEnds p e below s _ _ _ (T.setTop (mkF m 23 #[.val (.long q0), .second, .val (.int (doEra q0)), .val (.int v14_3), .unset] [(.int ((((5 : Int32) * v14_3) + (2 : Int32)) / (153 : Int32)))]))
    refine own_by (fun _ k => XS.istore X.here hx rfl (hb hby d5_23) rfl (l' := #[.val (.long q0), .second, .val (.int (doEra q0)), .val (.int v14_3), .val (.int ((((5 : Int32) * v14_3) + (2 : Int32)) / (153 : Int32)))]) rfl k) ?_
    show OEnds p e below s _ _ _ (T.setTop (mkF m 25 #[.val (.long q0), .second, .val (.int (doEra q0)), .val (.int v14_3), .val (.int ((((5 : Int32) * v14_3) + (2 : Int32)) / (153 : Int32)))] []))
    exact own_eq (congrArg Value.int (by rw [doMonth_14] <;> rfl)) (bdoMonth_25 T X eT v14_3 ((((5 : Int32) * v14_3) + (2 : Int32)) / (153 : Int32)))
  show OEnds p e below s _ _ _ _
  refine own_by (fun t k => castTop (ef_5 m q0) k) ?_
  show OEnds p e below s _ _ _ (s₁.setTop (mkF m 0 #[.val (.long q0), .second, .unset, .unset, .unset] []))
  refine own_by (fun _ k => XS.lloadN X0.here hx rfl (hb hby d5_0) rfl k) ?_
  show OEnds p e below s _ _ _ (s₁.setTop (mkF m 1 #[.val (.long q0), .second, .unset, .unset, .unset] [(.long q0)]))
  obtain ⟨T4, X4, e4, st4⟩ := own_callP X0 hx hZ (y := (⟨"com/example/exact_membership/exactmembership/model/EpochDays", "dayOfEra", "(J)I"⟩ : MethodName)) hown (hw _ (List.mem_of_getElem? (i := 25) rfl)) (hw _ (List.mem_of_getElem? (i := 26) rfl)) (hw _ (List.mem_of_getElem? (i := 7) rfl)) (hw _ (List.mem_of_getElem? (i := 27) rfl)) (by decide) (rm_doEra l Z a0 hw [] q0 h0) e0 (g := (mkF m 1 #[.val (.long q0), .second, .unset, .unset, .unset] [(.long q0)])) rfl (by rw [hml]; rfl) (argsL := [(.long q0)]) (rest := []) (lenOf pd_pJrI rfl) rfl (W := 0) (by show 2 * 0 + _ ≤ _; exact Nat.le_of_eq rfl) (hb hby d5_1) (by decide) (by decide) (by decide) (by decide)
  refine own_by st4 ?_
  show OEnds p e below s _ _ _ (T4.setTop (mkF m 4 #[.val (.long q0), .second, .unset, .unset, .unset] [(.int (doEra q0))]))
  refine own_by (fun _ k => XS.istoreN X4.here hx rfl (hb hby d5_4) rfl (l' := #[.val (.long q0), .second, .val (.int (doEra q0)), .unset, .unset]) rfl k) ?_
  show OEnds p e below s _ _ _ (T4.setTop (mkF m 5 #[.val (.long q0), .second, .val (.int (doEra q0)), .unset, .unset] []))
  refine own_by (fun _ k => XS.iloadN X4.here hx rfl (hb hby d5_5) rfl k) ?_
  show OEnds p e below s _ _ _ (T4.setTop (mkF m 6 #[.val (.long q0), .second, .val (.int (doEra q0)), .unset, .unset] [(.int (doEra q0))]))
  refine own_by (fun _ k => XS.iloadN X4.here hx rfl (hb hby d5_6) rfl k) ?_
  show OEnds p e below s _ _ _ (T4.setTop (mkF m 7 #[.val (.long q0), .second, .val (.int (doEra q0)), .unset, .unset] [(.int (doEra q0)), (.int (doEra q0))]))
  obtain ⟨T5, X5, e5, st5⟩ := own_callP X4 hx hZ (y := (⟨"com/example/exact_membership/exactmembership/model/EpochDays", "yearOfEra", "(I)I"⟩ : MethodName)) hown (hw _ (List.mem_of_getElem? (i := 35) rfl)) (hw _ (List.mem_of_getElem? (i := 36) rfl)) (hw _ (List.mem_of_getElem? (i := 7) rfl)) (hw _ (List.mem_of_getElem? (i := 37) rfl)) (by decide) (rm_yoEra l Z a0 hw [] (doEra q0) h0) e4 (g := (mkF m 7 #[.val (.long q0), .second, .val (.int (doEra q0)), .unset, .unset] [(.int (doEra q0)), (.int (doEra q0))])) rfl (by rw [hml]; rfl) (argsL := [(.int (doEra q0))]) (rest := [(.int (doEra q0))]) (lenOf pd_pIrI rfl) rfl (W := 1) (by show 2 * 0 + _ ≤ _; exact Nat.le_of_eq rfl) (hb hby d5_7) (by decide) (by decide) (by decide) (by decide)
  refine own_by st5 ?_
  show OEnds p e below s _ _ _ (T5.setTop (mkF m 10 #[.val (.long q0), .second, .val (.int (doEra q0)), .unset, .unset] [(.int (yoEra (doEra q0))), (.int (doEra q0))]))
  obtain ⟨T6, X6, e6, st6⟩ := own_callP X5 hx hZ (y := (⟨"com/example/exact_membership/exactmembership/model/EpochDays", "dayOfYear", "(II)I"⟩ : MethodName)) hown (hw _ (List.mem_of_getElem? (i := 40) rfl)) (hw _ (List.mem_of_getElem? (i := 41) rfl)) (hw _ (List.mem_of_getElem? (i := 7) rfl)) (hw _ (List.mem_of_getElem? (i := 42) rfl)) (by decide) (rm_doYear l Z a0 hw [] (doEra q0) (yoEra (doEra q0)) h0) e5 (g := (mkF m 10 #[.val (.long q0), .second, .val (.int (doEra q0)), .unset, .unset] [(.int (yoEra (doEra q0))), (.int (doEra q0))])) rfl (by rw [hml]; rfl) (argsL := [(.int (doEra q0)), (.int (yoEra (doEra q0)))]) (rest := []) (lenOf pd_pIIrI rfl) rfl (W := 0) (by show 2 * 0 + _ ≤ _; exact Nat.le_of_eq rfl) (hb hby d5_10) (by decide) (by decide) (by decide) (by decide)
  refine own_by st6 ?_
  show OEnds p e below s _ _ _ (T6.setTop (mkF m 13 #[.val (.long q0), .second, .val (.int (doEra q0)), .unset, .unset] [(.int (doYear (doEra q0) (yoEra (doEra q0))))]))
  refine own_by (fun _ k => XS.istoreN X6.here hx rfl (hb hby d5_13) rfl (l' := #[.val (.long q0), .second, .val (.int (doEra q0)), .val (.int (doYear (doEra q0) (yoEra (doEra q0)))), .unset]) rfl k) ?_
  show OEnds p e below s _ _ _ (T6.setTop (mkF m 14 #[.val (.long q0), .second, .val (.int (doEra q0)), .val (.int (doYear (doEra q0) (yoEra (doEra q0)))), .unset] []))
  exact own_eq (congrArg Value.int (by rw [doMonth] <;> rfl)) (bdoMonth_14 T6 X6 e6 (doYear (doEra q0) (yoEra (doEra q0))))
theorem mlen_ne (q0 : Int64) (q1 : Int32) : mlen q0 q1 ≠ 0 := by
  simp only [mlen, mlen_35, mlen_39, mlen_40, mlen_74]
  repeat' split
  all_goals decide
theorem pn_0 : plainName "com/example/exact_membership/exactmembership/model/EpochDaysDayOfMonthPinLaw" = true := by first | (simp [plainName, overriddenIn]; done) | decide +kernel
theorem ef_0 (m : MethodId) (q0 : Int64) (q1 : Int32) (q2 : Int32) : entryFrame m #[(.long q0), (.int q1), (.int q2)] maxLocals = mkF m 0 #[.val (.long q0), .second, .val (.int q1), .val (.int q2), .unset, .unset, .unset, .unset, .unset, .unset, .unset] [] := by first | (simp [entryFrame, mkF, argsToLocals, Value.category, maxLocals]; done) | rfl
def law_63 (v63_s0 : Int32) : Int32 := (nar .boolean v63_s0)
def law_48 (v37_8 : Int32) (v48_9 : Int64) : Int32 := if (doMonth v48_9) = v37_8 then (law_63 (1 : Int32)) else (law_63 (0 : Int32))
def law_37 (v6_4 : Int64) (v17_6 : Int32) (v37_8 : Int32) : Int32 := (law_48 v37_8 (epof v6_4 v17_6 v37_8))
def law_17 (q2 : Int32) (v6_4 : Int64) (v17_6 : Int32) : Int32 := (law_37 v6_4 v17_6 (((q2 &&& (2147483647 : Int32)) % (mlen v6_4 v17_6)) + (1 : Int32)))
def law_6 (q1 : Int32) (q2 : Int32) (v6_4 : Int64) : Int32 := (law_17 q2 v6_4 (((q1 &&& (2147483647 : Int32)) % (12 : Int32)) + (1 : Int32)))
def law (q0 : Int64) (q1 : Int32) (q2 : Int32) : Int32 := (law_6 q1 q2 (q0 >>> ((13 : Int32) &&& 0x3f).toInt64))
set_option maxRecDepth 65536 in
set_option maxHeartbeats 40000000 in
theorem rm_law (l : Launch) (Z : State) (a0 : Array Value) (hw : ∀ d ∈ tables_1, d.before a0 Z = true) (ws : List Jvm.Cond) (q0 : Int64) (q1 : Int32) (q2 : Int32) (h0 : Heap) :
    MetFree l x (head1 (Jvm.Cond.code x code maxLocals ret :: ws) room_1) (fun a U => a = #[(.long q0), (.int q1), (.int q2)] ∧ Z.Warmed39 U.vm ∧ U.heap = h0) (fun _ _ _ _ _ => True) (fun _ U o U' => ∃ v L, o = .returned v ∧ QP (Value.int (law q0 q1 q2)) h0 v U'.heap L ∧ FrameEnd U o U' L 0 0) := by
  refine MetFree.of_bodySF (plainFor_of_name pn_0) hisR ?_
  intro p e s m args below meth c s₁ Bd hml0 hP hK
  obtain ⟨rfl, hZ, hh⟩ := hP
  have hx := Bd.exec
  have hby := Bd.bytes
  have hlk : meth.locks = false := Bd.notSynchronized
  have hml : c.maxLocals = 11 := hml0
  have hown : s.vm.findClass "com/example/exact_membership/exactmembership/model/EpochDaysDayOfMonthPinLaw" = some m.cls := findClass_of_methodNamed Bd.named
  have X0 : Stand p l e room_1 s m #[(.long q0), (.int q1), (.int q2)] below meth c s₁ [] 0 0 := Stand.of_body Bd
  have e0 : s₁.heap = h0 := by rw [← hh, Bd.state]; rfl
  have blaw_63 : ∀ (T : State) (X : Stand p l e room_1 s m #[(.long q0), (.int q1), (.int q2)] below meth c T [] 0 0) (eT : T.heap = h0) (v6_4 : Int64) (v17_6 : Int32) (v37_8 : Int32) (v48_9 : Int64) (v63_s0 : Int32), OEnds p e below s (QP (Value.int (law_63 v63_s0)) h0) 0 0 (T.setTop (mkF m 63 #[.val (.long q0), .second, .val (.int q1), .val (.int q2), .val (.long v6_4), .second, .val (.int v17_6), .val (.int (mlen v6_4 v17_6)), .val (.int v37_8), .val (.long v48_9), .second] [(.int v63_s0)])) := by
    intro T X eT v6_4 v17_6 v37_8 v48_9 v63_s0
    exact own_retN X hx hlk .boolean (by simp) Bd.returns (hb hby at_63) ⟨congrArg (fun z => some (Value.int z)) (Eq.symm (by rw [law_63] <;> rfl)), rfl, eT⟩ (Nat.le_refl _) (Nat.le_refl _)
  have blaw_48 : ∀ (T : State) (X : Stand p l e room_1 s m #[(.long q0), (.int q1), (.int q2)] below meth c T [] 0 0) (eT : T.heap = h0) (v6_4 : Int64) (v17_6 : Int32) (v37_8 : Int32) (v48_9 : Int64), OEnds p e below s (QP (Value.int (law_48 v37_8 v48_9)) h0) 0 0 (T.setTop (mkF m 48 #[.val (.long q0), .second, .val (.int q1), .val (.int q2), .val (.long v6_4), .second, .val (.int v17_6), .val (.int (mlen v6_4 v17_6)), .val (.int v37_8), .val (.long v48_9), .second] [])) := by
    intro T X eT v6_4 v17_6 v37_8 v48_9
    refine own_by (fun _ k => XS.lload X.here hx rfl (hb hby at_48) rfl k) ?_
    show OEnds p e below s _ _ _ (T.setTop (mkF m 50 #[.val (.long q0), .second, .val (.int q1), .val (.int q2), .val (.long v6_4), .second, .val (.int v17_6), .val (.int (mlen v6_4 v17_6)), .val (.int v37_8), .val (.long v48_9), .second] [(.long v48_9)]))
    obtain ⟨T4, X4, e4, st4⟩ := own_callP X hx hZ (y := (⟨"com/example/exact_membership/exactmembership/model/EpochDays", "dayOfMonth", "(J)I"⟩ : MethodName)) hown (hw _ (List.mem_of_getElem? (i := 22) rfl)) (hw _ (List.mem_of_getElem? (i := 23) rfl)) (hw _ (List.mem_of_getElem? (i := 7) rfl)) (hw _ (List.mem_of_getElem? (i := 24) rfl)) (by decide) (rm_doMonth l Z a0 hw [] v48_9 h0) eT (g := (mkF m 50 #[.val (.long q0), .second, .val (.int q1), .val (.int q2), .val (.long v6_4), .second, .val (.int v17_6), .val (.int (mlen v6_4 v17_6)), .val (.int v37_8), .val (.long v48_9), .second] [(.long v48_9)])) rfl (by rw [hml]; rfl) (argsL := [(.long v48_9)]) (rest := []) (lenOf pd_pJrI rfl) rfl (W := 0) (by show 2 * 0 + _ ≤ _; exact Nat.le_of_eq rfl) (hb hby at_50) (by decide) (by decide) (by decide) (by decide)
    refine own_by st4 ?_
    show OEnds p e below s _ _ _ (T4.setTop (mkF m 53 #[.val (.long q0), .second, .val (.int q1), .val (.int q2), .val (.long v6_4), .second, .val (.int v17_6), .val (.int (mlen v6_4 v17_6)), .val (.int v37_8), .val (.long v48_9), .second] [(.int (doMonth v48_9))]))
    refine own_by (fun _ k => XS.iload X4.here hx rfl (hb hby at_53) rfl k) ?_
    show OEnds p e below s _ _ _ (T4.setTop (mkF m 55 #[.val (.long q0), .second, .val (.int q1), .val (.int q2), .val (.long v6_4), .second, .val (.int v17_6), .val (.int (mlen v6_4 v17_6)), .val (.int v37_8), .val (.long v48_9), .second] [(.int v37_8), (.int (doMonth v48_9))]))
    by_cases hc55 : (doMonth v48_9) = v37_8
    · refine own_by (fun _ k => XS.icmpNo X4.here hx rfl (hb hby at_55) rfl (teq hc55).2 k) ?_
      show OEnds p e below s _ _ _ (T4.setTop (mkF m 58 #[.val (.long q0), .second, .val (.int q1), .val (.int q2), .val (.long v6_4), .second, .val (.int v17_6), .val (.int (mlen v6_4 v17_6)), .val (.int v37_8), .val (.long v48_9), .second] []))
      refine own_by (fun _ k => XS.iconst X4.here hx rfl (hb hby at_58) k) ?_
      show OEnds p e below s _ _ _ (T4.setTop (mkF m 59 #[.val (.long q0), .second, .val (.int q1), .val (.int q2), .val (.long v6_4), .second, .val (.int v17_6), .val (.int (mlen v6_4 v17_6)), .val (.int v37_8), .val (.long v48_9), .second] [(.int (1 : Int32))]))
      refine own_by (fun _ k => XS.goto X4.here hx rfl (pc0 := 59) (pc' := 63) rfl (hb hby at_59) (by decide) (by decide) k) ?_
      show OEnds p e below s _ _ _ (T4.setTop (mkF m 63 #[.val (.long q0), .second, .val (.int q1), .val (.int q2), .val (.long v6_4), .second, .val (.int v17_6), .val (.int (mlen v6_4 v17_6)), .val (.int v37_8), .val (.long v48_9), .second] [(.int (1 : Int32))]))
      exact own_eq (congrArg Value.int (by rw [law_48, if_pos hc55] <;> rfl)) (blaw_63 T4 X4 e4 v6_4 v17_6 v37_8 v48_9 (1 : Int32))
    · refine own_by (fun _ k => XS.icmpYes X4.here hx rfl (pc0 := 55) (pc' := 62) rfl (hb hby at_55) rfl (feq hc55).2 (by decide) (by decide) k) ?_
      show OEnds p e below s _ _ _ (T4.setTop (mkF m 62 #[.val (.long q0), .second, .val (.int q1), .val (.int q2), .val (.long v6_4), .second, .val (.int v17_6), .val (.int (mlen v6_4 v17_6)), .val (.int v37_8), .val (.long v48_9), .second] []))
      refine own_by (fun _ k => XS.iconst X4.here hx rfl (hb hby at_62) k) ?_
      show OEnds p e below s _ _ _ (T4.setTop (mkF m 63 #[.val (.long q0), .second, .val (.int q1), .val (.int q2), .val (.long v6_4), .second, .val (.int v17_6), .val (.int (mlen v6_4 v17_6)), .val (.int v37_8), .val (.long v48_9), .second] [(.int (0 : Int32))]))
      exact own_eq (congrArg Value.int (by rw [law_48, if_neg hc55] <;> rfl)) (blaw_63 T4 X4 e4 v6_4 v17_6 v37_8 v48_9 (0 : Int32))
  have blaw_37 : ∀ (T : State) (X : Stand p l e room_1 s m #[(.long q0), (.int q1), (.int q2)] below meth c T [] 0 0) (eT : T.heap = h0) (v6_4 : Int64) (v17_6 : Int32) (v37_8 : Int32), OEnds p e below s (QP (Value.int (law_37 v6_4 v17_6 v37_8)) h0) 0 0 (T.setTop (mkF m 37 #[.val (.long q0), .second, .val (.int q1), .val (.int q2), .val (.long v6_4), .second, .val (.int v17_6), .val (.int (mlen v6_4 v17_6)), .val (.int v37_8), .unset, .unset] [])) := by
    intro T X eT v6_4 v17_6 v37_8
    refine own_by (fun _ k => XS.lload X.here hx rfl (hb hby at_37) rfl k) ?_
    show OEnds p e below s _ _ _ (T.setTop (mkF m 39 #[.val (.long q0), .second, .val (.int q1), .val (.int q2), .val (.long v6_4), .second, .val (.int v17_6), .val (.int (mlen v6_4 v17_6)), .val (.int v37_8), .unset, .unset] [(.long v6_4)]))
    refine own_by (fun _ k => XS.iload X.here hx rfl (hb hby at_39) rfl k) ?_
    show OEnds p e below s _ _ _ (T.setTop (mkF m 41 #[.val (.long q0), .second, .val (.int q1), .val (.int q2), .val (.long v6_4), .second, .val (.int v17_6), .val (.int (mlen v6_4 v17_6)), .val (.int v37_8), .unset, .unset] [(.int v17_6), (.long v6_4)]))
    refine own_by (fun _ k => XS.iload X.here hx rfl (hb hby at_41) rfl k) ?_
    show OEnds p e below s _ _ _ (T.setTop (mkF m 43 #[.val (.long q0), .second, .val (.int q1), .val (.int q2), .val (.long v6_4), .second, .val (.int v17_6), .val (.int (mlen v6_4 v17_6)), .val (.int v37_8), .unset, .unset] [(.int v37_8), (.int v17_6), (.long v6_4)]))
    obtain ⟨T5, X5, e5, st5⟩ := own_callP X hx hZ (y := (⟨"com/example/exact_membership/exactmembership/model/EpochDays", "of", "(JII)J"⟩ : MethodName)) hown (hw _ (List.mem_of_getElem? (i := 5) rfl)) (hw _ (List.mem_of_getElem? (i := 6) rfl)) (hw _ (List.mem_of_getElem? (i := 7) rfl)) (hw _ (List.mem_of_getElem? (i := 8) rfl)) (by decide) (rm_epof l Z a0 hw [] v6_4 v17_6 v37_8 h0) eT (g := (mkF m 43 #[.val (.long q0), .second, .val (.int q1), .val (.int q2), .val (.long v6_4), .second, .val (.int v17_6), .val (.int (mlen v6_4 v17_6)), .val (.int v37_8), .unset, .unset] [(.int v37_8), (.int v17_6), (.long v6_4)])) rfl (by rw [hml]; rfl) (argsL := [(.long v6_4), (.int v17_6), (.int v37_8)]) (rest := []) (lenOf pd_pJIIrJ rfl) rfl (W := 0) (by show 2 * 0 + _ ≤ _; exact Nat.le_of_eq rfl) (hb hby at_43) (by decide) (by decide) (by decide) (by decide)
    refine own_by st5 ?_
    show OEnds p e below s _ _ _ (T5.setTop (mkF m 46 #[.val (.long q0), .second, .val (.int q1), .val (.int q2), .val (.long v6_4), .second, .val (.int v17_6), .val (.int (mlen v6_4 v17_6)), .val (.int v37_8), .unset, .unset] [(.long (epof v6_4 v17_6 v37_8))]))
    refine own_by (fun _ k => XS.lstore X5.here hx rfl (hb hby at_46) rfl (l' := #[.val (.long q0), .second, .val (.int q1), .val (.int q2), .val (.long v6_4), .second, .val (.int v17_6), .val (.int (mlen v6_4 v17_6)), .val (.int v37_8), .val (.long (epof v6_4 v17_6 v37_8)), .second]) rfl k) ?_
    show OEnds p e below s _ _ _ (T5.setTop (mkF m 48 #[.val (.long q0), .second, .val (.int q1), .val (.int q2), .val (.long v6_4), .second, .val (.int v17_6), .val (.int (mlen v6_4 v17_6)), .val (.int v37_8), .val (.long (epof v6_4 v17_6 v37_8)), .second] []))
    exact own_eq (congrArg Value.int (by rw [law_37] <;> rfl)) (blaw_48 T5 X5 e5 v6_4 v17_6 v37_8 (epof v6_4 v17_6 v37_8))
  have blaw_17 : ∀ (T : State) (X : Stand p l e room_1 s m #[(.long q0), (.int q1), (.int q2)] below meth c T [] 0 0) (eT : T.heap = h0) (v6_4 : Int64) (v17_6 : Int32), OEnds p e below s (QP (Value.int (law_17 q2 v6_4 v17_6)) h0) 0 0 (T.setTop (mkF m 17 #[.val (.long q0), .second, .val (.int q1), .val (.int q2), .val (.long v6_4), .second, .val (.int v17_6), .unset, .unset, .unset, .unset] [])) := by
    intro T X eT v6_4 v17_6
    refine own_by (fun _ k => XS.lload X.here hx rfl (hb hby at_17) rfl k) ?_
    show OEnds p e below s _ _ _ (T.setTop (mkF m 19 #[.val (.long q0), .second, .val (.int q1), .val (.int q2), .val (.long v6_4), .second, .val (.int v17_6), .unset, .unset, .unset, .unset] [(.long v6_4)]))
    refine own_by (fun _ k => XS.iload X.here hx rfl (hb hby at_19) rfl k) ?_
    show OEnds p e below s _ _ _ (T.setTop (mkF m 21 #[.val (.long q0), .second, .val (.int q1), .val (.int q2), .val (.long v6_4), .second, .val (.int v17_6), .unset, .unset, .unset, .unset] [(.int v17_6), (.long v6_4)]))
    obtain ⟨T6, X6, e6, st6⟩ := own_callP X hx hZ (y := (⟨"com/example/exact_membership/exactmembership/model/EpochDaysDayOfMonthPinLaw", "monthLength", "(JI)I"⟩ : MethodName)) hown (hw _ (List.mem_of_getElem? (i := 1) rfl)) (hw _ (List.mem_of_getElem? (i := 2) rfl)) (hw _ (List.mem_of_getElem? (i := 3) rfl)) (hw _ (List.mem_of_getElem? (i := 4) rfl)) (by decide) (rm_mlen l Z a0 hw [] v6_4 v17_6 h0) eT (g := (mkF m 21 #[.val (.long q0), .second, .val (.int q1), .val (.int q2), .val (.long v6_4), .second, .val (.int v17_6), .unset, .unset, .unset, .unset] [(.int v17_6), (.long v6_4)])) rfl (by rw [hml]; rfl) (argsL := [(.long v6_4), (.int v17_6)]) (rest := []) (lenOf pd_pJIrI rfl) rfl (W := 0) (by show 2 * 0 + _ ≤ _; exact Nat.le_of_eq rfl) (hb hby at_21) (by decide) (by decide) (by decide) (by decide)
    refine own_by st6 ?_
    show OEnds p e below s _ _ _ (T6.setTop (mkF m 24 #[.val (.long q0), .second, .val (.int q1), .val (.int q2), .val (.long v6_4), .second, .val (.int v17_6), .unset, .unset, .unset, .unset] [(.int (mlen v6_4 v17_6))]))
    refine own_by (fun _ k => XS.istore X6.here hx rfl (hb hby at_24) rfl (l' := #[.val (.long q0), .second, .val (.int q1), .val (.int q2), .val (.long v6_4), .second, .val (.int v17_6), .val (.int (mlen v6_4 v17_6)), .unset, .unset, .unset]) rfl k) ?_
    show OEnds p e below s _ _ _ (T6.setTop (mkF m 26 #[.val (.long q0), .second, .val (.int q1), .val (.int q2), .val (.long v6_4), .second, .val (.int v17_6), .val (.int (mlen v6_4 v17_6)), .unset, .unset, .unset] []))
    refine own_by (fun _ k => XS.iloadN X6.here hx rfl (hb hby at_26) rfl k) ?_
    show OEnds p e below s _ _ _ (T6.setTop (mkF m 27 #[.val (.long q0), .second, .val (.int q1), .val (.int q2), .val (.long v6_4), .second, .val (.int v17_6), .val (.int (mlen v6_4 v17_6)), .unset, .unset, .unset] [(.int q2)]))
    refine own_by (X6.ldcInt hx hown (mvT hZ (hw _ (List.mem_of_getElem? (i := 0) rfl))) (g := (mkF m 27 #[.val (.long q0), .second, .val (.int q1), .val (.int q2), .val (.long v6_4), .second, .val (.int v17_6), .val (.int (mlen v6_4 v17_6)), .unset, .unset, .unset] [(.int q2)])) rfl (hb hby at_27)) ?_
    show OEnds p e below s _ _ _ (T6.setTop (mkF m 29 #[.val (.long q0), .second, .val (.int q1), .val (.int q2), .val (.long v6_4), .second, .val (.int v17_6), .val (.int (mlen v6_4 v17_6)), .unset, .unset, .unset] [(.int (2147483647 : Int32)), (.int q2)]))
    refine own_by (fun _ k => XS.iand X6.here hx rfl (hb hby at_29) rfl k) ?_
    show OEnds p e below s _ _ _ (T6.setTop (mkF m 30 #[.val (.long q0), .second, .val (.int q1), .val (.int q2), .val (.long v6_4), .second, .val (.int v17_6), .val (.int (mlen v6_4 v17_6)), .unset, .unset, .unset] [(.int (q2 &&& (2147483647 : Int32)))]))
    refine own_by (fun _ k => XS.iload X6.here hx rfl (hb hby at_30) rfl k) ?_
    show OEnds p e below s _ _ _ (T6.setTop (mkF m 32 #[.val (.long q0), .second, .val (.int q1), .val (.int q2), .val (.long v6_4), .second, .val (.int v17_6), .val (.int (mlen v6_4 v17_6)), .unset, .unset, .unset] [(.int (mlen v6_4 v17_6)), (.int (q2 &&& (2147483647 : Int32)))]))
    refine own_by (fun _ k => iremM X6 hx rfl (hb hby at_32) rfl (mlen_ne _ _) k) ?_
    show OEnds p e below s _ _ _ (T6.setTop (mkF m 33 #[.val (.long q0), .second, .val (.int q1), .val (.int q2), .val (.long v6_4), .second, .val (.int v17_6), .val (.int (mlen v6_4 v17_6)), .unset, .unset, .unset] [(.int ((q2 &&& (2147483647 : Int32)) % (mlen v6_4 v17_6)))]))
    refine own_by (fun _ k => XS.iconst X6.here hx rfl (hb hby at_33) k) ?_
    show OEnds p e below s _ _ _ (T6.setTop (mkF m 34 #[.val (.long q0), .second, .val (.int q1), .val (.int q2), .val (.long v6_4), .second, .val (.int v17_6), .val (.int (mlen v6_4 v17_6)), .unset, .unset, .unset] [(.int (1 : Int32)), (.int ((q2 &&& (2147483647 : Int32)) % (mlen v6_4 v17_6)))]))
    refine own_by (fun _ k => XS.iadd X6.here hx rfl (hb hby at_34) rfl k) ?_
    show OEnds p e below s _ _ _ (T6.setTop (mkF m 35 #[.val (.long q0), .second, .val (.int q1), .val (.int q2), .val (.long v6_4), .second, .val (.int v17_6), .val (.int (mlen v6_4 v17_6)), .unset, .unset, .unset] [(.int (((q2 &&& (2147483647 : Int32)) % (mlen v6_4 v17_6)) + (1 : Int32)))]))
    refine own_by (fun _ k => XS.istore X6.here hx rfl (hb hby at_35) rfl (l' := #[.val (.long q0), .second, .val (.int q1), .val (.int q2), .val (.long v6_4), .second, .val (.int v17_6), .val (.int (mlen v6_4 v17_6)), .val (.int (((q2 &&& (2147483647 : Int32)) % (mlen v6_4 v17_6)) + (1 : Int32))), .unset, .unset]) rfl k) ?_
    show OEnds p e below s _ _ _ (T6.setTop (mkF m 37 #[.val (.long q0), .second, .val (.int q1), .val (.int q2), .val (.long v6_4), .second, .val (.int v17_6), .val (.int (mlen v6_4 v17_6)), .val (.int (((q2 &&& (2147483647 : Int32)) % (mlen v6_4 v17_6)) + (1 : Int32))), .unset, .unset] []))
    exact own_eq (congrArg Value.int (by rw [law_17] <;> rfl)) (blaw_37 T6 X6 e6 v6_4 v17_6 (((q2 &&& (2147483647 : Int32)) % (mlen v6_4 v17_6)) + (1 : Int32)))
  have blaw_6 : ∀ (T : State) (X : Stand p l e room_1 s m #[(.long q0), (.int q1), (.int q2)] below meth c T [] 0 0) (eT : T.heap = h0) (v6_4 : Int64), OEnds p e below s (QP (Value.int (law_6 q1 q2 v6_4)) h0) 0 0 (T.setTop (mkF m 6 #[.val (.long q0), .second, .val (.int q1), .val (.int q2), .val (.long v6_4), .second, .unset, .unset, .unset, .unset, .unset] [])) := by
    intro T X eT v6_4
    refine own_by (fun _ k => XS.iloadN X.here hx rfl (hb hby at_6) rfl k) ?_
    show OEnds p e below s _ _ _ (T.setTop (mkF m 7 #[.val (.long q0), .second, .val (.int q1), .val (.int q2), .val (.long v6_4), .second, .unset, .unset, .unset, .unset, .unset] [(.int q1)]))
    refine own_by (X.ldcInt hx hown (mvT hZ (hw _ (List.mem_of_getElem? (i := 0) rfl))) (g := (mkF m 7 #[.val (.long q0), .second, .val (.int q1), .val (.int q2), .val (.long v6_4), .second, .unset, .unset, .unset, .unset, .unset] [(.int q1)])) rfl (hb hby at_7)) ?_
    show OEnds p e below s _ _ _ (T.setTop (mkF m 9 #[.val (.long q0), .second, .val (.int q1), .val (.int q2), .val (.long v6_4), .second, .unset, .unset, .unset, .unset, .unset] [(.int (2147483647 : Int32)), (.int q1)]))
    refine own_by (fun _ k => XS.iand X.here hx rfl (hb hby at_9) rfl k) ?_
    show OEnds p e below s _ _ _ (T.setTop (mkF m 10 #[.val (.long q0), .second, .val (.int q1), .val (.int q2), .val (.long v6_4), .second, .unset, .unset, .unset, .unset, .unset] [(.int (q1 &&& (2147483647 : Int32)))]))
    refine own_by (fun _ k => XS.bipush X.here hx rfl (hb hby at_10) k) ?_
    show OEnds p e below s _ _ _ (T.setTop (mkF m 12 #[.val (.long q0), .second, .val (.int q1), .val (.int q2), .val (.long v6_4), .second, .unset, .unset, .unset, .unset, .unset] [(.int (12 : Int32)), (.int (q1 &&& (2147483647 : Int32)))]))
    refine own_by (fun _ k => iremM X hx rfl (hb hby at_12) rfl (by decide) k) ?_
    show OEnds p e below s _ _ _ (T.setTop (mkF m 13 #[.val (.long q0), .second, .val (.int q1), .val (.int q2), .val (.long v6_4), .second, .unset, .unset, .unset, .unset, .unset] [(.int ((q1 &&& (2147483647 : Int32)) % (12 : Int32)))]))
    refine own_by (fun _ k => XS.iconst X.here hx rfl (hb hby at_13) k) ?_
    show OEnds p e below s _ _ _ (T.setTop (mkF m 14 #[.val (.long q0), .second, .val (.int q1), .val (.int q2), .val (.long v6_4), .second, .unset, .unset, .unset, .unset, .unset] [(.int (1 : Int32)), (.int ((q1 &&& (2147483647 : Int32)) % (12 : Int32)))]))
    refine own_by (fun _ k => XS.iadd X.here hx rfl (hb hby at_14) rfl k) ?_
    show OEnds p e below s _ _ _ (T.setTop (mkF m 15 #[.val (.long q0), .second, .val (.int q1), .val (.int q2), .val (.long v6_4), .second, .unset, .unset, .unset, .unset, .unset] [(.int (((q1 &&& (2147483647 : Int32)) % (12 : Int32)) + (1 : Int32)))]))
    refine own_by (fun _ k => XS.istore X.here hx rfl (hb hby at_15) rfl (l' := #[.val (.long q0), .second, .val (.int q1), .val (.int q2), .val (.long v6_4), .second, .val (.int (((q1 &&& (2147483647 : Int32)) % (12 : Int32)) + (1 : Int32))), .unset, .unset, .unset, .unset]) rfl k) ?_
    show OEnds p e below s _ _ _ (T.setTop (mkF m 17 #[.val (.long q0), .second, .val (.int q1), .val (.int q2), .val (.long v6_4), .second, .val (.int (((q1 &&& (2147483647 : Int32)) % (12 : Int32)) + (1 : Int32))), .unset, .unset, .unset, .unset] []))
    exact own_eq (congrArg Value.int (by rw [law_6] <;> rfl)) (blaw_17 T X eT v6_4 (((q1 &&& (2147483647 : Int32)) % (12 : Int32)) + (1 : Int32)))
  show OEnds p e below s _ _ _ _
  refine own_by (fun t k => castTop (ef_0 m q0 q1 q2) k) ?_
  show OEnds p e below s _ _ _ (s₁.setTop (mkF m 0 #[.val (.long q0), .second, .val (.int q1), .val (.int q2), .unset, .unset, .unset, .unset, .unset, .unset, .unset] []))
  refine own_by (fun _ k => XS.lloadN X0.here hx rfl (hb hby at_0) rfl k) ?_
  show OEnds p e below s _ _ _ (s₁.setTop (mkF m 1 #[.val (.long q0), .second, .val (.int q1), .val (.int q2), .unset, .unset, .unset, .unset, .unset, .unset, .unset] [(.long q0)]))
  refine own_by (fun _ k => XS.bipush X0.here hx rfl (hb hby at_1) k) ?_
  show OEnds p e below s _ _ _ (s₁.setTop (mkF m 3 #[.val (.long q0), .second, .val (.int q1), .val (.int q2), .unset, .unset, .unset, .unset, .unset, .unset, .unset] [(.int (13 : Int32)), (.long q0)]))
  refine own_by (fun _ k => XS.lshr X0.here hx rfl (hb hby at_3) rfl k) ?_
  show OEnds p e below s _ _ _ (s₁.setTop (mkF m 4 #[.val (.long q0), .second, .val (.int q1), .val (.int q2), .unset, .unset, .unset, .unset, .unset, .unset, .unset] [(.long (q0 >>> ((13 : Int32) &&& 0x3f).toInt64))]))
  refine own_by (fun _ k => XS.lstore X0.here hx rfl (hb hby at_4) rfl (l' := #[.val (.long q0), .second, .val (.int q1), .val (.int q2), .val (.long (q0 >>> ((13 : Int32) &&& 0x3f).toInt64)), .second, .unset, .unset, .unset, .unset, .unset]) rfl k) ?_
  show OEnds p e below s _ _ _ (s₁.setTop (mkF m 6 #[.val (.long q0), .second, .val (.int q1), .val (.int q2), .val (.long (q0 >>> ((13 : Int32) &&& 0x3f).toInt64)), .second, .unset, .unset, .unset, .unset, .unset] []))
  exact own_eq (congrArg Value.int (by rw [law] <;> rfl)) (blaw_6 s₁ X0 e0 (q0 >>> ((13 : Int32) &&& 0x3f).toInt64))
theorem own_ladd {a b : Int64} (h1 : -9223372036854775808 ≤ a.toInt + b.toInt) (h2 : a.toInt + b.toInt < 9223372036854775808) : (a + b).toInt = a.toInt + b.toInt := by
  have := c_ladd a b; have := rng64 (a + b); omega
theorem own_lsub {a b : Int64} (h1 : -9223372036854775808 ≤ a.toInt - b.toInt) (h2 : a.toInt - b.toInt < 9223372036854775808) : (a - b).toInt = a.toInt - b.toInt := by
  have := c_lsub a b; have := rng64 (a - b); omega
theorem own_lmul {a b : Int64} {P : Int} (hP : a.toInt * b.toInt = P) (h1 : -9223372036854775808 ≤ P) (h2 : P < 9223372036854775808) : (a * b).toInt = P := by
  have := c_lmul a b; have := rng64 (a * b); rw [hP] at *; omega
theorem own_iadd {a b : Int32} (h1 : -2147483648 ≤ a.toInt + b.toInt) (h2 : a.toInt + b.toInt < 2147483648) : (a + b).toInt = a.toInt + b.toInt := by
  have := c_iadd a b; have := rng32 (a + b); omega
theorem own_isub {a b : Int32} (h1 : -2147483648 ≤ a.toInt - b.toInt) (h2 : a.toInt - b.toInt < 2147483648) : (a - b).toInt = a.toInt - b.toInt := by
  have := c_isub a b; have := rng32 (a - b); omega
theorem own_imul {a b : Int32} {P : Int} (hP : a.toInt * b.toInt = P) (h1 : -2147483648 ≤ P) (h2 : P < 2147483648) : (a * b).toInt = P := by
  have := c_imul a b; have := rng32 (a * b); rw [hP] at *; omega
theorem fdivI_400 (x : Int64) : (fdivI x (400 : Int32)).toInt = x.toInt / 400 := by
  obtain ⟨y, ey⟩ : ∃ y, y = ((400 : Int32).toInt64) := ⟨_, rfl⟩
  have hy : y.toInt = 400 := by rw [ey]; decide
  have hy1 : y ≠ -1 := by rw [ey]; decide
  have hq := c_ldiv x y 400 hy hy1
  have hxs := c_xorSL x y
  have hm := c_lmul (x / y) y
  have hmr := rng64 ((x / y) * y)
  have hs := c_lsub (x / y) 1
  have hsr := rng64 (x / y - 1)
  have hr := rng64 x
  have h1 : (1 : Int64).toInt = 1 := by decide
  have h0 : (0 : Int64).toInt = 0 := by decide
  rw [hy] at hm hxs
  rw [h1] at hs
  simp only [fdivI, fdivL, fdivL_27, ← ey]
  by_cases hx : x.toInt < 0
  · have hxor : (x ^^^ y) < 0 := by rw [Int64.lt_iff_toInt_lt, h0]; exact hxs.2.1 hx (by omega)
    have q := hq.2 hx
    rw [if_pos hxor]
    have hb1 : -9223372036854775808 ≤ (x / y).toInt * 400 := by omega
    have hb2 : (x / y).toInt * 400 ≤ 0 := by omega
    have hmul : ((x / y) * y).toInt = (x / y).toInt * 400 := by clear hs hsr hq hxs q; omega
    by_cases he : ((x / y) * y) = x
    · rw [if_pos he]
      rw [he] at hmul
      omega
    · rw [if_neg he]
      have hne : ((x / y) * y).toInt ≠ x.toInt := fun q => he (Int64.toInt_inj.mp q)
      clear hm hmr
      omega
  · have hxor : ¬ (x ^^^ y) < 0 := by rw [Int64.lt_iff_toInt_lt, h0]; have := hxs.2.2.2 (by omega) (by omega); omega
    have q := hq.1 (by omega)
    rw [if_neg hxor]
    omega
theorem fmodI_146097 (x : Int64) : (fmodI x (146097 : Int32)).toInt = x.toInt % 146097 := by
  obtain ⟨y, ey⟩ : ∃ y, y = ((146097 : Int32).toInt64) := ⟨_, rfl⟩
  have hy : y.toInt = 146097 := by rw [ey]; decide
  have hq := c_lrem x y 146097 hy
  rw [lrem_mod] at hq
  have hxs := c_xorSL x y
  have hs := c_ladd (x % y) y
  have hsr := rng64 (x % y + y)
  have hr := rng64 x
  have h0 : (0 : Int64).toInt = 0 := by decide
  rw [hy] at hxs hs
  have k1 := c_l2i (x % y)
  have k2 := rng32 ((x % y).toInt32)
  have k3 := c_l2i (x % y + y)
  have k4 := rng32 ((x % y + y).toInt32)
  simp only [fmodI, fmodL, fmodL_25, ← ey]
  by_cases hx : x.toInt < 0
  · have hxor : (x ^^^ y) < 0 := by rw [Int64.lt_iff_toInt_lt, h0]; exact hxs.2.1 hx (by omega)
    have q := hq.2 hx
    rw [if_pos hxor]
    by_cases he : (x % y) = 0
    · rw [if_pos he]
      have : (x % y).toInt = 0 := by rw [he]; exact h0
      omega
    · rw [if_neg he]
      have hne : (x % y).toInt ≠ 0 := fun q => he (Int64.toInt_inj.mp (q.trans h0.symm))
      omega
  · have hxor : ¬ (x ^^^ y) < 0 := by rw [Int64.lt_iff_toInt_lt, h0]; have := hxs.2.2.2 (by omega) (by omega); omega
    have q := hq.1 (by omega)
    rw [if_neg hxor]
    omega
def EP (Y m2 d : Int) : Int := (Y / 400) * 146097 + ((Y % 400) * 365 + (Y % 400) / 4 - (Y % 400) / 100 + ((153 * m2 + 2) / 5 + d - 1)) - 719468
theorem epof_spec (y : Int64) (m d : Int32) (hy1 : -18014398509481984 ≤ y.toInt) (hy2 : y.toInt ≤ 18014398509481984) (hm1 : 1 ≤ m.toInt) (hm2 : m.toInt ≤ 12) (hd1 : -1073741824 ≤ d.toInt) (hd2 : d.toInt ≤ 1073741824) :
    (epof y m d).toInt = EP (y.toInt - ((m.toInt + 9) % 12) / 10) ((m.toInt + 9) % 12) d.toInt := by
  obtain ⟨v9, e9⟩ : ∃ v, v = (m + (9 : Int32)) % (12 : Int32) := ⟨_, rfl⟩
  have k9 : v9.toInt = (m.toInt + 9) % 12 := by
    have a1 : (m + (9 : Int32)).toInt = m.toInt + 9 := own_iadd (b := 9) (by show _ ≤ m.toInt + 9; omega) (by show m.toInt + 9 < _; omega)
    have a2 := (c_irem (m + (9 : Int32)) 12 12 (by decide)).1 (by omega)
    rw [e9, a2, a1]
  obtain ⟨v10, e10⟩ : ∃ v, v = v9 / (10 : Int32) := ⟨_, rfl⟩
  have k10 : v10.toInt = v9.toInt / 10 := by rw [e10]; exact (c_idiv v9 10 10 (by decide) (by decide)).1 (by omega)
  obtain ⟨v19, e19⟩ : ∃ v, v = y - (v10.toInt64) := ⟨_, rfl⟩
  have k19 : v19.toInt = y.toInt - v10.toInt := by
    have := c_i2l v10
    rw [e19, own_lsub (by omega) (by omega), this]
  obtain ⟨v29, e29⟩ : ∃ v, v = fdivI v19 (400 : Int32) := ⟨_, rfl⟩
  have k29 : v29.toInt = v19.toInt / 400 := by rw [e29]; exact fdivI_400 v19
  obtain ⟨v40, e40⟩ : ∃ v, v = v19 - (v29 * (400 : Int64)) := ⟨_, rfl⟩
  have k40 : v40.toInt = v19.toInt % 400 := by
    have a1 : (v29 * (400 : Int64)).toInt = v29.toInt * 400 := own_lmul (b := 400) rfl (by omega) (by omega)
    rw [e40, own_lsub (by rw [a1]; omega) (by rw [a1]; omega), a1]; omega
  obtain ⟨v56, e56⟩ : ∃ v, v = ((((((153 : Int32) * v9) + (2 : Int32)) / (5 : Int32)) + d) - (1 : Int32)) := ⟨_, rfl⟩
  have k56 : v56.toInt = (153 * v9.toInt + 2) / 5 + d.toInt - 1 := by
    have a1 : ((153 : Int32) * v9).toInt = 153 * v9.toInt := own_imul (a := 153) rfl (by omega) (by omega)
    have a2 : (((153 : Int32) * v9) + (2 : Int32)).toInt = 153 * v9.toInt + 2 := by
      have h2 : (2 : Int32).toInt = 2 := by decide
      rw [own_iadd (by rw [a1, h2]; omega) (by rw [a1, h2]; omega), a1, h2]
    have a3 := (c_idiv (((153 : Int32) * v9) + (2 : Int32)) 5 5 (by decide) (by decide)).1 (by omega)
    rw [a2] at a3
    have a4 : ((((153 : Int32) * v9) + (2 : Int32)) / (5 : Int32) + d).toInt = (153 * v9.toInt + 2) / 5 + d.toInt := by
      rw [own_iadd (by rw [a3]; omega) (by rw [a3]; omega), a3]
    have h1 : (1 : Int32).toInt = 1 := by decide
    rw [e56, own_isub (by rw [a4, h1]; omega) (by rw [a4, h1]; omega), a4, h1]
  have e : epof y m d = (((v29 * (146097 : Int64)) + ((((v40 * (365 : Int64)) + (v40 / (4 : Int64))) - (v40 / (100 : Int64))) + (v56.toInt64))) - (719468 : Int64)) := by
    simp only [epof, epof_9, epof_19, epof_29, epof_40, epof_56, epof_82, ← e9, ← e10, ← e19, ← e29, ← e40, ← e56]
  have b1 : (v40 * (365 : Int64)).toInt = v40.toInt * 365 := own_lmul (b := 365) rfl (by omega) (by omega)
  have b2 := (c_ldiv v40 4 4 (by decide) (by decide)).1 (by omega)
  have b3 := (c_ldiv v40 100 100 (by decide) (by decide)).1 (by omega)
  have b4 : ((v40 * (365 : Int64)) + (v40 / (4 : Int64))).toInt = v40.toInt * 365 + v40.toInt / 4 := by rw [own_ladd (by rw [b1, b2]; omega) (by rw [b1, b2]; omega), b1, b2]
  have b5 : (((v40 * (365 : Int64)) + (v40 / (4 : Int64))) - (v40 / (100 : Int64))).toInt = v40.toInt * 365 + v40.toInt / 4 - v40.toInt / 100 := by rw [own_lsub (by rw [b4, b3]; omega) (by rw [b4, b3]; omega), b4, b3]
  have b6 := c_i2l v56
  have b7 : ((((v40 * (365 : Int64)) + (v40 / (4 : Int64))) - (v40 / (100 : Int64))) + (v56.toInt64)).toInt = v40.toInt * 365 + v40.toInt / 4 - v40.toInt / 100 + v56.toInt := by rw [own_ladd (by rw [b5, b6]; omega) (by rw [b5, b6]; omega), b5, b6]
  have b8 : (v29 * (146097 : Int64)).toInt = v29.toInt * 146097 := own_lmul (b := 146097) rfl (by omega) (by omega)
  have b9 : ((v29 * (146097 : Int64)) + ((((v40 * (365 : Int64)) + (v40 / (4 : Int64))) - (v40 / (100 : Int64))) + (v56.toInt64))).toInt = v29.toInt * 146097 + (v40.toInt * 365 + v40.toInt / 4 - v40.toInt / 100 + v56.toInt) := by rw [own_ladd (by rw [b8, b7]; omega) (by rw [b8, b7]; omega), b8, b7]
  have h7 : (719468 : Int64).toInt = 719468 := by decide
  rw [e, own_lsub (by rw [b9, h7]; omega) (by rw [b9, h7]; omega), b9, h7, k56, k40, k29, k19, k10, k9, EP]
theorem rem0 (y : Int64) (d : Int64) (D : Int) (hd : d.toInt = D) (hD : 0 < D) : (y % d) = 0 ↔ y.toInt % D = 0 := by
  have h := c_lrem y d D hd
  rw [lrem_mod] at h
  have h0 : (0 : Int64).toInt = 0 := by decide
  rw [← Int64.toInt_inj, h0]
  have hm := Int.emod_nonneg y.toInt (by omega : D ≠ 0)
  by_cases hy : 0 ≤ y.toInt
  · rw [h.1 hy]
  · rw [h.2 (by omega)]
    have e1 : D ∣ -y.toInt ↔ D ∣ y.toInt := Int.dvd_neg
    constructor
    · intro q
      have : (-y.toInt) % D = 0 := by omega
      exact Int.emod_eq_zero_of_dvd (e1.mp (Int.dvd_of_emod_eq_zero this))
    · intro q
      have : (-y.toInt) % D = 0 := Int.emod_eq_zero_of_dvd (e1.mpr (Int.dvd_of_emod_eq_zero q))
      omega
def LP (Y : Int) : Prop := Y % 4 = 0 ∧ (Y % 100 ≠ 0 ∨ Y % 400 = 0)
theorem mlen_spec (y : Int64) (m : Int32) : ((mlen y m).toInt = 28 ∧ m.toInt = 2) ∨ ((mlen y m).toInt = 29 ∧ m.toInt = 2 ∧ LP y.toInt) ∨ ((mlen y m).toInt = 30 ∧ (m.toInt = 4 ∨ m.toInt = 6 ∨ m.toInt = 9 ∨ m.toInt = 11)) ∨ ((mlen y m).toInt = 31 ∧ ¬ (m.toInt = 2 ∨ m.toInt = 4 ∨ m.toInt = 6 ∨ m.toInt = 9 ∨ m.toInt = 11)) := by
  have k4 := rem0 y 4 4 (by decide) (by decide)
  have k100 := rem0 y 100 100 (by decide) (by decide)
  have k400 := rem0 y 400 400 (by decide) (by decide)
  have h35 : mlen_35 = 29 := by decide
  have h39 : mlen_39 = 28 := by decide
  have h74 : mlen_74 = 30 := by decide
  have t28 : (28 : Int32).toInt = 28 := by decide
  have t29 : (29 : Int32).toInt = 29 := by decide
  have t30 : (30 : Int32).toInt = 30 := by decide
  have t31 : (31 : Int32).toInt = 31 := by decide
  have e2 : m = 2 ↔ m.toInt = 2 := by rw [← Int32.toInt_inj]; exact Iff.rfl
  have e4 : m = 4 ↔ m.toInt = 4 := by rw [← Int32.toInt_inj]; exact Iff.rfl
  have e6 : m = 6 ↔ m.toInt = 6 := by rw [← Int32.toInt_inj]; exact Iff.rfl
  have e9 : m = 9 ↔ m.toInt = 9 := by rw [← Int32.toInt_inj]; exact Iff.rfl
  have e11 : m = 11 ↔ m.toInt = 11 := by rw [← Int32.toInt_inj]; exact Iff.rfl
  rw [mlen, h35, h39, h74]
  by_cases m2 : m = 2
  · rw [if_pos m2]
    by_cases q4 : y % 4 = 0
    · rw [if_pos q4]
      by_cases q100 : y % 100 = 0
      · rw [if_pos q100]
        by_cases q400 : y % 400 = 0
        · rw [if_pos q400, t29]; exact Or.inr (Or.inl ⟨rfl, e2.mp m2, k4.mp q4, Or.inr (k400.mp q400)⟩)
        · rw [if_neg q400, t28]; exact Or.inl ⟨rfl, e2.mp m2⟩
      · rw [if_neg q100, t29]; exact Or.inr (Or.inl ⟨rfl, e2.mp m2, k4.mp q4, Or.inl (fun w => q100 (k100.mpr w))⟩)
    · rw [if_neg q4, t28]; exact Or.inl ⟨rfl, e2.mp m2⟩
  · rw [if_neg m2]
    by_cases m4 : m = 4
    · rw [if_pos m4, t30]; exact Or.inr (Or.inr (Or.inl ⟨rfl, Or.inl (e4.mp m4)⟩))
    · rw [if_neg m4]
      by_cases m6 : m = 6
      · rw [if_pos m6, t30]; exact Or.inr (Or.inr (Or.inl ⟨rfl, Or.inr (Or.inl (e6.mp m6))⟩))
      · rw [if_neg m6]
        by_cases m9 : m = 9
        · rw [if_pos m9, t30]; exact Or.inr (Or.inr (Or.inl ⟨rfl, Or.inr (Or.inr (Or.inl (e9.mp m9)))⟩))
        · rw [if_neg m9]
          by_cases m11 : m = 11
          · rw [if_pos m11, t30]; exact Or.inr (Or.inr (Or.inl ⟨rfl, Or.inr (Or.inr (Or.inr (e11.mp m11)))⟩))
          · rw [if_neg m11, t31]; refine Or.inr (Or.inr (Or.inr ⟨rfl, ?_⟩))
            rintro (h | h | h | h | h)
            · exact m2 (e2.mpr h)
            · exact m4 (e4.mpr h)
            · exact m6 (e6.mpr h)
            · exact m9 (e9.mpr h)
            · exact m11 (e11.mpr h)
theorem yoe_rec (k doy doe : Int) (h0 : 0 ≤ k) (h1 : k < 400) (hd0 : 0 ≤ doy) (hd : doy ≤ 364 ∨ (doy = 365 ∧ (k + 1) % 4 = 0 ∧ ((k + 1) % 100 ≠ 0 ∨ k + 1 = 400))) (e : doe = k * 365 + k / 4 - k / 100 + doy) : (doe - doe / 1460 + doe / 36524 - doe / 146096) / 365 = k ∧ 0 ≤ doe ∧ doe < 146097 := by
  obtain ⟨c, q, r, hk, c0, c1, q0, q1, r0, r1⟩ : ∃ c q r : Int, k = 100 * c + 4 * q + r ∧ 0 ≤ c ∧ c ≤ 3 ∧ 0 ≤ q ∧ q ≤ 24 ∧ 0 ≤ r ∧ r ≤ 3 := ⟨k / 100, k % 100 / 4, k % 4, by omega, by omega, by omega, by omega, by omega, by omega, by omega⟩
  have e2 : doe = 36524 * c + 1461 * q + 365 * r + doy := by omega
  have hlp : doy ≤ 364 ∨ (doy = 365 ∧ r = 3 ∧ (q ≤ 23 ∨ c = 3)) := by omega
  clear e hd
  by_cases hlast : doe = 146096
  · have hk' : k = 399 := by omega
    rw [hlast, hk']
    decide
  · have hlt : doe < 146096 := by omega
    have g3 : doe / 146096 = 0 := by omega
    have g2 : doe / 36524 = c := by omega
    obtain ⟨t, et⟩ : ∃ t : Int, t = (24 * c + q + 365 * r + doy) / 1460 := ⟨_, rfl⟩
    have g1 : doe / 1460 = 25 * c + q + t := by omega
    have ht : (t = 0 ∧ doy ≤ 364) ∨ (t = 1 ∧ 1 ≤ doy) := by omega
    refine ⟨?_, by omega, by omega⟩
    rw [g1, g2, g3]
    clear g1 g2 g3 et
    rcases ht with ⟨rfl, h⟩ | ⟨rfl, h⟩ <;> omega
theorem yoEra_spec (q : Int32) (h0 : 0 ≤ q.toInt) (h1 : q.toInt < 146097) : (yoEra q).toInt = (q.toInt - q.toInt / 1460 + q.toInt / 36524 - q.toInt / 146096) / 365 := by
  have a1 := (c_idiv q 1460 1460 (by decide) (by decide)).1 h0
  have a2 := (c_idiv q 36524 36524 (by decide) (by decide)).1 h0
  have a3 := (c_idiv q 146096 146096 (by decide) (by decide)).1 h0
  have b1 : (q - q / (1460 : Int32)).toInt = q.toInt - q.toInt / 1460 := by rw [own_isub (by rw [a1]; omega) (by rw [a1]; omega), a1]
  have b2 : ((q - q / (1460 : Int32)) + q / (36524 : Int32)).toInt = q.toInt - q.toInt / 1460 + q.toInt / 36524 := by rw [own_iadd (by rw [b1, a2]; omega) (by rw [b1, a2]; omega), b1, a2]
  have b3 : (((q - q / (1460 : Int32)) + q / (36524 : Int32)) - q / (146096 : Int32)).toInt = q.toInt - q.toInt / 1460 + q.toInt / 36524 - q.toInt / 146096 := by rw [own_isub (by rw [b2, a3]; omega) (by rw [b2, a3]; omega), b2, a3]
  have b4 := (c_idiv (((q - q / (1460 : Int32)) + q / (36524 : Int32)) - q / (146096 : Int32)) 365 365 (by decide) (by decide)).1 (by rw [b3]; omega)
  rw [yoEra, b4, b3]
theorem doYear_spec (q k : Int32) (h0 : 0 ≤ q.toInt) (h1 : q.toInt < 146097) (k0 : 0 ≤ k.toInt) (k1 : k.toInt < 400) : (doYear q k).toInt = q.toInt - (365 * k.toInt + k.toInt / 4 - k.toInt / 100) := by
  have a1 := (c_idiv k 4 4 (by decide) (by decide)).1 k0
  have a2 := (c_idiv k 100 100 (by decide) (by decide)).1 k0
  have t : (365 : Int32).toInt = 365 := by decide
  have b0 : ((365 : Int32) * k).toInt = 365 * k.toInt := own_imul (by rw [t]) (by omega) (by omega)
  have b1 : (((365 : Int32) * k) + (k / (4 : Int32))).toInt = 365 * k.toInt + k.toInt / 4 := by rw [own_iadd (by rw [b0, a1]; omega) (by rw [b0, a1]; omega), b0, a1]
  have b2 : ((((365 : Int32) * k) + (k / (4 : Int32))) - (k / (100 : Int32))).toInt = 365 * k.toInt + k.toInt / 4 - k.toInt / 100 := by rw [own_isub (by rw [b1, a2]; omega) (by rw [b1, a2]; omega), b1, a2]
  rw [doYear, own_isub (by rw [b2]; omega) (by rw [b2]; omega), b2]
theorem doMonth14_spec (v : Int32) (h0 : 0 ≤ v.toInt) (h1 : v.toInt ≤ 366) : (doMonth_14 v).toInt = v.toInt - (153 * ((5 * v.toInt + 2) / 153) + 2) / 5 + 1 := by
  have t5 : (5 : Int32).toInt = 5 := by decide
  have t2 : (2 : Int32).toInt = 2 := by decide
  have t1 : (1 : Int32).toInt = 1 := by decide
  have t153 : (153 : Int32).toInt = 153 := by decide
  have b0 : ((5 : Int32) * v).toInt = 5 * v.toInt := own_imul (by rw [t5]) (by omega) (by omega)
  have b1 : (((5 : Int32) * v) + (2 : Int32)).toInt = 5 * v.toInt + 2 := by rw [own_iadd (by rw [b0, t2]; omega) (by rw [b0, t2]; omega), b0, t2]
  have b2 := (c_idiv (((5 : Int32) * v) + (2 : Int32)) 153 153 (by decide) (by decide)).1 (by rw [b1]; omega)
  rw [b1] at b2
  obtain ⟨w, ew⟩ : ∃ w, w = ((((5 : Int32) * v) + (2 : Int32)) / (153 : Int32)) := ⟨_, rfl⟩
  rw [← ew] at b2
  have c0 : ((153 : Int32) * w).toInt = 153 * w.toInt := own_imul (by rw [t153]) (by omega) (by omega)
  have c1 : (((153 : Int32) * w) + (2 : Int32)).toInt = 153 * w.toInt + 2 := by rw [own_iadd (by rw [c0, t2]; omega) (by rw [c0, t2]; omega), c0, t2]
  have c2 := (c_idiv (((153 : Int32) * w) + (2 : Int32)) 5 5 (by decide) (by decide)).1 (by rw [c1]; omega)
  rw [c1] at c2
  have c3 : (v - ((((153 : Int32) * w) + (2 : Int32)) / (5 : Int32))).toInt = v.toInt - (153 * w.toInt + 2) / 5 := by rw [own_isub (by rw [c2]; omega) (by rw [c2]; omega), c2]
  rw [doMonth_14, ← ew, doMonth_25, own_iadd (by rw [c3, t1]; omega) (by rw [c3, t1]; omega), c3, t1, b2]
theorem month_rec (m2 d doy : Int) (h0 : 0 ≤ m2) (h1 : m2 ≤ 11) (d0 : 1 ≤ d) (e : doy = (153 * m2 + 2) / 5 + d - 1) (hl : d ≤ 31) (hl2 : (m2 = 1 ∨ m2 = 3 ∨ m2 = 6 ∨ m2 = 8) → d ≤ 30) (hl3 : m2 = 11 → d ≤ 29) : doy - (153 * ((5 * doy + 2) / 153) + 2) / 5 + 1 = d ∧ 0 ≤ doy ∧ doy ≤ 365 ∧ (doy = 365 → m2 = 11 ∧ d = 29) := by
  have hm : m2 = 0 ∨ m2 = 1 ∨ m2 = 2 ∨ m2 = 3 ∨ m2 = 4 ∨ m2 = 5 ∨ m2 = 6 ∨ m2 = 7 ∨ m2 = 8 ∨ m2 = 9 ∨ m2 = 10 ∨ m2 = 11 := by omega
  rcases hm with rfl | rfl | rfl | rfl | rfl | rfl | rfl | rfl | rfl | rfl | rfl | rfl
  all_goals (refine ⟨?_, by omega, by omega, by omega⟩)
  all_goals omega
set_option maxHeartbeats 8000000 in
theorem plain_law (x : Int64) (y z : Int32) : law x y z = 1 := by
  obtain ⟨Y, eY⟩ : ∃ v, v = (x >>> ((13 : Int32) &&& 0x3f).toInt64) := ⟨_, rfl⟩
  have hY := c_lshr x 13 13 (by decide)
  rw [← eY] at hY
  have rx := rng64 x
  obtain ⟨mo, emo⟩ : ∃ v, v = (((y &&& (2147483647 : Int32)) % (12 : Int32)) + (1 : Int32)) := ⟨_, rfl⟩
  have t1 : (1 : Int32).toInt = 1 := by decide
  have hmo : 1 ≤ mo.toInt ∧ mo.toInt ≤ 12 := by
    have h := c_mask y 2147483647 31 (by decide) (by decide)
    have h2 := (c_irem (y &&& (2147483647 : Int32)) 12 12 (by decide)).1 (by omega)
    have k := c_iadd ((y &&& (2147483647 : Int32)) % (12 : Int32)) 1
    have k2 := rng32 (((y &&& (2147483647 : Int32)) % (12 : Int32)) + 1)
    rw [← emo] at k k2
    omega
  obtain ⟨ml, eml⟩ : ∃ v, v = mlen Y mo := ⟨_, rfl⟩
  have hml := mlen_spec Y mo
  rw [← eml] at hml
  have hmlb : 28 ≤ ml.toInt ∧ ml.toInt ≤ 31 := by rcases hml with ⟨h, -⟩ | ⟨h, -⟩ | ⟨h, -⟩ | ⟨h, -⟩ <;> omega
  obtain ⟨dy, edy⟩ : ∃ v, v = (((z &&& (2147483647 : Int32)) % ml) + (1 : Int32)) := ⟨_, rfl⟩
  have hdy : 1 ≤ dy.toInt ∧ dy.toInt ≤ ml.toInt := by
    have h := c_mask z 2147483647 31 (by decide) (by decide)
    have h2 := (c_iremV (z &&& (2147483647 : Int32)) ml).1 (by omega) (by omega)
    have k := c_iadd ((z &&& (2147483647 : Int32)) % ml) 1
    have k2 := rng32 (((z &&& (2147483647 : Int32)) % ml) + 1)
    rw [← edy] at k k2
    omega
  obtain ⟨ep, eep⟩ : ∃ v, v = epof Y mo dy := ⟨_, rfl⟩
  have hs := epof_spec Y mo dy (by omega) (by omega) hmo.1 hmo.2 (by omega) (by omega)
  rw [← eep] at hs
  obtain ⟨m2, em2⟩ : ∃ v : Int, v = (mo.toInt + 9) % 12 := ⟨_, rfl⟩
  rw [← em2] at hs
  obtain ⟨W, eW⟩ : ∃ v : Int, v = Y.toInt - m2 / 10 := ⟨_, rfl⟩
  rw [← eW] at hs
  obtain ⟨doy, edoy⟩ : ∃ v : Int, v = (153 * m2 + 2) / 5 + dy.toInt - 1 := ⟨_, rfl⟩
  have hmr := month_rec m2 dy.toInt doy (by omega) (by omega) hdy.1 edoy (by omega) (by
    intro h
    rcases hml with ⟨h1, h2⟩ | ⟨h1, h2, -⟩ | ⟨h1, h2⟩ | ⟨h1, h2⟩ <;> omega) (by
    intro h
    rcases hml with ⟨h1, h2⟩ | ⟨h1, h2, -⟩ | ⟨h1, h2⟩ | ⟨h1, h2⟩ <;> omega)
  obtain ⟨mr1, mr2, mr3, mr4⟩ := hmr
  have hleap : doy = 365 → LP (W + 1) := by
    intro h
    obtain ⟨g1, g2⟩ := mr4 h
    rcases hml with ⟨h1, h2⟩ | ⟨h1, h2, h3⟩ | ⟨h1, h2⟩ | ⟨h1, h2⟩
    · omega
    · have : W + 1 = Y.toInt := by omega
      rw [this]; exact h3
    · omega
    · omega
  have hyr := yoe_rec (W % 400) doy (W % 400 * 365 + W % 400 / 4 - W % 400 / 100 + doy) (by omega) (by omega) mr2 (by
    by_cases h : doy = 365
    · obtain ⟨l1, l2⟩ := hleap h
      right
      refine ⟨h, by omega, ?_⟩
      omega
    · left; omega) rfl
  obtain ⟨y1, y2, y3⟩ := hyr
  have hEP : ep.toInt = W / 400 * 146097 + (W % 400 * 365 + W % 400 / 4 - W % 400 / 100 + doy) - 719468 := by rw [hs, EP, edoy]
  obtain ⟨doe, edoe⟩ : ∃ v : Int, v = W % 400 * 365 + W % 400 / 4 - W % 400 / 100 + doy := ⟨_, rfl⟩
  rw [← edoe] at hEP y1 y2 y3
  have t7 : (719468 : Int64).toInt = 719468 := by decide
  have hW1 : -18014398509481984 ≤ W := by omega
  have hW2 : W ≤ 18014398509481984 := by omega
  have k1 : (doEra ep).toInt = doe := by
    rw [doEra, fmodI_146097, own_ladd (by rw [hEP, t7]; omega) (by rw [hEP, t7]; omega), hEP, t7]
    omega
  have k2 : (yoEra (doEra ep)).toInt = W % 400 := by rw [yoEra_spec _ (by rw [k1]; exact y2) (by rw [k1]; exact y3), k1]; exact y1
  have k3 : (doYear (doEra ep) (yoEra (doEra ep))).toInt = doy := by
    rw [doYear_spec _ _ (by rw [k1]; exact y2) (by rw [k1]; exact y3) (by rw [k2]; omega) (by rw [k2]; omega), k1, k2]
    clear hEP y1 hs mr1 mr4 hleap hml
    omega
  have k4 : (doMonth ep).toInt = dy.toInt := by rw [doMonth, doMonth14_spec _ (by rw [k3]; exact mr2) (by rw [k3]; omega), k3]; exact mr1
  have k5 : doMonth ep = dy := Int32.toInt_inj.mp k4
  simp only [law, ← eY]
  simp only [law_6, ← emo]
  simp only [law_17, ← eml, ← edy]
  simp only [law_37, ← eep, law_48, law_63]
  rw [if_pos k5]
  decide
set_option maxRecDepth 65536 in
set_option maxHeartbeats 40000000 in
theorem comes_1 {Post : Tables → Env → Array Value → State → Outcome → State → Prop} (hpost : ∀ tb e args s v u, (limb_1_1.after args s (.returned v) u = true ∧ limb_1_2.after args s (.returned v) u = true ∧ True) → FrameEnd s (.returned v) u (Jvm.fieldLocs frame_1_writes args s ++ Jvm.arrayLocs frame_1_arrays args s ++ Jvm.staticLocs frame_1_statics s) 0 0 → Post tb e args s (.returned v) u) :
    ArmFor flags0 classFile x code maxLocals ret World_1 tables_1 room_1 Calls_1 rest_1 Pre_1 Post := by
  intro l hfl _ _ p e ha hc hk s m args below hf hA hF happ hP
  obtain ⟨hcalls, hrest, hpre⟩ := hP
  obtain ⟨-, -, -, hnamed, -, -, -, hat⟩ := (Spec.applies_iff hf).mp happ
  obtain ⟨hg, hn⟩ := and_e (Cond.before_iff.mp (show (Jvm.Cond.and given_1 narrow_1).before args s = true from hpre))
  obtain ⟨hct, hg0⟩ := and_e hg
  obtain ⟨ga0, hg1⟩ := and_e hg0
  obtain ⟨ga1, hg2⟩ := and_e hg1
  have ga2 := hg2
  obtain ⟨w0, w1, w2, rfl⟩ : ∃ w0 w1 w2 : Value, args = #[w0, w1, w2] := by
    have hs : args.size = 3 := by simpa [Cond.value, given_1] using hct
    obtain ⟨L⟩ := args
    match L, hs with
    | [w0, w1, w2], _ => exact ⟨w0, w1, w2, rfl⟩
  have hw := fun d (hd : d ∈ tables_1) => atoms_spec (ws := Jvm.Cond.code x code maxLocals ret :: tables_1) hat d (List.mem_cons_of_mem _ hd)
  obtain ⟨i0, ei0⟩ := isL_v ga0
  obtain rfl : w0 = (.long i0) := Option.some.inj ei0
  obtain ⟨i1, ei1⟩ := is_v ga1
  obtain rfl : w1 = (.int i1) := Option.some.inj ei1
  obtain ⟨i2, ei2⟩ := is_v ga2
  obtain rfl : w2 = (.int i2) := Option.some.inj ei2
  obtain ⟨n, o, h1, h2, h3, v, L, rfl, ⟨hv, rfl, hN⟩, hq⟩ := rm_law l s _ hw tables_1 i0 i1 i2 s.heap p e ha hc hk s m _ below hf ((Spec.applies_iff_loose hf).mp happ).1 ⟨rfl, State.Warmed39.refl s, rfl⟩ trivial
  rw [plain_law i0 i1 i2] at hv
  subst hv
  refine ⟨n, _, h1, h2, h3, hpost _ _ _ _ _ _ ⟨Cond.after_iff.mpr rfl, Cond.after_iff.mpr (eq_i res_at (Term.int_eval (1)) rfl), trivial⟩ ⟨hq.1, hq.2.1, (hq.2.2.sift fun y hy => absurd hy List.not_mem_nil).mono (by decide) (by decide)⟩⟩
theorem main_1_1 : Claimed_1_1 := comes_1 fun _ _ _ _ _ _ h hF => ⟨h.1, hF⟩
theorem main_1_2 : Claimed_1_2 := comes_1 fun _ _ _ _ _ _ h hF => ⟨h.2.1, hF⟩
end Jvm.Pilot.@@N@@
namespace Jvm.Pilot.@@N@@
open Jvm Jvm.ClassFile Sem Op Lib Jvm.Free Jvm.Stand Jvm.Pilot.@@N@@.Jvm.D
/-! MADE BY PROGRAM (witnessworld.py) out of the Statement's table words and the real class files: 10 classes; the members and pool entries that the words name. The judged class is class 1, her method 1. -/
namespace start1
open Jvm.ClassFile
def u (s : String) : CpInfo := .utf8 (stringToUtf16 s)
/-- a pool by its gaps: so many unusable entries, then the entry; so many at the end -/
def gap : Nat → List CpInfo → List CpInfo
  | 0, r => r
  | n + 1, r => .unusable :: gap n r
def poolList (es : List (Nat × CpInfo)) (last : Nat) : List CpInfo := es.foldr (fun e r => gap e.1 (e.2 :: r)) (gap last [])
def pool (es : List (Nat × CpInfo)) (last : Nat) : Array CpInfo := ⟨poolList es last⟩
def fileOf (pool : Array CpInfo) (this : Nat) (attrs : Array Attribute := #[]) (ms : Array MethodInfo := #[]) (fl : Nat := 33) (sup : Nat := 0) (ifs : Array Nat := #[]) (fds : Array FieldInfo := #[]) : ClassFile where
  minorVersion := 0
  majorVersion := 65
  constantPool := pool
  accessFlags := fl
  thisClass := this
  superClass := sup
  interfaces := ifs
  fields := fds
  methods := ms
  attributes := attrs
def plain (name : String) (sup : Option ClassId) : Class where
  name := name
  kind := .ordinary
  loader := none
  accessFlags := 33
  super := sup
  interfaces := #[]
  cf := none
  fields := #[]
  methods := #[]
  instanceTypes := #[]
  staticTypes := #[]
  resolved := #[]
  callSites := []
  init := .initialized
  statics := none
  mirror := none

def pool0 : Array CpInfo := pool [(5, u "<init>"), (0, u "()V"), (1, .class_ 10), (1, u "java/lang/Object")] 113

def k0m0 : Method := { name := "<init>", desc := "()V", sig := { parameters := [], returnType := none }, accessFlags := 1, code := none }
/-- java/lang/Object -/
def k0 : Class := { plain "java/lang/Object" none with
  accessFlags := 33
  interfaces := #[]
  cf := some (fileOf pool0 8 #[] #[{ accessFlags := 1, nameIndex := 5, descriptorIndex := 6, attributes := #[] }] 33 0 #[] #[])
  fields := #[]
  methods := #[k0m0]
  instanceTypes := #[]
  staticTypes := #[]
  resolved := Array.replicate 124 none
  statics := none }

def pool1 : Array CpInfo := pool [(2, .class_ 4), (1, u "java/lang/Object"), (0, u "<init>"), (0, u "()V"), (0, .integer 2147483647), (0, .methodref 9 10), (0, .class_ 11), (0, .nameAndType 12 13), (0, u "com/example/exact_membership/exactmembership/model/EpochDaysDayOfMonthPinLaw"), (0, u "monthLength"), (0, u "(JI)I"), (0, .methodref 15 16), (0, .class_ 17), (0, .nameAndType 18 19), (0, u "com/example/exact_membership/exactmembership/model/EpochDays"), (0, u "of"), (0, u "(JII)J"), (0, .methodref 15 21), (0, .nameAndType 22 23), (0, u "dayOfMonth"), (0, u "(J)I"), (0, .long 4), (1, .long 100), (1, .long 400), (3, u "law"), (0, u "(JII)Z")] 3

def k1m0 : Method := { name := "<init>", desc := "()V", sig := { parameters := [], returnType := none }, accessFlags := 2, code := none }
def k1c1 : Code := { maxStack := 4, maxLocals := 11, code := code, exceptionTable := #[], attributes := #[] }
def k1m1 : Method := { name := "law", desc := "(JII)Z", sig := { parameters := [.long, .int, .int], returnType := some .boolean }, accessFlags := 9, code := some k1c1 }
def k1c2 : Code := { maxStack := 4, maxLocals := 4, code := method_3_code, exceptionTable := #[], attributes := #[] }
def k1m2 : Method := { name := "monthLength", desc := "(JI)I", sig := { parameters := [.long, .int], returnType := some .int }, accessFlags := 10, code := some k1c2 }
/-- com/example/exact_membership/exactmembership/model/EpochDaysDayOfMonthPinLaw -/
def k1 : Class := { plain "com/example/exact_membership/exactmembership/model/EpochDaysDayOfMonthPinLaw" (some 0) with
  accessFlags := 49
  interfaces := #[]
  cf := some (fileOf pool1 9 #[] #[{ accessFlags := 2, nameIndex := 5, descriptorIndex := 6, attributes := #[] }, { accessFlags := 9, nameIndex := 32, descriptorIndex := 33, attributes := #[] }, { accessFlags := 10, nameIndex := 12, descriptorIndex := 13, attributes := #[] }] 49 2 #[] #[])
  fields := #[]
  methods := #[k1m0, k1m1, k1m2]
  instanceTypes := #[]
  staticTypes := #[]
  resolved := Array.replicate 37 none
  statics := none }

def pool2 : Array CpInfo := pool [(2, .class_ 4), (1, u "java/lang/Object"), (0, u "<init>"), (0, u "()V"), (0, .class_ 8), (0, u "com/example/exact_membership/exactmembership/model/EpochDays"), (0, .methodref 10 11), (0, .class_ 12), (0, .nameAndType 13 14), (0, u "java/lang/Math"), (0, u "floorDiv"), (0, u "(JI)J"), (0, .long 400), (1, .long 365), (1, .long 4), (1, .long 100), (1, .long 146097), (1, .long 719468), (1, .methodref 10 28), (0, .nameAndType 29 30), (0, u "floorMod"), (0, u "(JI)I"), (2, u "of"), (0, u "(JII)J"), (0, .integer 146097), (0, .methodref 7 37), (0, .nameAndType 38 39), (0, u "dayOfEra"), (0, u "(J)I"), (0, .methodref 7 41), (0, .nameAndType 42 43), (0, u "yearOfEra"), (0, u "(I)I"), (0, .methodref 7 45), (0, .nameAndType 46 47), (0, u "dayOfYear"), (0, u "(II)I"), (2, .integer 36524), (0, .integer 146096), (0, u "MONTHS"), (0, u "I"), (2, u "YEARS_PER_ERA"), (1, u "DAYS_PER_ERA"), (0, u "DAYS_TO_EPOCH"), (6, u "dayOfMonth")] 2

def k2m0 : Method := { name := "<init>", desc := "()V", sig := { parameters := [], returnType := none }, accessFlags := 2, code := none }
def k2c1 : Code := { maxStack := 6, maxLocals := 14, code := prog_18_method_2_code, exceptionTable := #[], attributes := #[] }
def k2m1 : Method := { name := "of", desc := "(JII)J", sig := { parameters := [.long, .int, .int], returnType := some .long }, accessFlags := 9, code := some k2c1 }
def k2c2 : Code := { maxStack := 3, maxLocals := 5, code := prog_18_method_5_code, exceptionTable := #[], attributes := #[] }
def k2m2 : Method := { name := "dayOfMonth", desc := "(J)I", sig := { parameters := [.long], returnType := some .int }, accessFlags := 9, code := some k2c2 }
def k2c3 : Code := { maxStack := 4, maxLocals := 2, code := prog_18_method_6_code, exceptionTable := #[], attributes := #[] }
def k2m3 : Method := { name := "dayOfEra", desc := "(J)I", sig := { parameters := [.long], returnType := some .int }, accessFlags := 10, code := some k2c3 }
def k2c4 : Code := { maxStack := 3, maxLocals := 1, code := prog_18_method_7_code, exceptionTable := #[], attributes := #[] }
def k2m4 : Method := { name := "yearOfEra", desc := "(I)I", sig := { parameters := [.int], returnType := some .int }, accessFlags := 10, code := some k2c4 }
def k2c5 : Code := { maxStack := 4, maxLocals := 2, code := prog_18_method_8_code, exceptionTable := #[], attributes := #[] }
def k2m5 : Method := { name := "dayOfYear", desc := "(II)I", sig := { parameters := [.int, .int], returnType := some .int }, accessFlags := 10, code := some k2c5 }
/-- com/example/exact_membership/exactmembership/model/EpochDays -/
def k2 : Class := { plain "com/example/exact_membership/exactmembership/model/EpochDays" (some 0) with
  accessFlags := 49
  interfaces := #[]
  cf := some (fileOf pool2 7 #[] #[{ accessFlags := 2, nameIndex := 5, descriptorIndex := 6, attributes := #[] }, { accessFlags := 9, nameIndex := 33, descriptorIndex := 34, attributes := #[] }, { accessFlags := 9, nameIndex := 66, descriptorIndex := 39, attributes := #[] }, { accessFlags := 10, nameIndex := 38, descriptorIndex := 39, attributes := #[] }, { accessFlags := 10, nameIndex := 42, descriptorIndex := 43, attributes := #[] }, { accessFlags := 10, nameIndex := 46, descriptorIndex := 47, attributes := #[] }] 49 2 #[] #[{ accessFlags := 26, nameIndex := 52, descriptorIndex := 53, attributes := #[] }, { accessFlags := 26, nameIndex := 56, descriptorIndex := 53, attributes := #[] }, { accessFlags := 26, nameIndex := 58, descriptorIndex := 53, attributes := #[] }, { accessFlags := 26, nameIndex := 59, descriptorIndex := 53, attributes := #[] }])
  fields := #[{ name := "MONTHS", type := .int, accessFlags := 26, slot := 0, constantValue := 0 }, { name := "YEARS_PER_ERA", type := .int, accessFlags := 26, slot := 1, constantValue := 0 }, { name := "DAYS_PER_ERA", type := .int, accessFlags := 26, slot := 2, constantValue := 0 }, { name := "DAYS_TO_EPOCH", type := .int, accessFlags := 26, slot := 3, constantValue := 0 }]
  methods := #[k2m0, k2m1, k2m2, k2m3, k2m4, k2m5]
  instanceTypes := #[]
  staticTypes := #[.int, .int, .int, .int]
  resolved := Array.replicate 69 none
  statics := none }

def pool3 : Array CpInfo := pool [(1, .class_ 2), (0, u "java/lang/Math"), (1, .class_ 6), (1, u "java/lang/Object"), (0, u "<init>"), (0, u "()V"), (89, .class_ 100), (1, u "java/lang/Math$RandomNumberGeneratorHolder"), (20, u "(JJ)J"), (21, .methodref 1 144), (0, .nameAndType 145 121), (0, u "floorDiv"), (0, .methodref 1 147), (0, .nameAndType 148 121), (0, u "floorMod"), (23, u "negativeZeroFloatBits"), (0, u "J"), (2, u "negativeZeroDoubleBits"), (68, u "$assertionsDisabled"), (0, u "Z"), (91, u "twoToTheDoubleScaleDown"), (0, u "D"), (4, u "twoToTheDoubleScaleUp"), (9, u "E"), (3, u "PI"), (2, u "TAU"), (2, u "DEGREES_TO_RADIANS"), (0, u "RADIANS_TO_DEGREES"), (29, u "(JI)J"), (24, u "(JI)I")] 39

def k3m0 : Method := { name := "<init>", desc := "()V", sig := { parameters := [], returnType := none }, accessFlags := 2, code := none }
def k3c1 : Code := { maxStack := 4, maxLocals := 3, code := jdk_29_method_48_code, exceptionTable := #[], attributes := #[] }
def k3m1 : Method := { name := "floorDiv", desc := "(JI)J", sig := { parameters := [.long, .int], returnType := some .long }, accessFlags := 9, code := some k3c1 }
def k3c2 : Code := { maxStack := 4, maxLocals := 6, code := jdk_29_method_49_code, exceptionTable := #[], attributes := #[] }
def k3m2 : Method := { name := "floorDiv", desc := "(JJ)J", sig := { parameters := [.long, .long], returnType := some .long }, accessFlags := 9, code := some k3c2 }
def k3c3 : Code := { maxStack := 4, maxLocals := 3, code := jdk_29_method_51_code, exceptionTable := #[], attributes := #[] }
def k3m3 : Method := { name := "floorMod", desc := "(JI)I", sig := { parameters := [.long, .int], returnType := some .int }, accessFlags := 9, code := some k3c3 }
def k3c4 : Code := { maxStack := 4, maxLocals := 6, code := jdk_29_method_52_code, exceptionTable := #[], attributes := #[] }
def k3m4 : Method := { name := "floorMod", desc := "(JJ)J", sig := { parameters := [.long, .long], returnType := some .long }, accessFlags := 9, code := some k3c4 }
/-- java/lang/Math -/
def k3 : Class := { plain "java/lang/Math" (some 0) with
  accessFlags := 49
  interfaces := #[]
  cf := some (fileOf pool3 1 #[.nestMembers #[98]] #[{ accessFlags := 2, nameIndex := 7, descriptorIndex := 8, attributes := #[] }, { accessFlags := 9, nameIndex := 145, descriptorIndex := 395, attributes := #[] }, { accessFlags := 9, nameIndex := 145, descriptorIndex := 121, attributes := #[] }, { accessFlags := 9, nameIndex := 148, descriptorIndex := 420, attributes := #[] }, { accessFlags := 9, nameIndex := 148, descriptorIndex := 121, attributes := #[] }] 49 4 #[] #[{ accessFlags := 25, nameIndex := 354, descriptorIndex := 339, attributes := #[] }, { accessFlags := 25, nameIndex := 358, descriptorIndex := 339, attributes := #[] }, { accessFlags := 25, nameIndex := 361, descriptorIndex := 339, attributes := #[] }, { accessFlags := 26, nameIndex := 364, descriptorIndex := 339, attributes := #[] }, { accessFlags := 26, nameIndex := 365, descriptorIndex := 339, attributes := #[] }, { accessFlags := 26, nameIndex := 172, descriptorIndex := 173, attributes := #[] }, { accessFlags := 26, nameIndex := 176, descriptorIndex := 173, attributes := #[] }, { accessFlags := 8, nameIndex := 344, descriptorIndex := 339, attributes := #[] }, { accessFlags := 8, nameIndex := 338, descriptorIndex := 339, attributes := #[] }, { accessFlags := 4120, nameIndex := 245, descriptorIndex := 246, attributes := #[] }])
  fields := #[{ name := "E", type := .double, accessFlags := 25, slot := 0, constantValue := 0 }, { name := "PI", type := .double, accessFlags := 25, slot := 1, constantValue := 0 }, { name := "TAU", type := .double, accessFlags := 25, slot := 2, constantValue := 0 }, { name := "DEGREES_TO_RADIANS", type := .double, accessFlags := 26, slot := 3, constantValue := 0 }, { name := "RADIANS_TO_DEGREES", type := .double, accessFlags := 26, slot := 4, constantValue := 0 }, { name := "negativeZeroFloatBits", type := .long, accessFlags := 26, slot := 5, constantValue := 0 }, { name := "negativeZeroDoubleBits", type := .long, accessFlags := 26, slot := 6, constantValue := 0 }, { name := "twoToTheDoubleScaleUp", type := .double, accessFlags := 8, slot := 7, constantValue := 0 }, { name := "twoToTheDoubleScaleDown", type := .double, accessFlags := 8, slot := 8, constantValue := 0 }, { name := "$assertionsDisabled", type := .boolean, accessFlags := 4120, slot := 9, constantValue := 0 }]
  methods := #[k3m0, k3m1, k3m2, k3m3, k3m4]
  instanceTypes := #[]
  staticTypes := #[.double, .double, .double, .double, .double, .long, .long, .double, .double, .boolean]
  resolved := Array.replicate 460 none
  statics := none }

def pool4 : Array CpInfo := pool [(1, u "java/lang/Cloneable"), (0, .class_ 1), (0, u "java/lang/Object"), (0, .class_ 3)] 3

/-- java/lang/Cloneable -/
def k4 : Class := { plain "java/lang/Cloneable" (some 0) with
  accessFlags := 1537
  interfaces := #[]
  cf := some (fileOf pool4 2 #[] #[] 1537 4 #[] #[])
  fields := #[]
  methods := #[]
  instanceTypes := #[]
  staticTypes := #[]
  resolved := Array.replicate 8 none
  statics := none }

def pool5 : Array CpInfo := pool [(1, u "java/io/Serializable"), (0, .class_ 1), (0, u "java/lang/Object"), (0, .class_ 3)] 3

/-- java/io/Serializable -/
def k5 : Class := { plain "java/io/Serializable" (some 0) with
  accessFlags := 1537
  interfaces := #[]
  cf := some (fileOf pool5 2 #[] #[] 1537 4 #[] #[])
  fields := #[]
  methods := #[]
  instanceTypes := #[]
  staticTypes := #[]
  resolved := Array.replicate 8 none
  statics := none }

/-- the primitive byte -/
def k6 : Class := { plain "byte" none with kind := .primitive 'B', accessFlags := 0x411 }
/-- [B -/
def k7 : Class := { plain "[B" (some 0) with kind := .array 6 .byte, interfaces := #[4, 5], accessFlags := 1041 }

/-- the primitive int -/
def k8 : Class := { plain "int" none with kind := .primitive 'I', accessFlags := 0x411 }
/-- [I -/
def k9 : Class := { plain "[I" (some 0) with kind := .array 8 .int, interfaces := #[4, 5], accessFlags := 1041 }

def heap : Heap := #[]
def classes : Array Class := #[k0, k1, k2, k3, k4, k5, k6, k7, k8, k9]
def interned : List (Array UInt16 × Addr) := []
def slotsUsed : Nat := 0
def theMethod : MethodId := ⟨1, 1⟩
def args0 : Array Value := #[.long 5, .int 3, .int 4]
def aboutOver (below : List Frame) : State where
  vm := { classes := classes, interned := interned.toArray }
  heap := heap
  slotsUsed := slotsUsed
  threads := #[{ frames := .invoking theMethod args0 :: below }]
def below0 : List Frame := [.native { method := ⟨0, 0⟩, args := #[] }]
def about1 : State := aboutOver below0
def p0 : Program := .bare "" "" ""
def e0 : Env := launch0.env 0 0 0
theorem w_frames : about1.frames = Frame.invoking theMethod args0 :: below0 := rfl
set_option maxRecDepth 65536 in
theorem w_args : argsFit about1.vm theMethod args0 = true := by decide +kernel
set_option maxRecDepth 65536 in
theorem w_heap : heapFits about1 = true := by decide +kernel
set_option maxRecDepth 65536 in
theorem w_runnable : about1.curStatus? = some .runnable := by decide +kernel
set_option maxRecDepth 65536 in
theorem w_alone : about1.alone = true := by decide +kernel
set_option maxRecDepth 65536 in
theorem w_named : about1.methodNamed? x = some theMethod := by decide +kernel
set_option maxRecDepth 65536 in
theorem w_hears : about1.hears theMethod below0 = true := by decide +kernel
set_option maxRecDepth 65536 in
theorem w_ripe : about1.ripe theMethod args0 below0 = true := by decide +kernel
theorem w_running : about1.status = .running := rfl
set_option maxRecDepth 65536 in
theorem w_room : about1.hasRoom e0.platform room_1 = true :=
  launch0.hasRoom_least _ room_1 (by decide +kernel) (by decide +kernel) (by decide +kernel) (by decide +kernel) (by decide +kernel) (by decide +kernel)
theorem allAtoms_all (ts : List Jvm.Cond) (a : Array Jvm.Value) (st : Jvm.State) : (allAtoms ts).before a st = ts.all (fun c => c.before a st) := by
  induction ts with
  | nil => rfl
  | cons c t ih =>
    show (Jvm.Cond.and c (allAtoms t)).before a st = _
    rw [Jvm.Cond.before_and, ih, List.all_cons]
def words1 : List Jvm.Cond := Jvm.Cond.code x code maxLocals ret :: tables_1
/-- a 'code' word, met by the world's own term for the bytes: nothing is compared byte by byte -/
theorem code_word {y : MethodName} {bytes : ByteArray} {mx : Nat} {rt : Option FieldType} {a : Array Value} {s : State} {m : MethodId} {meth : Method} {c : Code} (h1 : s.methodNamed? y = some m) (h2 : s.vm.method? m = some meth) (h3 : meth.code = some c) (h4 : c.code = bytes)
    (h5 : (c.maxLocals == mx && c.exceptionTable.isEmpty && decide (c.maxStack ≤ mostOperands) && decide (meth.sig.returnType = rt) && !meth.locks && decide (parseMethodDescriptor y.desc = some meth.sig)) = true) : (Jvm.Cond.code y bytes mx rt).before a s = true := by
  simp only [Bool.and_eq_true, beq_iff_eq, Bool.not_eq_true', decide_eq_true_eq] at h5
  obtain ⟨⟨⟨⟨⟨g1, g2⟩, g3⟩, g4⟩, g5⟩, g6⟩ := h5
  simp [Cond.before, Cond.holds, Cond.value, h1, h2, h3, h4, g1, g2, g3, g4, g5, g6]
def isCode : Jvm.Cond → Bool
  | .code _ _ _ _ => true
  | _ => false
theorem all_split {L : List Jvm.Cond} {P : Jvm.Cond → Bool} (h1 : L.all (fun c => isCode c || P c) = true) (h2 : ∀ c ∈ L.filter isCode, P c = true) : L.all P = true := by
  refine List.all_eq_true.mpr fun c hc => ?_
  have h := List.all_eq_true.mp h1 c hc
  rcases Bool.eq_false_or_eq_true (isCode c) with hi | hi
  · exact h2 c (List.mem_filter.mpr ⟨hc, hi⟩)
  · simpa [hi] using h
set_option maxRecDepth 65536 in
theorem w_c0 : (Jvm.Cond.code x code maxLocals ret).before args0 about1 = true := code_word (m := ⟨1, 1⟩) (meth := k1m1) (c := k1c1) (by decide +kernel) rfl rfl rfl (by decide +kernel)
set_option maxRecDepth 65536 in
theorem w_c1 : (Jvm.Cond.code ({ cls := "com/example/exact_membership/exactmembership/model/EpochDaysDayOfMonthPinLaw", name := "monthLength", desc := "(JI)I" } : Jvm.MethodName) method_3_code (4 : Nat) (Option.some Jvm.ClassFile.FieldType.int)).before args0 about1 = true := code_word (m := ⟨1, 2⟩) (meth := k1m2) (c := k1c2) (by decide +kernel) rfl rfl rfl (by decide +kernel)
set_option maxRecDepth 65536 in
theorem w_c2 : (Jvm.Cond.code ({ cls := "com/example/exact_membership/exactmembership/model/EpochDays", name := "of", desc := "(JII)J" } : Jvm.MethodName) prog_18_method_2_code (14 : Nat) (Option.some Jvm.ClassFile.FieldType.long)).before args0 about1 = true := code_word (m := ⟨2, 1⟩) (meth := k2m1) (c := k2c1) (by decide +kernel) rfl rfl rfl (by decide +kernel)
set_option maxRecDepth 65536 in
theorem w_c3 : (Jvm.Cond.code ({ cls := "java/lang/Math", name := "floorDiv", desc := "(JI)J" } : Jvm.MethodName) jdk_29_method_48_code (3 : Nat) (Option.some Jvm.ClassFile.FieldType.long)).before args0 about1 = true := code_word (m := ⟨3, 1⟩) (meth := k3m1) (c := k3c1) (by decide +kernel) rfl rfl rfl (by decide +kernel)
set_option maxRecDepth 65536 in
theorem w_c4 : (Jvm.Cond.code ({ cls := "java/lang/Math", name := "floorDiv", desc := "(JJ)J" } : Jvm.MethodName) jdk_29_method_49_code (6 : Nat) (Option.some Jvm.ClassFile.FieldType.long)).before args0 about1 = true := code_word (m := ⟨3, 2⟩) (meth := k3m2) (c := k3c2) (by decide +kernel) rfl rfl rfl (by decide +kernel)
set_option maxRecDepth 65536 in
theorem w_c5 : (Jvm.Cond.code ({ cls := "com/example/exact_membership/exactmembership/model/EpochDays", name := "dayOfMonth", desc := "(J)I" } : Jvm.MethodName) prog_18_method_5_code (5 : Nat) (Option.some Jvm.ClassFile.FieldType.int)).before args0 about1 = true := code_word (m := ⟨2, 2⟩) (meth := k2m2) (c := k2c2) (by decide +kernel) rfl rfl rfl (by decide +kernel)
set_option maxRecDepth 65536 in
theorem w_c6 : (Jvm.Cond.code ({ cls := "com/example/exact_membership/exactmembership/model/EpochDays", name := "dayOfEra", desc := "(J)I" } : Jvm.MethodName) prog_18_method_6_code (2 : Nat) (Option.some Jvm.ClassFile.FieldType.int)).before args0 about1 = true := code_word (m := ⟨2, 3⟩) (meth := k2m3) (c := k2c3) (by decide +kernel) rfl rfl rfl (by decide +kernel)
set_option maxRecDepth 65536 in
theorem w_c7 : (Jvm.Cond.code ({ cls := "java/lang/Math", name := "floorMod", desc := "(JI)I" } : Jvm.MethodName) jdk_29_method_51_code (3 : Nat) (Option.some Jvm.ClassFile.FieldType.int)).before args0 about1 = true := code_word (m := ⟨3, 3⟩) (meth := k3m3) (c := k3c3) (by decide +kernel) rfl rfl rfl (by decide +kernel)
set_option maxRecDepth 65536 in
theorem w_c8 : (Jvm.Cond.code ({ cls := "java/lang/Math", name := "floorMod", desc := "(JJ)J" } : Jvm.MethodName) jdk_29_method_52_code (6 : Nat) (Option.some Jvm.ClassFile.FieldType.long)).before args0 about1 = true := code_word (m := ⟨3, 4⟩) (meth := k3m4) (c := k3c4) (by decide +kernel) rfl rfl rfl (by decide +kernel)
set_option maxRecDepth 65536 in
theorem w_c9 : (Jvm.Cond.code ({ cls := "com/example/exact_membership/exactmembership/model/EpochDays", name := "yearOfEra", desc := "(I)I" } : Jvm.MethodName) prog_18_method_7_code (1 : Nat) (Option.some Jvm.ClassFile.FieldType.int)).before args0 about1 = true := code_word (m := ⟨2, 4⟩) (meth := k2m4) (c := k2c4) (by decide +kernel) rfl rfl rfl (by decide +kernel)
set_option maxRecDepth 65536 in
theorem w_c10 : (Jvm.Cond.code ({ cls := "com/example/exact_membership/exactmembership/model/EpochDays", name := "dayOfYear", desc := "(II)I" } : Jvm.MethodName) prog_18_method_8_code (2 : Nat) (Option.some Jvm.ClassFile.FieldType.int)).before args0 about1 = true := code_word (m := ⟨2, 5⟩) (meth := k2m5) (c := k2c5) (by decide +kernel) rfl rfl rfl (by decide +kernel)
def codes1 : List Jvm.Cond := [Jvm.Cond.code x code maxLocals ret, Jvm.Cond.code ({ cls := "com/example/exact_membership/exactmembership/model/EpochDaysDayOfMonthPinLaw", name := "monthLength", desc := "(JI)I" } : Jvm.MethodName) method_3_code (4 : Nat) (Option.some Jvm.ClassFile.FieldType.int), Jvm.Cond.code ({ cls := "com/example/exact_membership/exactmembership/model/EpochDays", name := "of", desc := "(JII)J" } : Jvm.MethodName) prog_18_method_2_code (14 : Nat) (Option.some Jvm.ClassFile.FieldType.long), Jvm.Cond.code ({ cls := "java/lang/Math", name := "floorDiv", desc := "(JI)J" } : Jvm.MethodName) jdk_29_method_48_code (3 : Nat) (Option.some Jvm.ClassFile.FieldType.long), Jvm.Cond.code ({ cls := "java/lang/Math", name := "floorDiv", desc := "(JJ)J" } : Jvm.MethodName) jdk_29_method_49_code (6 : Nat) (Option.some Jvm.ClassFile.FieldType.long), Jvm.Cond.code ({ cls := "com/example/exact_membership/exactmembership/model/EpochDays", name := "dayOfMonth", desc := "(J)I" } : Jvm.MethodName) prog_18_method_5_code (5 : Nat) (Option.some Jvm.ClassFile.FieldType.int), Jvm.Cond.code ({ cls := "com/example/exact_membership/exactmembership/model/EpochDays", name := "dayOfEra", desc := "(J)I" } : Jvm.MethodName) prog_18_method_6_code (2 : Nat) (Option.some Jvm.ClassFile.FieldType.int), Jvm.Cond.code ({ cls := "java/lang/Math", name := "floorMod", desc := "(JI)I" } : Jvm.MethodName) jdk_29_method_51_code (3 : Nat) (Option.some Jvm.ClassFile.FieldType.int), Jvm.Cond.code ({ cls := "java/lang/Math", name := "floorMod", desc := "(JJ)J" } : Jvm.MethodName) jdk_29_method_52_code (6 : Nat) (Option.some Jvm.ClassFile.FieldType.long), Jvm.Cond.code ({ cls := "com/example/exact_membership/exactmembership/model/EpochDays", name := "yearOfEra", desc := "(I)I" } : Jvm.MethodName) prog_18_method_7_code (1 : Nat) (Option.some Jvm.ClassFile.FieldType.int), Jvm.Cond.code ({ cls := "com/example/exact_membership/exactmembership/model/EpochDays", name := "dayOfYear", desc := "(II)I" } : Jvm.MethodName) prog_18_method_8_code (2 : Nat) (Option.some Jvm.ClassFile.FieldType.int)]
set_option maxRecDepth 65536 in
theorem codes_eq : words1.filter isCode = codes1 := rfl
theorem w_codes : ∀ c ∈ words1.filter isCode, c.before args0 about1 = true := by
  rw [codes_eq]
  intro c hc
  simp only [codes1, List.mem_cons, List.not_mem_nil, or_false] at hc
  rcases hc with rfl | rfl | rfl | rfl | rfl | rfl | rfl | rfl | rfl | rfl | rfl
  · exact w_c0
  · exact w_c1
  · exact w_c2
  · exact w_c3
  · exact w_c4
  · exact w_c5
  · exact w_c6
  · exact w_c7
  · exact w_c8
  · exact w_c9
  · exact w_c10
set_option maxRecDepth 65536 in
theorem w_t1 : (words1.take 24).all (fun c => isCode c || c.before args0 about1) = true := by decide +kernel
set_option maxRecDepth 65536 in
theorem w_t2 : (words1.drop 24).all (fun c => isCode c || c.before args0 about1) = true := by decide +kernel
theorem w_tables : (allAtoms (Jvm.Cond.code x code maxLocals ret :: tables_1)).before args0 about1 = true := by
  rw [allAtoms_all]
  show words1.all (fun c => c.before args0 about1) = true
  refine all_split ?_ w_codes
  rw [← List.take_append_drop 24 words1, List.all_append, w_t1, w_t2]
  rfl
set_option maxRecDepth 65536 in
theorem w_case : (Jvm.Cond.and given_1 narrow_1).before args0 about1 = true := by decide +kernel
theorem w_applies : (headSpec (Jvm.Cond.code x code maxLocals ret :: tables_1) room_1).applies x e0.platform about1 = true :=
  (Spec.applies_iff w_frames).mpr ⟨w_running, w_runnable, w_alone, w_named, w_hears, w_ripe, w_room, w_tables⟩
theorem atStart : AtStart classFile x code maxLocals ret World_1 tables_1 room_1 Calls_1 rest_1 Pre_1 launch0 p0 e0 about1 theMethod args0 below0 :=
  ⟨lists_1, trivial, launch0.admits_env _ _ _, launch0.least_env, fairChoices_fair.cas, fairChoices_fair.clock, w_frames, w_args, w_heap, w_applies, trivial, trivial, w_case⟩
end start1
theorem witness_1 : WitnessClaimed_1 := ⟨start1.p0, start1.e0, start1.about1, start1.theMethod, start1.args0, start1.below0, start1.atStart⟩
end Jvm.Pilot.@@N@@
