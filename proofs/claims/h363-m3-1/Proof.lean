import JvmDerived
import JvmDerived.Pilot.@@N@@Statement
import JvmDerived.Pilot.@@N@@Code
set_option linter.unusedVariables false
set_option linter.unusedSimpArgs false
namespace Jvm.Pilot.@@N@@
open Jvm Jvm.ClassFile Sem Op Lib Jvm.Free Jvm.Stand Jvm.LawKit Jvm.RoadKit Bundle Jvm.Pilot.@@N@@.Jvm.D
section Own
variable {p : Program} {l : Launch} {e : Env} {R : Room} {s : State} {m : MethodId} {args : Array Value} {below : List Frame} {meth : Method} {c : Code} {T : State} {locs : List Loc} {cells slots : Nat} {Z : State} {a0 : Array Value} {h h' : Heap}
/-- from S the walk comes to the method's end, where Q holds of what is returned, the heap and the written places -/
def OEnds (p : Program) (e : Env) (below : List Frame) (s : State) (Q : Option Value → Heap → List Loc → Prop) (K N : Nat) (S : State) : Prop :=
  ∃ s₂ o, Steps p.tables e below S s₂ ∧ s₂.status = .running ∧ Ended s₂ below o ∧ ∃ v L, o = .returned v ∧ Q v s₂.heap L ∧ FrameEnd s o s₂ L K N
variable {Q Q' : Option Value → Heap → List Loc → Prop} {K N : Nat} {S S' : State}
theorem own_by (st : ∀ t, Steps p.tables e below S' t → Steps p.tables e below S t) (k : OEnds p e below s Q K N S') : OEnds p e below s Q K N S := by
  obtain ⟨a, o, h1, h2⟩ := k
  exact ⟨a, o, st _ h1, h2⟩
theorem own_tr (st : Steps p.tables e below S S') (k : OEnds p e below s Q K N S') : OEnds p e below s Q K N S := by
  obtain ⟨a, o, h1, h2⟩ := k
  exact ⟨a, o, st.trans h1, h2⟩
theorem own_mono (f : ∀ v h L, Q' v h L → Q v h L) (k : OEnds p e below s Q' K N S) : OEnds p e below s Q K N S := by
  obtain ⟨a, o, h1, h2, h3, v, L, h4, h5, h6⟩ := k
  exact ⟨a, o, h1, h2, h3, v, L, h4, f _ _ _ h5, h6⟩
theorem own_fin (X : Stand p l e R s m args below meth c T locs cells slots) (hlk : meth.locks = false) {v : Option Value} (hv : meth.sig.returnType = none → v = none) (hQ : Q v T.heap locs) (hK : cells ≤ K) (hN : slots ≤ N)
    (hst : ∀ fs, (∀ (f : JFrame) (acts : List Action), f.method = m → f.locked = none → f.entered = [] → (doReturn e (T.setTop f) acts v).1 = T.setFrames fs) → Steps p.tables e below S (T.setFrames fs)) : OEnds p e below s Q K N S := by
  obtain ⟨fs, hr, hrun, hended, hW, hsame⟩ := X.leave hv hlk
  exact ⟨_, _, hst fs hr, hrun, hended, _, _, rfl, hQ, ⟨_, rfl⟩, hW, hsame.mono hK hN⟩
theorem own_retI (X : Stand p l e R s m args below meth c T locs cells slots) (hx : p.tables.exec = Jvm.exec) (hlk : meth.locks = false) {pc : Nat} {Ls : Array Slot} {z : Int32} {rest : List Value} (hret : meth.sig.returnType = some .int) (hd : decode c.code pc = .ok (.ireturn, 1))
    (hQ : Q (some (.int z)) T.heap locs) (hK : cells ≤ K) (hN : slots ≤ N) : OEnds p e below s Q K N (T.setTop (mkF m pc Ls (.int z :: rest))) :=
  own_fin X hlk (fun q => by rw [hret] at q; cases q) hQ hK hN fun _ hr => retOut X hx hret rfl (Or.inl ⟨rfl, Or.inl rfl, _, rfl⟩) hd hr
theorem own_retN (X : Stand p l e R s m args below meth c T locs cells slots) (hx : p.tables.exec = Jvm.exec) (hlk : meth.locks = false) (t : FieldType) (ht : t = .boolean ∨ t = .byte ∨ t = .char ∨ t = .short) {pc : Nat} {Ls : Array Slot} {z : Int32} {rest : List Value} (hret : meth.sig.returnType = some t) (hd : decode c.code pc = .ok (.ireturn, 1))
    (hQ : Q (some (.int (nar t z))) T.heap locs) (hK : cells ≤ K) (hN : slots ≤ N) : OEnds p e below s Q K N (T.setTop (mkF m pc Ls (.int z :: rest))) :=
  own_fin X hlk (fun q => by rw [hret] at q; cases q) hQ hK hN fun _ hr => retN X hx hret ht hd hr
theorem own_retJ (X : Stand p l e R s m args below meth c T locs cells slots) (hx : p.tables.exec = Jvm.exec) (hlk : meth.locks = false) {pc : Nat} {Ls : Array Slot} {z : Int64} {rest : List Value} (hret : meth.sig.returnType = some .long) (hd : decode c.code pc = .ok (.lreturn, 1))
    (hQ : Q (some (.long z)) T.heap locs) (hK : cells ≤ K) (hN : slots ≤ N) : OEnds p e below s Q K N (T.setTop (mkF m pc Ls (.long z :: rest))) :=
  own_fin X hlk (fun q => by rw [hret] at q; cases q) hQ hK hN fun _ hr => retOut X hx hret rfl (Or.inr (Or.inl ⟨rfl, rfl, _, rfl⟩)) hd hr
theorem own_retA (X : Stand p l e R s m args below meth c T locs cells slots) (hx : p.tables.exec = Jvm.exec) (hlk : meth.locks = false) {t : FieldType} (ht : t.isReference = true) {pc : Nat} {Ls : Array Slot} {a : Addr} {rest : List Value} (hret : meth.sig.returnType = some t) (hn : narrow t (.ref a) = .ref a) (hd : decode c.code pc = .ok (.areturn, 1))
    (hQ : Q (some (.ref a)) T.heap locs) (hK : cells ≤ K) (hN : slots ≤ N) : OEnds p e below s Q K N (T.setTop (mkF m pc Ls (.ref a :: rest))) :=
  own_fin X hlk (fun q => by rw [hret] at q; cases q) hQ hK hN fun _ hr => retOut X hx hret hn (Or.inr (Or.inr (Or.inr (Or.inr ⟨rfl, ht, rfl⟩)))) hd hr
theorem own_retV (X : Stand p l e R s m args below meth c T locs cells slots) (hx : p.tables.exec = Jvm.exec) (hlk : meth.locks = false) {pc : Nat} {Ls : Array Slot} (hret : meth.sig.returnType = none) (hd : decode c.code pc = .ok (.return_, 1))
    (hQ : Q none T.heap locs) (hK : cells ≤ K) (hN : slots ≤ N) : OEnds p e below s Q K N (T.setTop (mkF m pc Ls [])) :=
  own_fin X hlk (fun _ => rfl) hQ hK hN fun _ hr => X.returnOut hx hret hd hr
/-- what a plain method leaves: its value, nothing written, the heap as it was -/
def QP (r : Value) (h0 : Heap) (v : Option Value) (h : Heap) (L : List Loc) : Prop := v = some r ∧ L = [] ∧ h = h0
theorem own_eq {r r' : Value} {h0 : Heap} (q : r = r') (k : OEnds p e below s (QP r' h0) K N S) : OEnds p e below s (QP r h0) K N S := by subst q; exact k
theorem own_lrem {g : JFrame} {target : State} (X : Stand p l e R s m args below meth c T locs cells slots) (hx : p.tables.exec = Jvm.exec) (hg : g.method = m) {x y : Int64} {rest : List Value} (hd : decode c.code g.pc = .ok (.lrem, 1)) (hs : g.stack = .long y :: .long x :: rest) (hy : y ≠ 0)
    (hr : Steps p.tables e below (T.setTop { g with pc := g.pc + 1, stack := .long (x % y) :: rest }) target) : Steps p.tables e below (T.setTop g) target := by
  have q : x - x / y * y = x % y := lrem_mod x y
  exact XS.lrem X.here hx hg hd hs hy (by rw [q]; exact hr)
/-- a call of a plain static method by its contract -/
theorem own_callP (X : Stand p l e R s m args below meth c T locs cells slots) (hx : p.tables.exec = Jvm.exec) (hZ : Z.Warmed39 s.vm) {own : String} {index : Nat} {y : MethodName} {bytes : ByteArray} {maxL : Nat} {ret : Option FieldType} {fr lo : Nat} {r : Value} {argsL rest : List Value} {g : JFrame}
    (hown : s.vm.findClass own = some m.cls) (w1 : (Cond.methodLink own index y).before a0 Z = true) (w2 : (Cond.static y).before a0 Z = true) (w3 : (Cond.initialized y.cls).before a0 Z = true) (w4 : (Cond.code y bytes maxL ret).before a0 Z = true)
    (hy : y.cls ≠ "java/lang/invoke/MethodHandle" ∧ y.cls ≠ "java/lang/invoke/VarHandle")
    (hM : MetFree l y (head1 [Cond.code y bytes maxL ret] ({ frames := fr, cells := 0, slots := 0, locals := lo } : Room)) (fun a U => a = argsL.toArray ∧ Z.Warmed39 U.vm ∧ U.heap = h) (fun _ _ _ _ _ => True) (fun _ U o U' => ∃ v L, o = .returned v ∧ QP r h v U'.heap L ∧ FrameEnd U o U' L 0 0))
    (eT : T.heap = h) (hg : g.method = m) (hsize : g.locals.size = c.maxLocals) (hlen : ∀ sig, parseMethodDescriptor y.desc = some sig → argsL.length = sig.parameters.length) (hstack : g.stack = argsL.reverse ++ rest) {W : Nat} (hW : 2 * g.monitorRoom + (rest.map fun v => v.category).sum ≤ W)
    (hd : decode c.code g.pc = .ok (.invokestatic index, 3)) (hf : fr + 1 ≤ R.frames) (hl : W + (maxL + 11) + lo ≤ R.locals) (hc : cells ≤ R.cells) (hs : slots ≤ R.slots) :
    ∃ T', Stand p l e R s m args below meth c T' locs cells slots ∧ T'.heap = h ∧ ∀ target, Steps p.tables e below (T'.setTop { g with pc := g.pc + 3, stack := r :: rest }) target → Steps p.tables e below (T.setTop g) target := by
  obtain ⟨_, _, ⟨T1, L1, k1, n1⟩, -, X1, ⟨Lc, hQ, l1, y1, z1⟩, st⟩ := Jvm.LawKit.callS X hx (y := y) hown (mvT hZ w1) (mvT hZ w2) (mvT hZ w3) (mvT hZ w4) hy (backOf (rm := ({ frames := fr, cells := 0, slots := 0, locals := lo } : Room)) (W := W) hM hZ w4 w3 hf hl) (g := g) hg hsize (argsL := argsL) (rest := rest) hlen hstack hW hd (fun _ _ => ⟨rfl, eT, hc, hs⟩)
  dsimp only [Pt.U, Pt.locs, Pt.cells, Pt.slots] at X1 l1 y1 z1 st hQ
  subst l1 y1 z1
  obtain ⟨rfl, rfl, e1⟩ := hQ
  rw [List.append_nil] at X1
  exact ⟨T1, X1, e1, st⟩
end Own
theorem pd_pJrJ : parseMethodDescriptor "(J)J" = some ⟨[.long], some .long⟩ := by decide +kernel
theorem pd_pJIrI : parseMethodDescriptor "(JI)I" = some ⟨[.long, .int], some .int⟩ := by decide +kernel
theorem pd_pJIrJ : parseMethodDescriptor "(JI)J" = some ⟨[.long, .int], some .long⟩ := by decide +kernel
theorem pd_pJIIrJ : parseMethodDescriptor "(JII)J" = some ⟨[.long, .int, .int], some .long⟩ := by decide +kernel
theorem pd_pJJrJ : parseMethodDescriptor "(JJ)J" = some ⟨[.long, .long], some .long⟩ := by decide +kernel
theorem d3_0 : decode jdk_29_method_49_code 0 = .ok (.lload_n 0, 1) := by decide +kernel
theorem d3_1 : decode jdk_29_method_49_code 1 = .ok (.lload_n 2, 1) := by decide +kernel
theorem d3_2 : decode jdk_29_method_49_code 2 = .ok (.ldiv, 1) := by decide +kernel
theorem d3_3 : decode jdk_29_method_49_code 3 = .ok (.lstore 4, 2) := by decide +kernel
theorem d3_5 : decode jdk_29_method_49_code 5 = .ok (.lload_n 0, 1) := by decide +kernel
theorem d3_6 : decode jdk_29_method_49_code 6 = .ok (.lload_n 2, 1) := by decide +kernel
theorem d3_7 : decode jdk_29_method_49_code 7 = .ok (.lxor, 1) := by decide +kernel
theorem d3_8 : decode jdk_29_method_49_code 8 = .ok (.lconst 0, 1) := by decide +kernel
theorem d3_9 : decode jdk_29_method_49_code 9 = .ok (.lcmp, 1) := by decide +kernel
theorem d3_10 : decode jdk_29_method_49_code 10 = .ok (.ifCond .ge 17, 3) := by decide +kernel
theorem d3_13 : decode jdk_29_method_49_code 13 = .ok (.lload 4, 2) := by decide +kernel
theorem d3_15 : decode jdk_29_method_49_code 15 = .ok (.lload_n 2, 1) := by decide +kernel
theorem d3_16 : decode jdk_29_method_49_code 16 = .ok (.lmul, 1) := by decide +kernel
theorem d3_17 : decode jdk_29_method_49_code 17 = .ok (.lload_n 0, 1) := by decide +kernel
theorem d3_18 : decode jdk_29_method_49_code 18 = .ok (.lcmp, 1) := by decide +kernel
theorem d3_19 : decode jdk_29_method_49_code 19 = .ok (.ifCond .eq 8, 3) := by decide +kernel
theorem d3_22 : decode jdk_29_method_49_code 22 = .ok (.lload 4, 2) := by decide +kernel
theorem d3_24 : decode jdk_29_method_49_code 24 = .ok (.lconst 1, 1) := by decide +kernel
theorem d3_25 : decode jdk_29_method_49_code 25 = .ok (.lsub, 1) := by decide +kernel
theorem d3_26 : decode jdk_29_method_49_code 26 = .ok (.lreturn, 1) := by decide +kernel
theorem d3_27 : decode jdk_29_method_49_code 27 = .ok (.lload 4, 2) := by decide +kernel
theorem d3_29 : decode jdk_29_method_49_code 29 = .ok (.lreturn, 1) := by decide +kernel
theorem ef_3 (m : MethodId) (q0 : Int64) (q1 : Int64) : entryFrame m #[(.long q0), (.long q1)] 6 = mkF m 0 #[.val (.long q0), .second, .val (.long q1), .second, .unset, .unset] [] := by first | (simp [entryFrame, mkF, argsToLocals, Value.category]; done) | rfl
def fdivL_27 (q0 : Int64) (q1 : Int64) : Int64 := (q0 / q1)
def fdivL (q0 : Int64) (q1 : Int64) : Int64 := if (q0 ^^^ q1) < (0 : Int64) then if ((q0 / q1) * q1) = q0 then (fdivL_27 q0 q1) else ((q0 / q1) - (1 : Int64)) else (fdivL_27 q0 q1)
set_option maxRecDepth 65536 in
set_option maxHeartbeats 40000000 in
theorem rm_fdivL (l : Launch) (Z : State) (a0 : Array Value) (hw : ∀ d ∈ tables_1, d.before a0 Z = true) (ws : List Jvm.Cond) (q0 : Int64) (q1 : Int64) (h0 : Heap) (hnz_q1 : q1 ≠ 0) :
    MetFree l (⟨"java/lang/Math", "floorDiv", "(JJ)J"⟩ : MethodName) (head1 (Jvm.Cond.code (⟨"java/lang/Math", "floorDiv", "(JJ)J"⟩ : MethodName) jdk_29_method_49_code 6 (some .long) :: ws) ({ frames := 0, cells := 0, slots := 0, locals := 0 } : Room)) (fun a U => a = #[(.long q0), (.long q1)] ∧ Z.Warmed39 U.vm ∧ U.heap = h0) (fun _ _ _ _ _ => True) (fun _ U o U' => ∃ v L, o = .returned v ∧ QP (Value.long (fdivL q0 q1)) h0 v U'.heap L ∧ FrameEnd U o U' L 0 0) := by
  refine MetFree.of_bodySF (Jvm.Free.JP.mathPlain rfl (by decide +kernel)) hisR ?_
  intro p e s m args below meth c s₁ Bd hml0 hP hK
  obtain ⟨rfl, hZ, hh⟩ := hP
  have hx := Bd.exec
  have hby := Bd.bytes
  have hlk : meth.locks = false := Bd.notSynchronized
  have hml : c.maxLocals = 6 := hml0
  have hown : s.vm.findClass "java/lang/Math" = some m.cls := findClass_of_methodNamed Bd.named
  have X0 : Stand p l e ({ frames := 0, cells := 0, slots := 0, locals := 0 } : Room) s m #[(.long q0), (.long q1)] below meth c s₁ [] 0 0 := Stand.of_body Bd
  have e0 : s₁.heap = h0 := by rw [← hh, Bd.state]; rfl
  have bfdivL_27 : ∀ (T : State) (X : Stand p l e ({ frames := 0, cells := 0, slots := 0, locals := 0 } : Room) s m #[(.long q0), (.long q1)] below meth c T [] 0 0) (eT : T.heap = h0), OEnds p e below s (QP (Value.long (fdivL_27 q0 q1)) h0) 0 0 (T.setTop (mkF m 27 #[.val (.long q0), .second, .val (.long q1), .second, .val (.long (q0 / q1)), .second] [])) := by
    intro T X eT
    refine own_by (fun _ k => XS.lload X.here hx rfl (hb hby d3_27) rfl k) ?_
    show OEnds p e below s _ _ _ (T.setTop (mkF m 29 #[.val (.long q0), .second, .val (.long q1), .second, .val (.long (q0 / q1)), .second] [(.long (q0 / q1))]))
    exact own_retJ X hx hlk Bd.returns (hb hby d3_29) ⟨congrArg (fun z => some (Value.long z)) (Eq.symm (by rw [fdivL_27] <;> rfl)), rfl, eT⟩ (Nat.le_refl _) (Nat.le_refl _)
  show OEnds p e below s _ _ _ _
  refine own_by (fun t k => castTop (ef_3 m q0 q1) k) ?_
  show OEnds p e below s _ _ _ (s₁.setTop (mkF m 0 #[.val (.long q0), .second, .val (.long q1), .second, .unset, .unset] []))
  refine own_by (fun _ k => XS.lloadN X0.here hx rfl (hb hby d3_0) rfl k) ?_
  show OEnds p e below s _ _ _ (s₁.setTop (mkF m 1 #[.val (.long q0), .second, .val (.long q1), .second, .unset, .unset] [(.long q0)]))
  refine own_by (fun _ k => XS.lloadN X0.here hx rfl (hb hby d3_1) rfl k) ?_
  show OEnds p e below s _ _ _ (s₁.setTop (mkF m 2 #[.val (.long q0), .second, .val (.long q1), .second, .unset, .unset] [(.long q1), (.long q0)]))
  refine own_by (fun _ k => XS.ldiv X0.here hx rfl (hb hby d3_2) rfl hnz_q1 k) ?_
  show OEnds p e below s _ _ _ (s₁.setTop (mkF m 3 #[.val (.long q0), .second, .val (.long q1), .second, .unset, .unset] [(.long (q0 / q1))]))
  refine own_by (fun _ k => XS.lstore X0.here hx rfl (hb hby d3_3) rfl (l' := #[.val (.long q0), .second, .val (.long q1), .second, .val (.long (q0 / q1)), .second]) rfl k) ?_
  show OEnds p e below s _ _ _ (s₁.setTop (mkF m 5 #[.val (.long q0), .second, .val (.long q1), .second, .val (.long (q0 / q1)), .second] []))
  refine own_by (fun _ k => XS.lloadN X0.here hx rfl (hb hby d3_5) rfl k) ?_
  show OEnds p e below s _ _ _ (s₁.setTop (mkF m 6 #[.val (.long q0), .second, .val (.long q1), .second, .val (.long (q0 / q1)), .second] [(.long q0)]))
  refine own_by (fun _ k => XS.lloadN X0.here hx rfl (hb hby d3_6) rfl k) ?_
  show OEnds p e below s _ _ _ (s₁.setTop (mkF m 7 #[.val (.long q0), .second, .val (.long q1), .second, .val (.long (q0 / q1)), .second] [(.long q1), (.long q0)]))
  refine own_by (fun _ k => XS.lxor X0.here hx rfl (hb hby d3_7) rfl k) ?_
  show OEnds p e below s _ _ _ (s₁.setTop (mkF m 8 #[.val (.long q0), .second, .val (.long q1), .second, .val (.long (q0 / q1)), .second] [(.long (q0 ^^^ q1))]))
  refine own_by (fun _ k => XS.lconst X0.here hx rfl (hb hby d3_8) k) ?_
  show OEnds p e below s _ _ _ (s₁.setTop (mkF m 9 #[.val (.long q0), .second, .val (.long q1), .second, .val (.long (q0 / q1)), .second] [(.long (0 : Int64)), (.long (q0 ^^^ q1))]))
  refine own_by (fun _ k => XS.lcmp X0.here hx rfl (hb hby d3_9) rfl k) ?_
  show OEnds p e below s _ _ _ (s₁.setTop (mkF m 10 #[.val (.long q0), .second, .val (.long q1), .second, .val (.long (q0 / q1)), .second] [(.int (lcmpW (q0 ^^^ q1) (0 : Int64)))]))
  by_cases hc10 : (q0 ^^^ q1) < (0 : Int64)
  · refine own_by (fun _ k => XS.ifNo X0.here hx rfl (hb hby d3_10) rfl ((if0 _ _).trans (tlt ((lw_lt _ _).mpr hc10)).2.1) k) ?_
    show OEnds p e below s _ _ _ (s₁.setTop (mkF m 13 #[.val (.long q0), .second, .val (.long q1), .second, .val (.long (q0 / q1)), .second] []))
    refine own_by (fun _ k => XS.lload X0.here hx rfl (hb hby d3_13) rfl k) ?_
    show OEnds p e below s _ _ _ (s₁.setTop (mkF m 15 #[.val (.long q0), .second, .val (.long q1), .second, .val (.long (q0 / q1)), .second] [(.long (q0 / q1))]))
    refine own_by (fun _ k => XS.lloadN X0.here hx rfl (hb hby d3_15) rfl k) ?_
    show OEnds p e below s _ _ _ (s₁.setTop (mkF m 16 #[.val (.long q0), .second, .val (.long q1), .second, .val (.long (q0 / q1)), .second] [(.long q1), (.long (q0 / q1))]))
    refine own_by (fun _ k => XS.lmul X0.here hx rfl (hb hby d3_16) rfl k) ?_
    show OEnds p e below s _ _ _ (s₁.setTop (mkF m 17 #[.val (.long q0), .second, .val (.long q1), .second, .val (.long (q0 / q1)), .second] [(.long ((q0 / q1) * q1))]))
    refine own_by (fun _ k => XS.lloadN X0.here hx rfl (hb hby d3_17) rfl k) ?_
    show OEnds p e below s _ _ _ (s₁.setTop (mkF m 18 #[.val (.long q0), .second, .val (.long q1), .second, .val (.long (q0 / q1)), .second] [(.long q0), (.long ((q0 / q1) * q1))]))
    refine own_by (fun _ k => XS.lcmp X0.here hx rfl (hb hby d3_18) rfl k) ?_
    show OEnds p e below s _ _ _ (s₁.setTop (mkF m 19 #[.val (.long q0), .second, .val (.long q1), .second, .val (.long (q0 / q1)), .second] [(.int (lcmpW ((q0 / q1) * q1) q0))]))
    by_cases hc19 : ((q0 / q1) * q1) = q0
    · refine own_by (fun _ k => XS.ifYes X0.here hx rfl (pc0 := 19) (pc' := 27) rfl (hb hby d3_19) rfl ((if0 _ _).trans (teq ((lw_eq _ _).mpr hc19)).1) (by decide) (by decide) k) ?_
      show OEnds p e below s _ _ _ (s₁.setTop (mkF m 27 #[.val (.long q0), .second, .val (.long q1), .second, .val (.long (q0 / q1)), .second] []))
      exact own_eq (congrArg Value.long (by rw [fdivL, if_pos hc10, if_pos hc19] <;> rfl)) (bfdivL_27 s₁ X0 e0)
    · refine own_by (fun _ k => XS.ifNo X0.here hx rfl (hb hby d3_19) rfl ((if0 _ _).trans (feq (fun q => hc19 ((lw_eq _ _).mp q))).1) k) ?_
      show OEnds p e below s _ _ _ (s₁.setTop (mkF m 22 #[.val (.long q0), .second, .val (.long q1), .second, .val (.long (q0 / q1)), .second] []))
      refine own_by (fun _ k => XS.lload X0.here hx rfl (hb hby d3_22) rfl k) ?_
      show OEnds p e below s _ _ _ (s₁.setTop (mkF m 24 #[.val (.long q0), .second, .val (.long q1), .second, .val (.long (q0 / q1)), .second] [(.long (q0 / q1))]))
      refine own_by (fun _ k => XS.lconst X0.here hx rfl (hb hby d3_24) k) ?_
      show OEnds p e below s _ _ _ (s₁.setTop (mkF m 25 #[.val (.long q0), .second, .val (.long q1), .second, .val (.long (q0 / q1)), .second] [(.long (1 : Int64)), (.long (q0 / q1))]))
      refine own_by (fun _ k => XS.lsub X0.here hx rfl (hb hby d3_25) rfl k) ?_
      show OEnds p e below s _ _ _ (s₁.setTop (mkF m 26 #[.val (.long q0), .second, .val (.long q1), .second, .val (.long (q0 / q1)), .second] [(.long ((q0 / q1) - (1 : Int64)))]))
      exact own_retJ X0 hx hlk Bd.returns (hb hby d3_26) ⟨congrArg (fun z => some (Value.long z)) (Eq.symm (by rw [fdivL, if_pos hc10, if_neg hc19] <;> rfl)), rfl, e0⟩ (Nat.le_refl _) (Nat.le_refl _)
  · refine own_by (fun _ k => XS.ifYes X0.here hx rfl (pc0 := 10) (pc' := 27) rfl (hb hby d3_10) rfl ((if0 _ _).trans (flt (fun q => hc10 ((lw_lt _ _).mp q))).2.1) (by decide) (by decide) k) ?_
    show OEnds p e below s _ _ _ (s₁.setTop (mkF m 27 #[.val (.long q0), .second, .val (.long q1), .second, .val (.long (q0 / q1)), .second] []))
    exact own_eq (congrArg Value.long (by rw [fdivL, if_neg hc10] <;> rfl)) (bfdivL_27 s₁ X0 e0)
theorem d2_0 : decode jdk_29_method_48_code 0 = .ok (.lload_n 0, 1) := by decide +kernel
theorem d2_1 : decode jdk_29_method_48_code 1 = .ok (.iload_n 2, 1) := by decide +kernel
theorem d2_2 : decode jdk_29_method_48_code 2 = .ok (.i2l, 1) := by decide +kernel
theorem d2_3 : decode jdk_29_method_48_code 3 = .ok (.invokestatic 143, 3) := by decide +kernel
theorem d2_6 : decode jdk_29_method_48_code 6 = .ok (.lreturn, 1) := by decide +kernel
theorem ef_2 (m : MethodId) (q0 : Int64) (q1 : Int32) : entryFrame m #[(.long q0), (.int q1)] 3 = mkF m 0 #[.val (.long q0), .second, .val (.int q1)] [] := by first | (simp [entryFrame, mkF, argsToLocals, Value.category]; done) | rfl
def fdivI (q0 : Int64) (q1 : Int32) : Int64 := (fdivL q0 (q1.toInt64))
set_option maxRecDepth 65536 in
set_option maxHeartbeats 40000000 in
theorem rm_fdivI (l : Launch) (Z : State) (a0 : Array Value) (hw : ∀ d ∈ tables_1, d.before a0 Z = true) (ws : List Jvm.Cond) (q0 : Int64) (q1 : Int32) (h0 : Heap) (hnz : (q1.toInt64) ≠ 0) :
    MetFree l (⟨"java/lang/Math", "floorDiv", "(JI)J"⟩ : MethodName) (head1 (Jvm.Cond.code (⟨"java/lang/Math", "floorDiv", "(JI)J"⟩ : MethodName) jdk_29_method_48_code 3 (some .long) :: ws) ({ frames := 1, cells := 0, slots := 0, locals := 17 } : Room)) (fun a U => a = #[(.long q0), (.int q1)] ∧ Z.Warmed39 U.vm ∧ U.heap = h0) (fun _ _ _ _ _ => True) (fun _ U o U' => ∃ v L, o = .returned v ∧ QP (Value.long (fdivI q0 q1)) h0 v U'.heap L ∧ FrameEnd U o U' L 0 0) := by
  refine MetFree.of_bodySF (Jvm.Free.JP.mathPlain rfl (by decide +kernel)) hisR ?_
  intro p e s m args below meth c s₁ Bd hml0 hP hK
  obtain ⟨rfl, hZ, hh⟩ := hP
  have hx := Bd.exec
  have hby := Bd.bytes
  have hlk : meth.locks = false := Bd.notSynchronized
  have hml : c.maxLocals = 3 := hml0
  have hown : s.vm.findClass "java/lang/Math" = some m.cls := findClass_of_methodNamed Bd.named
  have X0 : Stand p l e ({ frames := 1, cells := 0, slots := 0, locals := 17 } : Room) s m #[(.long q0), (.int q1)] below meth c s₁ [] 0 0 := Stand.of_body Bd
  have e0 : s₁.heap = h0 := by rw [← hh, Bd.state]; rfl
  show OEnds p e below s _ _ _ _
  refine own_by (fun t k => castTop (ef_2 m q0 q1) k) ?_
  show OEnds p e below s _ _ _ (s₁.setTop (mkF m 0 #[.val (.long q0), .second, .val (.int q1)] []))
  refine own_by (fun _ k => XS.lloadN X0.here hx rfl (hb hby d2_0) rfl k) ?_
  show OEnds p e below s _ _ _ (s₁.setTop (mkF m 1 #[.val (.long q0), .second, .val (.int q1)] [(.long q0)]))
  refine own_by (fun _ k => XS.iloadN X0.here hx rfl (hb hby d2_1) rfl k) ?_
  show OEnds p e below s _ _ _ (s₁.setTop (mkF m 2 #[.val (.long q0), .second, .val (.int q1)] [(.int q1), (.long q0)]))
  refine own_by (fun _ k => XS.i2l X0.here hx rfl (hb hby d2_2) rfl k) ?_
  show OEnds p e below s _ _ _ (s₁.setTop (mkF m 3 #[.val (.long q0), .second, .val (.int q1)] [(.long (q1.toInt64)), (.long q0)]))
  obtain ⟨T2, X2, e2, st2⟩ := own_callP X0 hx hZ (y := (⟨"java/lang/Math", "floorDiv", "(JJ)J"⟩ : MethodName)) hown (hw _ (List.mem_of_getElem? (i := 8) rfl)) (hw _ (List.mem_of_getElem? (i := 9) rfl)) (hw _ (List.mem_of_getElem? (i := 6) rfl)) (hw _ (List.mem_of_getElem? (i := 10) rfl)) (by decide) (rm_fdivL l Z a0 hw [] q0 (q1.toInt64) h0 hnz) e0 (g := (mkF m 3 #[.val (.long q0), .second, .val (.int q1)] [(.long (q1.toInt64)), (.long q0)])) rfl (by rw [hml]; rfl) (argsL := [(.long q0), (.long (q1.toInt64))]) (rest := []) (lenOf pd_pJJrJ rfl) rfl (W := 0) (by show 2 * 0 + _ ≤ _; exact Nat.le_of_eq rfl) (hb hby d2_3) (by decide) (by decide) (by decide) (by decide)
  refine own_by st2 ?_
  show OEnds p e below s _ _ _ (T2.setTop (mkF m 6 #[.val (.long q0), .second, .val (.int q1)] [(.long (fdivL q0 (q1.toInt64)))]))
  exact own_retJ X2 hx hlk Bd.returns (hb hby d2_6) ⟨congrArg (fun z => some (Value.long z)) (Eq.symm (by rw [fdivI] <;> rfl)), rfl, e2⟩ (Nat.le_refl _) (Nat.le_refl _)
theorem d5_0 : decode jdk_29_method_52_code 0 = .ok (.lload_n 0, 1) := by decide +kernel
theorem d5_1 : decode jdk_29_method_52_code 1 = .ok (.lload_n 2, 1) := by decide +kernel
theorem d5_2 : decode jdk_29_method_52_code 2 = .ok (.lrem, 1) := by decide +kernel
theorem d5_3 : decode jdk_29_method_52_code 3 = .ok (.lstore 4, 2) := by decide +kernel
theorem d5_5 : decode jdk_29_method_52_code 5 = .ok (.lload_n 0, 1) := by decide +kernel
theorem d5_6 : decode jdk_29_method_52_code 6 = .ok (.lload_n 2, 1) := by decide +kernel
theorem d5_7 : decode jdk_29_method_52_code 7 = .ok (.lxor, 1) := by decide +kernel
theorem d5_8 : decode jdk_29_method_52_code 8 = .ok (.lconst 0, 1) := by decide +kernel
theorem d5_9 : decode jdk_29_method_52_code 9 = .ok (.lcmp, 1) := by decide +kernel
theorem d5_10 : decode jdk_29_method_52_code 10 = .ok (.ifCond .ge 15, 3) := by decide +kernel
theorem d5_13 : decode jdk_29_method_52_code 13 = .ok (.lload 4, 2) := by decide +kernel
theorem d5_15 : decode jdk_29_method_52_code 15 = .ok (.lconst 0, 1) := by decide +kernel
theorem d5_16 : decode jdk_29_method_52_code 16 = .ok (.lcmp, 1) := by decide +kernel
theorem d5_17 : decode jdk_29_method_52_code 17 = .ok (.ifCond .eq 8, 3) := by decide +kernel
theorem d5_20 : decode jdk_29_method_52_code 20 = .ok (.lload 4, 2) := by decide +kernel
theorem d5_22 : decode jdk_29_method_52_code 22 = .ok (.lload_n 2, 1) := by decide +kernel
theorem d5_23 : decode jdk_29_method_52_code 23 = .ok (.ladd, 1) := by decide +kernel
theorem d5_24 : decode jdk_29_method_52_code 24 = .ok (.lreturn, 1) := by decide +kernel
theorem d5_25 : decode jdk_29_method_52_code 25 = .ok (.lload 4, 2) := by decide +kernel
theorem d5_27 : decode jdk_29_method_52_code 27 = .ok (.lreturn, 1) := by decide +kernel
theorem ef_5 (m : MethodId) (q0 : Int64) (q1 : Int64) : entryFrame m #[(.long q0), (.long q1)] 6 = mkF m 0 #[.val (.long q0), .second, .val (.long q1), .second, .unset, .unset] [] := by first | (simp [entryFrame, mkF, argsToLocals, Value.category]; done) | rfl
def fmodL_25 (q0 : Int64) (q1 : Int64) : Int64 := (q0 % q1)
def fmodL (q0 : Int64) (q1 : Int64) : Int64 := if (q0 ^^^ q1) < (0 : Int64) then if (q0 % q1) = (0 : Int64) then (fmodL_25 q0 q1) else ((q0 % q1) + q1) else (fmodL_25 q0 q1)
set_option maxRecDepth 65536 in
set_option maxHeartbeats 40000000 in
theorem rm_fmodL (l : Launch) (Z : State) (a0 : Array Value) (hw : ∀ d ∈ tables_1, d.before a0 Z = true) (ws : List Jvm.Cond) (q0 : Int64) (q1 : Int64) (h0 : Heap) (hnz_q1 : q1 ≠ 0) :
    MetFree l (⟨"java/lang/Math", "floorMod", "(JJ)J"⟩ : MethodName) (head1 (Jvm.Cond.code (⟨"java/lang/Math", "floorMod", "(JJ)J"⟩ : MethodName) jdk_29_method_52_code 6 (some .long) :: ws) ({ frames := 0, cells := 0, slots := 0, locals := 0 } : Room)) (fun a U => a = #[(.long q0), (.long q1)] ∧ Z.Warmed39 U.vm ∧ U.heap = h0) (fun _ _ _ _ _ => True) (fun _ U o U' => ∃ v L, o = .returned v ∧ QP (Value.long (fmodL q0 q1)) h0 v U'.heap L ∧ FrameEnd U o U' L 0 0) := by
  refine MetFree.of_bodySF (Jvm.Free.JP.mathPlain rfl (by decide +kernel)) hisR ?_
  intro p e s m args below meth c s₁ Bd hml0 hP hK
  obtain ⟨rfl, hZ, hh⟩ := hP
  have hx := Bd.exec
  have hby := Bd.bytes
  have hlk : meth.locks = false := Bd.notSynchronized
  have hml : c.maxLocals = 6 := hml0
  have hown : s.vm.findClass "java/lang/Math" = some m.cls := findClass_of_methodNamed Bd.named
  have X0 : Stand p l e ({ frames := 0, cells := 0, slots := 0, locals := 0 } : Room) s m #[(.long q0), (.long q1)] below meth c s₁ [] 0 0 := Stand.of_body Bd
  have e0 : s₁.heap = h0 := by rw [← hh, Bd.state]; rfl
  have bfmodL_25 : ∀ (T : State) (X : Stand p l e ({ frames := 0, cells := 0, slots := 0, locals := 0 } : Room) s m #[(.long q0), (.long q1)] below meth c T [] 0 0) (eT : T.heap = h0), OEnds p e below s (QP (Value.long (fmodL_25 q0 q1)) h0) 0 0 (T.setTop (mkF m 25 #[.val (.long q0), .second, .val (.long q1), .second, .val (.long (q0 % q1)), .second] [])) := by
    intro T X eT
    refine own_by (fun _ k => XS.lload X.here hx rfl (hb hby d5_25) rfl k) ?_
    show OEnds p e below s _ _ _ (T.setTop (mkF m 27 #[.val (.long q0), .second, .val (.long q1), .second, .val (.long (q0 % q1)), .second] [(.long (q0 % q1))]))
    exact own_retJ X hx hlk Bd.returns (hb hby d5_27) ⟨congrArg (fun z => some (Value.long z)) (Eq.symm (by rw [fmodL_25] <;> rfl)), rfl, eT⟩ (Nat.le_refl _) (Nat.le_refl _)
  show OEnds p e below s _ _ _ _
  refine own_by (fun t k => castTop (ef_5 m q0 q1) k) ?_
  show OEnds p e below s _ _ _ (s₁.setTop (mkF m 0 #[.val (.long q0), .second, .val (.long q1), .second, .unset, .unset] []))
  refine own_by (fun _ k => XS.lloadN X0.here hx rfl (hb hby d5_0) rfl k) ?_
  show OEnds p e below s _ _ _ (s₁.setTop (mkF m 1 #[.val (.long q0), .second, .val (.long q1), .second, .unset, .unset] [(.long q0)]))
  refine own_by (fun _ k => XS.lloadN X0.here hx rfl (hb hby d5_1) rfl k) ?_
  show OEnds p e below s _ _ _ (s₁.setTop (mkF m 2 #[.val (.long q0), .second, .val (.long q1), .second, .unset, .unset] [(.long q1), (.long q0)]))
  refine own_by (fun _ k => own_lrem X0 hx rfl (hb hby d5_2) rfl hnz_q1 k) ?_
  show OEnds p e below s _ _ _ (s₁.setTop (mkF m 3 #[.val (.long q0), .second, .val (.long q1), .second, .unset, .unset] [(.long (q0 % q1))]))
  refine own_by (fun _ k => XS.lstore X0.here hx rfl (hb hby d5_3) rfl (l' := #[.val (.long q0), .second, .val (.long q1), .second, .val (.long (q0 % q1)), .second]) rfl k) ?_
  show OEnds p e below s _ _ _ (s₁.setTop (mkF m 5 #[.val (.long q0), .second, .val (.long q1), .second, .val (.long (q0 % q1)), .second] []))
  refine own_by (fun _ k => XS.lloadN X0.here hx rfl (hb hby d5_5) rfl k) ?_
  show OEnds p e below s _ _ _ (s₁.setTop (mkF m 6 #[.val (.long q0), .second, .val (.long q1), .second, .val (.long (q0 % q1)), .second] [(.long q0)]))
  refine own_by (fun _ k => XS.lloadN X0.here hx rfl (hb hby d5_6) rfl k) ?_
  show OEnds p e below s _ _ _ (s₁.setTop (mkF m 7 #[.val (.long q0), .second, .val (.long q1), .second, .val (.long (q0 % q1)), .second] [(.long q1), (.long q0)]))
  refine own_by (fun _ k => XS.lxor X0.here hx rfl (hb hby d5_7) rfl k) ?_
  show OEnds p e below s _ _ _ (s₁.setTop (mkF m 8 #[.val (.long q0), .second, .val (.long q1), .second, .val (.long (q0 % q1)), .second] [(.long (q0 ^^^ q1))]))
  refine own_by (fun _ k => XS.lconst X0.here hx rfl (hb hby d5_8) k) ?_
  show OEnds p e below s _ _ _ (s₁.setTop (mkF m 9 #[.val (.long q0), .second, .val (.long q1), .second, .val (.long (q0 % q1)), .second] [(.long (0 : Int64)), (.long (q0 ^^^ q1))]))
  refine own_by (fun _ k => XS.lcmp X0.here hx rfl (hb hby d5_9) rfl k) ?_
  show OEnds p e below s _ _ _ (s₁.setTop (mkF m 10 #[.val (.long q0), .second, .val (.long q1), .second, .val (.long (q0 % q1)), .second] [(.int (lcmpW (q0 ^^^ q1) (0 : Int64)))]))
  by_cases hc10 : (q0 ^^^ q1) < (0 : Int64)
  · refine own_by (fun _ k => XS.ifNo X0.here hx rfl (hb hby d5_10) rfl ((if0 _ _).trans (tlt ((lw_lt _ _).mpr hc10)).2.1) k) ?_
    show OEnds p e below s _ _ _ (s₁.setTop (mkF m 13 #[.val (.long q0), .second, .val (.long q1), .second, .val (.long (q0 % q1)), .second] []))
    refine own_by (fun _ k => XS.lload X0.here hx rfl (hb hby d5_13) rfl k) ?_
    show OEnds p e below s _ _ _ (s₁.setTop (mkF m 15 #[.val (.long q0), .second, .val (.long q1), .second, .val (.long (q0 % q1)), .second] [(.long (q0 % q1))]))
    refine own_by (fun _ k => XS.lconst X0.here hx rfl (hb hby d5_15) k) ?_
    show OEnds p e below s _ _ _ (s₁.setTop (mkF m 16 #[.val (.long q0), .second, .val (.long q1), .second, .val (.long (q0 % q1)), .second] [(.long (0 : Int64)), (.long (q0 % q1))]))
    refine own_by (fun _ k => XS.lcmp X0.here hx rfl (hb hby d5_16) rfl k) ?_
    show OEnds p e below s _ _ _ (s₁.setTop (mkF m 17 #[.val (.long q0), .second, .val (.long q1), .second, .val (.long (q0 % q1)), .second] [(.int (lcmpW (q0 % q1) (0 : Int64)))]))
    by_cases hc17 : (q0 % q1) = (0 : Int64)
    · refine own_by (fun _ k => XS.ifYes X0.here hx rfl (pc0 := 17) (pc' := 25) rfl (hb hby d5_17) rfl ((if0 _ _).trans (teq ((lw_eq _ _).mpr hc17)).1) (by decide) (by decide) k) ?_
      show OEnds p e below s _ _ _ (s₁.setTop (mkF m 25 #[.val (.long q0), .second, .val (.long q1), .second, .val (.long (q0 % q1)), .second] []))
      exact own_eq (congrArg Value.long (by rw [fmodL, if_pos hc10, if_pos hc17] <;> rfl)) (bfmodL_25 s₁ X0 e0)
    · refine own_by (fun _ k => XS.ifNo X0.here hx rfl (hb hby d5_17) rfl ((if0 _ _).trans (feq (fun q => hc17 ((lw_eq _ _).mp q))).1) k) ?_
      show OEnds p e below s _ _ _ (s₁.setTop (mkF m 20 #[.val (.long q0), .second, .val (.long q1), .second, .val (.long (q0 % q1)), .second] []))
      refine own_by (fun _ k => XS.lload X0.here hx rfl (hb hby d5_20) rfl k) ?_
      show OEnds p e below s _ _ _ (s₁.setTop (mkF m 22 #[.val (.long q0), .second, .val (.long q1), .second, .val (.long (q0 % q1)), .second] [(.long (q0 % q1))]))
      refine own_by (fun _ k => XS.lloadN X0.here hx rfl (hb hby d5_22) rfl k) ?_
      show OEnds p e below s _ _ _ (s₁.setTop (mkF m 23 #[.val (.long q0), .second, .val (.long q1), .second, .val (.long (q0 % q1)), .second] [(.long q1), (.long (q0 % q1))]))
      refine own_by (fun _ k => XS.ladd X0.here hx rfl (hb hby d5_23) rfl k) ?_
      show OEnds p e below s _ _ _ (s₁.setTop (mkF m 24 #[.val (.long q0), .second, .val (.long q1), .second, .val (.long (q0 % q1)), .second] [(.long ((q0 % q1) + q1))]))
      exact own_retJ X0 hx hlk Bd.returns (hb hby d5_24) ⟨congrArg (fun z => some (Value.long z)) (Eq.symm (by rw [fmodL, if_pos hc10, if_neg hc17] <;> rfl)), rfl, e0⟩ (Nat.le_refl _) (Nat.le_refl _)
  · refine own_by (fun _ k => XS.ifYes X0.here hx rfl (pc0 := 10) (pc' := 25) rfl (hb hby d5_10) rfl ((if0 _ _).trans (flt (fun q => hc10 ((lw_lt _ _).mp q))).2.1) (by decide) (by decide) k) ?_
    show OEnds p e below s _ _ _ (s₁.setTop (mkF m 25 #[.val (.long q0), .second, .val (.long q1), .second, .val (.long (q0 % q1)), .second] []))
    exact own_eq (congrArg Value.long (by rw [fmodL, if_neg hc10] <;> rfl)) (bfmodL_25 s₁ X0 e0)
theorem d4_0 : decode jdk_29_method_51_code 0 = .ok (.lload_n 0, 1) := by decide +kernel
theorem d4_1 : decode jdk_29_method_51_code 1 = .ok (.iload_n 2, 1) := by decide +kernel
theorem d4_2 : decode jdk_29_method_51_code 2 = .ok (.i2l, 1) := by decide +kernel
theorem d4_3 : decode jdk_29_method_51_code 3 = .ok (.invokestatic 146, 3) := by decide +kernel
theorem d4_6 : decode jdk_29_method_51_code 6 = .ok (.l2i, 1) := by decide +kernel
theorem d4_7 : decode jdk_29_method_51_code 7 = .ok (.ireturn, 1) := by decide +kernel
theorem ef_4 (m : MethodId) (q0 : Int64) (q1 : Int32) : entryFrame m #[(.long q0), (.int q1)] 3 = mkF m 0 #[.val (.long q0), .second, .val (.int q1)] [] := by first | (simp [entryFrame, mkF, argsToLocals, Value.category]; done) | rfl
def fmodI (q0 : Int64) (q1 : Int32) : Int32 := ((fmodL q0 (q1.toInt64)).toInt32)
set_option maxRecDepth 65536 in
set_option maxHeartbeats 40000000 in
theorem rm_fmodI (l : Launch) (Z : State) (a0 : Array Value) (hw : ∀ d ∈ tables_1, d.before a0 Z = true) (ws : List Jvm.Cond) (q0 : Int64) (q1 : Int32) (h0 : Heap) (hnz : (q1.toInt64) ≠ 0) :
    MetFree l (⟨"java/lang/Math", "floorMod", "(JI)I"⟩ : MethodName) (head1 (Jvm.Cond.code (⟨"java/lang/Math", "floorMod", "(JI)I"⟩ : MethodName) jdk_29_method_51_code 3 (some .int) :: ws) ({ frames := 1, cells := 0, slots := 0, locals := 17 } : Room)) (fun a U => a = #[(.long q0), (.int q1)] ∧ Z.Warmed39 U.vm ∧ U.heap = h0) (fun _ _ _ _ _ => True) (fun _ U o U' => ∃ v L, o = .returned v ∧ QP (Value.int (fmodI q0 q1)) h0 v U'.heap L ∧ FrameEnd U o U' L 0 0) := by
  refine MetFree.of_bodySF (Jvm.Free.JP.mathPlain rfl (by decide +kernel)) hisR ?_
  intro p e s m args below meth c s₁ Bd hml0 hP hK
  obtain ⟨rfl, hZ, hh⟩ := hP
  have hx := Bd.exec
  have hby := Bd.bytes
  have hlk : meth.locks = false := Bd.notSynchronized
  have hml : c.maxLocals = 3 := hml0
  have hown : s.vm.findClass "java/lang/Math" = some m.cls := findClass_of_methodNamed Bd.named
  have X0 : Stand p l e ({ frames := 1, cells := 0, slots := 0, locals := 17 } : Room) s m #[(.long q0), (.int q1)] below meth c s₁ [] 0 0 := Stand.of_body Bd
  have e0 : s₁.heap = h0 := by rw [← hh, Bd.state]; rfl
  show OEnds p e below s _ _ _ _
  refine own_by (fun t k => castTop (ef_4 m q0 q1) k) ?_
  show OEnds p e below s _ _ _ (s₁.setTop (mkF m 0 #[.val (.long q0), .second, .val (.int q1)] []))
  refine own_by (fun _ k => XS.lloadN X0.here hx rfl (hb hby d4_0) rfl k) ?_
  show OEnds p e below s _ _ _ (s₁.setTop (mkF m 1 #[.val (.long q0), .second, .val (.int q1)] [(.long q0)]))
  refine own_by (fun _ k => XS.iloadN X0.here hx rfl (hb hby d4_1) rfl k) ?_
  show OEnds p e below s _ _ _ (s₁.setTop (mkF m 2 #[.val (.long q0), .second, .val (.int q1)] [(.int q1), (.long q0)]))
  refine own_by (fun _ k => XS.i2l X0.here hx rfl (hb hby d4_2) rfl k) ?_
  show OEnds p e below s _ _ _ (s₁.setTop (mkF m 3 #[.val (.long q0), .second, .val (.int q1)] [(.long (q1.toInt64)), (.long q0)]))
  obtain ⟨T2, X2, e2, st2⟩ := own_callP X0 hx hZ (y := (⟨"java/lang/Math", "floorMod", "(JJ)J"⟩ : MethodName)) hown (hw _ (List.mem_of_getElem? (i := 14) rfl)) (hw _ (List.mem_of_getElem? (i := 15) rfl)) (hw _ (List.mem_of_getElem? (i := 6) rfl)) (hw _ (List.mem_of_getElem? (i := 16) rfl)) (by decide) (rm_fmodL l Z a0 hw [] q0 (q1.toInt64) h0 hnz) e0 (g := (mkF m 3 #[.val (.long q0), .second, .val (.int q1)] [(.long (q1.toInt64)), (.long q0)])) rfl (by rw [hml]; rfl) (argsL := [(.long q0), (.long (q1.toInt64))]) (rest := []) (lenOf pd_pJJrJ rfl) rfl (W := 0) (by show 2 * 0 + _ ≤ _; exact Nat.le_of_eq rfl) (hb hby d4_3) (by decide) (by decide) (by decide) (by decide)
  refine own_by st2 ?_
  show OEnds p e below s _ _ _ (T2.setTop (mkF m 6 #[.val (.long q0), .second, .val (.int q1)] [(.long (fmodL q0 (q1.toInt64)))]))
  refine own_by (fun _ k => XS.l2i X2.here hx rfl (hb hby d4_6) rfl k) ?_
  show OEnds p e below s _ _ _ (T2.setTop (mkF m 7 #[.val (.long q0), .second, .val (.int q1)] [(.int ((fmodL q0 (q1.toInt64)).toInt32))]))
  exact own_retI X2 hx hlk Bd.returns (hb hby d4_7) ⟨congrArg (fun z => some (Value.int z)) (Eq.symm (by rw [fmodI] <;> rfl)), rfl, e2⟩ (Nat.le_refl _) (Nat.le_refl _)
theorem d6_0 : decode prog_18_method_2_code 0 = .ok (.iload_n 2, 1) := by decide +kernel
theorem d6_1 : decode prog_18_method_2_code 1 = .ok (.bipush 9, 2) := by decide +kernel
theorem d6_3 : decode prog_18_method_2_code 3 = .ok (.iadd, 1) := by decide +kernel
theorem d6_4 : decode prog_18_method_2_code 4 = .ok (.bipush 12, 2) := by decide +kernel
theorem d6_6 : decode prog_18_method_2_code 6 = .ok (.irem, 1) := by decide +kernel
theorem d6_7 : decode prog_18_method_2_code 7 = .ok (.istore 4, 2) := by decide +kernel
theorem d6_9 : decode prog_18_method_2_code 9 = .ok (.lload_n 0, 1) := by decide +kernel
theorem d6_10 : decode prog_18_method_2_code 10 = .ok (.iload 4, 2) := by decide +kernel
theorem d6_12 : decode prog_18_method_2_code 12 = .ok (.bipush 10, 2) := by decide +kernel
theorem d6_14 : decode prog_18_method_2_code 14 = .ok (.idiv, 1) := by decide +kernel
theorem d6_15 : decode prog_18_method_2_code 15 = .ok (.i2l, 1) := by decide +kernel
theorem d6_16 : decode prog_18_method_2_code 16 = .ok (.lsub, 1) := by decide +kernel
theorem d6_17 : decode prog_18_method_2_code 17 = .ok (.lstore 5, 2) := by decide +kernel
theorem d6_19 : decode prog_18_method_2_code 19 = .ok (.lload 5, 2) := by decide +kernel
theorem d6_21 : decode prog_18_method_2_code 21 = .ok (.sipush 400, 3) := by decide +kernel
theorem d6_24 : decode prog_18_method_2_code 24 = .ok (.invokestatic 9, 3) := by decide +kernel
theorem d6_27 : decode prog_18_method_2_code 27 = .ok (.lstore 7, 2) := by decide +kernel
theorem d6_29 : decode prog_18_method_2_code 29 = .ok (.lload 5, 2) := by decide +kernel
theorem d6_31 : decode prog_18_method_2_code 31 = .ok (.lload 7, 2) := by decide +kernel
theorem d6_33 : decode prog_18_method_2_code 33 = .ok (.ldc2_w 15, 3) := by decide +kernel
theorem d6_36 : decode prog_18_method_2_code 36 = .ok (.lmul, 1) := by decide +kernel
theorem d6_37 : decode prog_18_method_2_code 37 = .ok (.lsub, 1) := by decide +kernel
theorem d6_38 : decode prog_18_method_2_code 38 = .ok (.lstore 9, 2) := by decide +kernel
theorem d6_40 : decode prog_18_method_2_code 40 = .ok (.sipush 153, 3) := by decide +kernel
theorem d6_43 : decode prog_18_method_2_code 43 = .ok (.iload 4, 2) := by decide +kernel
theorem d6_45 : decode prog_18_method_2_code 45 = .ok (.imul, 1) := by decide +kernel
theorem d6_46 : decode prog_18_method_2_code 46 = .ok (.iconst 2, 1) := by decide +kernel
theorem d6_47 : decode prog_18_method_2_code 47 = .ok (.iadd, 1) := by decide +kernel
theorem d6_48 : decode prog_18_method_2_code 48 = .ok (.iconst 5, 1) := by decide +kernel
theorem d6_49 : decode prog_18_method_2_code 49 = .ok (.idiv, 1) := by decide +kernel
theorem d6_50 : decode prog_18_method_2_code 50 = .ok (.iload_n 3, 1) := by decide +kernel
theorem d6_51 : decode prog_18_method_2_code 51 = .ok (.iadd, 1) := by decide +kernel
theorem d6_52 : decode prog_18_method_2_code 52 = .ok (.iconst 1, 1) := by decide +kernel
theorem d6_53 : decode prog_18_method_2_code 53 = .ok (.isub, 1) := by decide +kernel
theorem d6_54 : decode prog_18_method_2_code 54 = .ok (.istore 11, 2) := by decide +kernel
theorem d6_56 : decode prog_18_method_2_code 56 = .ok (.lload 9, 2) := by decide +kernel
theorem d6_58 : decode prog_18_method_2_code 58 = .ok (.ldc2_w 17, 3) := by decide +kernel
theorem d6_61 : decode prog_18_method_2_code 61 = .ok (.lmul, 1) := by decide +kernel
theorem d6_62 : decode prog_18_method_2_code 62 = .ok (.lload 9, 2) := by decide +kernel
theorem d6_64 : decode prog_18_method_2_code 64 = .ok (.ldc2_w 19, 3) := by decide +kernel
theorem d6_67 : decode prog_18_method_2_code 67 = .ok (.ldiv, 1) := by decide +kernel
theorem d6_68 : decode prog_18_method_2_code 68 = .ok (.ladd, 1) := by decide +kernel
theorem d6_69 : decode prog_18_method_2_code 69 = .ok (.lload 9, 2) := by decide +kernel
theorem d6_71 : decode prog_18_method_2_code 71 = .ok (.ldc2_w 21, 3) := by decide +kernel
theorem d6_74 : decode prog_18_method_2_code 74 = .ok (.ldiv, 1) := by decide +kernel
theorem d6_75 : decode prog_18_method_2_code 75 = .ok (.lsub, 1) := by decide +kernel
theorem d6_76 : decode prog_18_method_2_code 76 = .ok (.iload 11, 2) := by decide +kernel
theorem d6_78 : decode prog_18_method_2_code 78 = .ok (.i2l, 1) := by decide +kernel
theorem d6_79 : decode prog_18_method_2_code 79 = .ok (.ladd, 1) := by decide +kernel
theorem d6_80 : decode prog_18_method_2_code 80 = .ok (.lstore 12, 2) := by decide +kernel
theorem d6_82 : decode prog_18_method_2_code 82 = .ok (.lload 7, 2) := by decide +kernel
theorem d6_84 : decode prog_18_method_2_code 84 = .ok (.ldc2_w 23, 3) := by decide +kernel
theorem d6_87 : decode prog_18_method_2_code 87 = .ok (.lmul, 1) := by decide +kernel
theorem d6_88 : decode prog_18_method_2_code 88 = .ok (.lload 12, 2) := by decide +kernel
theorem d6_90 : decode prog_18_method_2_code 90 = .ok (.ladd, 1) := by decide +kernel
theorem d6_91 : decode prog_18_method_2_code 91 = .ok (.ldc2_w 25, 3) := by decide +kernel
theorem d6_94 : decode prog_18_method_2_code 94 = .ok (.lsub, 1) := by decide +kernel
theorem d6_95 : decode prog_18_method_2_code 95 = .ok (.lreturn, 1) := by decide +kernel
theorem pn_6 : plainName "com/example/exact_membership/exactmembership/model/EpochDays" = true := by first | (simp [plainName, overriddenIn]; done) | decide +kernel
theorem ef_6 (m : MethodId) (q0 : Int64) (q1 : Int32) (q2 : Int32) : entryFrame m #[(.long q0), (.int q1), (.int q2)] 14 = mkF m 0 #[.val (.long q0), .second, .val (.int q1), .val (.int q2), .unset, .unset, .unset, .unset, .unset, .unset, .unset, .unset, .unset, .unset] [] := by first | (simp [entryFrame, mkF, argsToLocals, Value.category]; done) | rfl
def epof_82 (v29_7 : Int64) (v82_12 : Int64) : Int64 := (((v29_7 * (146097 : Int64)) + v82_12) - (719468 : Int64))
def epof_56 (v29_7 : Int64) (v40_9 : Int64) (v56_11 : Int32) : Int64 := (epof_82 v29_7 ((((v40_9 * (365 : Int64)) + (v40_9 / (4 : Int64))) - (v40_9 / (100 : Int64))) + (v56_11.toInt64)))
def epof_40 (q2 : Int32) (v9_4 : Int32) (v29_7 : Int64) (v40_9 : Int64) : Int64 := (epof_56 v29_7 v40_9 ((((((153 : Int32) * v9_4) + (2 : Int32)) / (5 : Int32)) + q2) - (1 : Int32)))
def epof_29 (q2 : Int32) (v9_4 : Int32) (v19_5 : Int64) (v29_7 : Int64) : Int64 := (epof_40 q2 v9_4 v29_7 (v19_5 - (v29_7 * (400 : Int64))))
def epof_19 (q2 : Int32) (v9_4 : Int32) (v19_5 : Int64) : Int64 := (epof_29 q2 v9_4 v19_5 (fdivI v19_5 (400 : Int32)))
def epof_9 (q0 : Int64) (q2 : Int32) (v9_4 : Int32) : Int64 := (epof_19 q2 v9_4 (q0 - ((v9_4 / (10 : Int32)).toInt64)))
def epof (q0 : Int64) (q1 : Int32) (q2 : Int32) : Int64 := (epof_9 q0 q2 ((q1 + (9 : Int32)) % (12 : Int32)))
set_option maxRecDepth 65536 in
set_option maxHeartbeats 40000000 in
theorem rm_epof (l : Launch) (Z : State) (a0 : Array Value) (hw : ∀ d ∈ tables_1, d.before a0 Z = true) (ws : List Jvm.Cond) (q0 : Int64) (q1 : Int32) (q2 : Int32) (h0 : Heap) :
    MetFree l (⟨"com/example/exact_membership/exactmembership/model/EpochDays", "of", "(JII)J"⟩ : MethodName) (head1 (Jvm.Cond.code (⟨"com/example/exact_membership/exactmembership/model/EpochDays", "of", "(JII)J"⟩ : MethodName) prog_18_method_2_code 14 (some .long) :: ws) ({ frames := 2, cells := 0, slots := 0, locals := 31 } : Room)) (fun a U => a = #[(.long q0), (.int q1), (.int q2)] ∧ Z.Warmed39 U.vm ∧ U.heap = h0) (fun _ _ _ _ _ => True) (fun _ U o U' => ∃ v L, o = .returned v ∧ QP (Value.long (epof q0 q1 q2)) h0 v U'.heap L ∧ FrameEnd U o U' L 0 0) := by
  refine MetFree.of_bodySF (plainFor_of_name pn_6) hisR ?_
  intro p e s m args below meth c s₁ Bd hml0 hP hK
  obtain ⟨rfl, hZ, hh⟩ := hP
  have hx := Bd.exec
  have hby := Bd.bytes
  have hlk : meth.locks = false := Bd.notSynchronized
  have hml : c.maxLocals = 14 := hml0
  have hown : s.vm.findClass "com/example/exact_membership/exactmembership/model/EpochDays" = some m.cls := findClass_of_methodNamed Bd.named
  have X0 : Stand p l e ({ frames := 2, cells := 0, slots := 0, locals := 31 } : Room) s m #[(.long q0), (.int q1), (.int q2)] below meth c s₁ [] 0 0 := Stand.of_body Bd
  have e0 : s₁.heap = h0 := by rw [← hh, Bd.state]; rfl
  have bepof_82 : ∀ (T : State) (X : Stand p l e ({ frames := 2, cells := 0, slots := 0, locals := 31 } : Room) s m #[(.long q0), (.int q1), (.int q2)] below meth c T [] 0 0) (eT : T.heap = h0) (v9_4 : Int32) (v19_5 : Int64) (v29_7 : Int64) (v40_9 : Int64) (v56_11 : Int32) (v82_12 : Int64), OEnds p e below s (QP (Value.long (epof_82 v29_7 v82_12)) h0) 0 0 (T.setTop (mkF m 82 #[.val (.long q0), .second, .val (.int q1), .val (.int q2), .val (.int v9_4), .val (.long v19_5), .second, .val (.long v29_7), .second, .val (.long v40_9), .second, .val (.int v56_11), .val (.long v82_12), .second] [])) := by
    intro T X eT v9_4 v19_5 v29_7 v40_9 v56_11 v82_12
    refine own_by (fun _ k => XS.lload X.here hx rfl (hb hby d6_82) rfl k) ?_
    show OEnds p e below s _ _ _ (T.setTop (mkF m 84 #[.val (.long q0), .second, .val (.int q1), .val (.int q2), .val (.int v9_4), .val (.long v19_5), .second, .val (.long v29_7), .second, .val (.long v40_9), .second, .val (.int v56_11), .val (.long v82_12), .second] [(.long v29_7)]))
    refine own_by (X.ldc2Long hx hown (mvT hZ (hw _ (List.mem_of_getElem? (i := 24) rfl))) (g := (mkF m 84 #[.val (.long q0), .second, .val (.int q1), .val (.int q2), .val (.int v9_4), .val (.long v19_5), .second, .val (.long v29_7), .second, .val (.long v40_9), .second, .val (.int v56_11), .val (.long v82_12), .second] [(.long v29_7)])) rfl (hb hby d6_84)) ?_
    show OEnds p e below s _ _ _ (T.setTop (mkF m 87 #[.val (.long q0), .second, .val (.int q1), .val (.int q2), .val (.int v9_4), .val (.long v19_5), .second, .val (.long v29_7), .second, .val (.long v40_9), .second, .val (.int v56_11), .val (.long v82_12), .second] [(.long (146097 : Int64)), (.long v29_7)]))
    refine own_by (fun _ k => XS.lmul X.here hx rfl (hb hby d6_87) rfl k) ?_
    show OEnds p e below s _ _ _ (T.setTop (mkF m 88 #[.val (.long q0), .second, .val (.int q1), .val (.int q2), .val (.int v9_4), .val (.long v19_5), .second, .val (.long v29_7), .second, .val (.long v40_9), .second, .val (.int v56_11), .val (.long v82_12), .second] [(.long (v29_7 * (146097 : Int64)))]))
    refine own_by (fun _ k => XS.lload X.here hx rfl (hb hby d6_88) rfl k) ?_
    show OEnds p e below s _ _ _ (T.setTop (mkF m 90 #[.val (.long q0), .second, .val (.int q1), .val (.int q2), .val (.int v9_4), .val (.long v19_5), .second, .val (.long v29_7), .second, .val (.long v40_9), .second, .val (.int v56_11), .val (.long v82_12), .second] [(.long v82_12), (.long (v29_7 * (146097 : Int64)))]))
    refine own_by (fun _ k => XS.ladd X.here hx rfl (hb hby d6_90) rfl k) ?_
    show OEnds p e below s _ _ _ (T.setTop (mkF m 91 #[.val (.long q0), .second, .val (.int q1), .val (.int q2), .val (.int v9_4), .val (.long v19_5), .second, .val (.long v29_7), .second, .val (.long v40_9), .second, .val (.int v56_11), .val (.long v82_12), .second] [(.long ((v29_7 * (146097 : Int64)) + v82_12))]))
    refine own_by (X.ldc2Long hx hown (mvT hZ (hw _ (List.mem_of_getElem? (i := 25) rfl))) (g := (mkF m 91 #[.val (.long q0), .second, .val (.int q1), .val (.int q2), .val (.int v9_4), .val (.long v19_5), .second, .val (.long v29_7), .second, .val (.long v40_9), .second, .val (.int v56_11), .val (.long v82_12), .second] [(.long ((v29_7 * (146097 : Int64)) + v82_12))])) rfl (hb hby d6_91)) ?_
    show OEnds p e below s _ _ _ (T.setTop (mkF m 94 #[.val (.long q0), .second, .val (.int q1), .val (.int q2), .val (.int v9_4), .val (.long v19_5), .second, .val (.long v29_7), .second, .val (.long v40_9), .second, .val (.int v56_11), .val (.long v82_12), .second] [(.long (719468 : Int64)), (.long ((v29_7 * (146097 : Int64)) + v82_12))]))
    refine own_by (fun _ k => XS.lsub X.here hx rfl (hb hby d6_94) rfl k) ?_
    show OEnds p e below s _ _ _ (T.setTop (mkF m 95 #[.val (.long q0), .second, .val (.int q1), .val (.int q2), .val (.int v9_4), .val (.long v19_5), .second, .val (.long v29_7), .second, .val (.long v40_9), .second, .val (.int v56_11), .val (.long v82_12), .second] [(.long (((v29_7 * (146097 : Int64)) + v82_12) - (719468 : Int64)))]))
    exact own_retJ X hx hlk Bd.returns (hb hby d6_95) ⟨congrArg (fun z => some (Value.long z)) (Eq.symm (by rw [epof_82] <;> rfl)), rfl, eT⟩ (Nat.le_refl _) (Nat.le_refl _)
  have bepof_56 : ∀ (T : State) (X : Stand p l e ({ frames := 2, cells := 0, slots := 0, locals := 31 } : Room) s m #[(.long q0), (.int q1), (.int q2)] below meth c T [] 0 0) (eT : T.heap = h0) (v9_4 : Int32) (v19_5 : Int64) (v29_7 : Int64) (v40_9 : Int64) (v56_11 : Int32), OEnds p e below s (QP (Value.long (epof_56 v29_7 v40_9 v56_11)) h0) 0 0 (T.setTop (mkF m 56 #[.val (.long q0), .second, .val (.int q1), .val (.int q2), .val (.int v9_4), .val (.long v19_5), .second, .val (.long v29_7), .second, .val (.long v40_9), .second, .val (.int v56_11), .unset, .unset] [])) := by
    intro T X eT v9_4 v19_5 v29_7 v40_9 v56_11
    refine own_by (fun _ k => XS.lload X.here hx rfl (hb hby d6_56) rfl k) ?_
    show OEnds p e below s _ _ _ (T.setTop (mkF m 58 #[.val (.long q0), .second, .val (.int q1), .val (.int q2), .val (.int v9_4), .val (.long v19_5), .second, .val (.long v29_7), .second, .val (.long v40_9), .second, .val (.int v56_11), .unset, .unset] [(.long v40_9)]))
    refine own_by (X.ldc2Long hx hown (mvT hZ (hw _ (List.mem_of_getElem? (i := 21) rfl))) (g := (mkF m 58 #[.val (.long q0), .second, .val (.int q1), .val (.int q2), .val (.int v9_4), .val (.long v19_5), .second, .val (.long v29_7), .second, .val (.long v40_9), .second, .val (.int v56_11), .unset, .unset] [(.long v40_9)])) rfl (hb hby d6_58)) ?_
    show OEnds p e below s _ _ _ (T.setTop (mkF m 61 #[.val (.long q0), .second, .val (.int q1), .val (.int q2), .val (.int v9_4), .val (.long v19_5), .second, .val (.long v29_7), .second, .val (.long v40_9), .second, .val (.int v56_11), .unset, .unset] [(.long (365 : Int64)), (.long v40_9)]))
    refine own_by (fun _ k => XS.lmul X.here hx rfl (hb hby d6_61) rfl k) ?_
    show OEnds p e below s _ _ _ (T.setTop (mkF m 62 #[.val (.long q0), .second, .val (.int q1), .val (.int q2), .val (.int v9_4), .val (.long v19_5), .second, .val (.long v29_7), .second, .val (.long v40_9), .second, .val (.int v56_11), .unset, .unset] [(.long (v40_9 * (365 : Int64)))]))
    refine own_by (fun _ k => XS.lload X.here hx rfl (hb hby d6_62) rfl k) ?_
    show OEnds p e below s _ _ _ (T.setTop (mkF m 64 #[.val (.long q0), .second, .val (.int q1), .val (.int q2), .val (.int v9_4), .val (.long v19_5), .second, .val (.long v29_7), .second, .val (.long v40_9), .second, .val (.int v56_11), .unset, .unset] [(.long v40_9), (.long (v40_9 * (365 : Int64)))]))
    refine own_by (X.ldc2Long hx hown (mvT hZ (hw _ (List.mem_of_getElem? (i := 22) rfl))) (g := (mkF m 64 #[.val (.long q0), .second, .val (.int q1), .val (.int q2), .val (.int v9_4), .val (.long v19_5), .second, .val (.long v29_7), .second, .val (.long v40_9), .second, .val (.int v56_11), .unset, .unset] [(.long v40_9), (.long (v40_9 * (365 : Int64)))])) rfl (hb hby d6_64)) ?_
    show OEnds p e below s _ _ _ (T.setTop (mkF m 67 #[.val (.long q0), .second, .val (.int q1), .val (.int q2), .val (.int v9_4), .val (.long v19_5), .second, .val (.long v29_7), .second, .val (.long v40_9), .second, .val (.int v56_11), .unset, .unset] [(.long (4 : Int64)), (.long v40_9), (.long (v40_9 * (365 : Int64)))]))
    refine own_by (fun _ k => XS.ldiv X.here hx rfl (hb hby d6_67) rfl (by decide) k) ?_
    show OEnds p e below s _ _ _ (T.setTop (mkF m 68 #[.val (.long q0), .second, .val (.int q1), .val (.int q2), .val (.int v9_4), .val (.long v19_5), .second, .val (.long v29_7), .second, .val (.long v40_9), .second, .val (.int v56_11), .unset, .unset] [(.long (v40_9 / (4 : Int64))), (.long (v40_9 * (365 : Int64)))]))
    refine own_by (fun _ k => XS.ladd X.here hx rfl (hb hby d6_68) rfl k) ?_
    show OEnds p e below s _ _ _ (T.setTop (mkF m 69 #[.val (.long q0), .second, .val (.int q1), .val (.int q2), .val (.int v9_4), .val (.long v19_5), .second, .val (.long v29_7), .second, .val (.long v40_9), .second, .val (.int v56_11), .unset, .unset] [(.long ((v40_9 * (365 : Int64)) + (v40_9 / (4 : Int64))))]))
    refine own_by (fun _ k => XS.lload X.here hx rfl (hb hby d6_69) rfl k) ?_
    show OEnds p e below s _ _ _ (T.setTop (mkF m 71 #[.val (.long q0), .second, .val (.int q1), .val (.int q2), .val (.int v9_4), .val (.long v19_5), .second, .val (.long v29_7), .second, .val (.long v40_9), .second, .val (.int v56_11), .unset, .unset] [(.long v40_9), (.long ((v40_9 * (365 : Int64)) + (v40_9 / (4 : Int64))))]))
    refine own_by (X.ldc2Long hx hown (mvT hZ (hw _ (List.mem_of_getElem? (i := 23) rfl))) (g := (mkF m 71 #[.val (.long q0), .second, .val (.int q1), .val (.int q2), .val (.int v9_4), .val (.long v19_5), .second, .val (.long v29_7), .second, .val (.long v40_9), .second, .val (.int v56_11), .unset, .unset] [(.long v40_9), (.long ((v40_9 * (365 : Int64)) + (v40_9 / (4 : Int64))))])) rfl (hb hby d6_71)) ?_
    show OEnds p e below s _ _ _ (T.setTop (mkF m 74 #[.val (.long q0), .second, .val (.int q1), .val (.int q2), .val (.int v9_4), .val (.long v19_5), .second, .val (.long v29_7), .second, .val (.long v40_9), .second, .val (.int v56_11), .unset, .unset] [(.long (100 : Int64)), (.long v40_9), (.long ((v40_9 * (365 : Int64)) + (v40_9 / (4 : Int64))))]))
    refine own_by (fun _ k => XS.ldiv X.here hx rfl (hb hby d6_74) rfl (by decide) k) ?_
    show OEnds p e below s _ _ _ (T.setTop (mkF m 75 #[.val (.long q0), .second, .val (.int q1), .val (.int q2), .val (.int v9_4), .val (.long v19_5), .second, .val (.long v29_7), .second, .val (.long v40_9), .second, .val (.int v56_11), .unset, .unset] [(.long (v40_9 / (100 : Int64))), (.long ((v40_9 * (365 : Int64)) + (v40_9 / (4 : Int64))))]))
    refine own_by (fun _ k => XS.lsub X.here hx rfl (hb hby d6_75) rfl k) ?_
    show OEnds p e below s _ _ _ (T.setTop (mkF m 76 #[.val (.long q0), .second, .val (.int q1), .val (.int q2), .val (.int v9_4), .val (.long v19_5), .second, .val (.long v29_7), .second, .val (.long v40_9), .second, .val (.int v56_11), .unset, .unset] [(.long (((v40_9 * (365 : Int64)) + (v40_9 / (4 : Int64))) - (v40_9 / (100 : Int64))))]))
    refine own_by (fun _ k => XS.iload X.here hx rfl (hb hby d6_76) rfl k) ?_
    show OEnds p e below s _ _ _ (T.setTop (mkF m 78 #[.val (.long q0), .second, .val (.int q1), .val (.int q2), .val (.int v9_4), .val (.long v19_5), .second, .val (.long v29_7), .second, .val (.long v40_9), .second, .val (.int v56_11), .unset, .unset] [(.int v56_11), (.long (((v40_9 * (365 : Int64)) + (v40_9 / (4 : Int64))) - (v40_9 / (100 : Int64))))]))
    refine own_by (fun _ k => XS.i2l X.here hx rfl (hb hby d6_78) rfl k) ?_
    show OEnds p e below s _ _ _ (T.setTop (mkF m 79 #[.val (.long q0), .second, .val (.int q1), .val (.int q2), .val (.int v9_4), .val (.long v19_5), .second, .val (.long v29_7), .second, .val (.long v40_9), .second, .val (.int v56_11), .unset, .unset] [(.long (v56_11.toInt64)), (.long (((v40_9 * (365 : Int64)) + (v40_9 / (4 : Int64))) - (v40_9 / (100 : Int64))))]))
    refine own_by (fun _ k => XS.ladd X.here hx rfl (hb hby d6_79) rfl k) ?_
    show OEnds p e below s _ _ _ (T.setTop (mkF m 80 #[.val (.long q0), .second, .val (.int q1), .val (.int q2), .val (.int v9_4), .val (.long v19_5), .second, .val (.long v29_7), .second, .val (.long v40_9), .second, .val (.int v56_11), .unset, .unset] [(.long ((((v40_9 * (365 : Int64)) + (v40_9 / (4 : Int64))) - (v40_9 / (100 : Int64))) + (v56_11.toInt64)))]))
    refine own_by (fun _ k => XS.lstore X.here hx rfl (hb hby d6_80) rfl (l' := #[.val (.long q0), .second, .val (.int q1), .val (.int q2), .val (.int v9_4), .val (.long v19_5), .second, .val (.long v29_7), .second, .val (.long v40_9), .second, .val (.int v56_11), .val (.long ((((v40_9 * (365 : Int64)) + (v40_9 / (4 : Int64))) - (v40_9 / (100 : Int64))) + (v56_11.toInt64))), .second]) rfl k) ?_
    show OEnds p e below s _ _ _ (T.setTop (mkF m 82 #[.val (.long q0), .second, .val (.int q1), .val (.int q2), .val (.int v9_4), .val (.long v19_5), .second, .val (.long v29_7), .second, .val (.long v40_9), .second, .val (.int v56_11), .val (.long ((((v40_9 * (365 : Int64)) + (v40_9 / (4 : Int64))) - (v40_9 / (100 : Int64))) + (v56_11.toInt64))), .second] []))
    exact own_eq (congrArg Value.long (by rw [epof_56] <;> rfl)) (bepof_82 T X eT v9_4 v19_5 v29_7 v40_9 v56_11 ((((v40_9 * (365 : Int64)) + (v40_9 / (4 : Int64))) - (v40_9 / (100 : Int64))) + (v56_11.toInt64)))
  have bepof_40 : ∀ (T : State) (X : Stand p l e ({ frames := 2, cells := 0, slots := 0, locals := 31 } : Room) s m #[(.long q0), (.int q1), (.int q2)] below meth c T [] 0 0) (eT : T.heap = h0) (v9_4 : Int32) (v19_5 : Int64) (v29_7 : Int64) (v40_9 : Int64), OEnds p e below s (QP (Value.long (epof_40 q2 v9_4 v29_7 v40_9)) h0) 0 0 (T.setTop (mkF m 40 #[.val (.long q0), .second, .val (.int q1), .val (.int q2), .val (.int v9_4), .val (.long v19_5), .second, .val (.long v29_7), .second, .val (.long v40_9), .second, .unset, .unset, .unset] [])) := by
    intro T X eT v9_4 v19_5 v29_7 v40_9
    refine own_by (fun _ k => XS.sipush X.here hx rfl (hb hby d6_40) k) ?_
    show OEnds p e below s _ _ _ (T.setTop (mkF m 43 #[.val (.long q0), .second, .val (.int q1), .val (.int q2), .val (.int v9_4), .val (.long v19_5), .second, .val (.long v29_7), .second, .val (.long v40_9), .second, .unset, .unset, .unset] [(.int (153 : Int32))]))
    refine own_by (fun _ k => XS.iload X.here hx rfl (hb hby d6_43) rfl k) ?_
    show OEnds p e below s _ _ _ (T.setTop (mkF m 45 #[.val (.long q0), .second, .val (.int q1), .val (.int q2), .val (.int v9_4), .val (.long v19_5), .second, .val (.long v29_7), .second, .val (.long v40_9), .second, .unset, .unset, .unset] [(.int v9_4), (.int (153 : Int32))]))
    refine own_by (fun _ k => XS.imul X.here hx rfl (hb hby d6_45) rfl k) ?_
    show OEnds p e below s _ _ _ (T.setTop (mkF m 46 #[.val (.long q0), .second, .val (.int q1), .val (.int q2), .val (.int v9_4), .val (.long v19_5), .second, .val (.long v29_7), .second, .val (.long v40_9), .second, .unset, .unset, .unset] [(.int ((153 : Int32) * v9_4))]))
    refine own_by (fun _ k => XS.iconst X.here hx rfl (hb hby d6_46) k) ?_
    show OEnds p e below s _ _ _ (T.setTop (mkF m 47 #[.val (.long q0), .second, .val (.int q1), .val (.int q2), .val (.int v9_4), .val (.long v19_5), .second, .val (.long v29_7), .second, .val (.long v40_9), .second, .unset, .unset, .unset] [(.int (2 : Int32)), (.int ((153 : Int32) * v9_4))]))
    refine own_by (fun _ k => XS.iadd X.here hx rfl (hb hby d6_47) rfl k) ?_
    show OEnds p e below s _ _ _ (T.setTop (mkF m 48 #[.val (.long q0), .second, .val (.int q1), .val (.int q2), .val (.int v9_4), .val (.long v19_5), .second, .val (.long v29_7), .second, .val (.long v40_9), .second, .unset, .unset, .unset] [(.int (((153 : Int32) * v9_4) + (2 : Int32)))]))
    refine own_by (fun _ k => XS.iconst X.here hx rfl (hb hby d6_48) k) ?_
    show OEnds p e below s _ _ _ (T.setTop (mkF m 49 #[.val (.long q0), .second, .val (.int q1), .val (.int q2), .val (.int v9_4), .val (.long v19_5), .second, .val (.long v29_7), .second, .val (.long v40_9), .second, .unset, .unset, .unset] [(.int (5 : Int32)), (.int (((153 : Int32) * v9_4) + (2 : Int32)))]))
    refine own_by (fun _ k => XS.idiv X.here hx rfl (hb hby d6_49) rfl (by decide) k) ?_
    show OEnds p e below s _ _ _ (T.setTop (mkF m 50 #[.val (.long q0), .second, .val (.int q1), .val (.int q2), .val (.int v9_4), .val (.long v19_5), .second, .val (.long v29_7), .second, .val (.long v40_9), .second, .unset, .unset, .unset] [(.int ((((153 : Int32) * v9_4) + (2 : Int32)) / (5 : Int32)))]))
    refine own_by (fun _ k => XS.iloadN X.here hx rfl (hb hby d6_50) rfl k) ?_
    show OEnds p e below s _ _ _ (T.setTop (mkF m 51 #[.val (.long q0), .second, .val (.int q1), .val (.int q2), .val (.int v9_4), .val (.long v19_5), .second, .val (.long v29_7), .second, .val (.long v40_9), .second, .unset, .unset, .unset] [(.int q2), (.int ((((153 : Int32) * v9_4) + (2 : Int32)) / (5 : Int32)))]))
    refine own_by (fun _ k => XS.iadd X.here hx rfl (hb hby d6_51) rfl k) ?_
    show OEnds p e below s _ _ _ (T.setTop (mkF m 52 #[.val (.long q0), .second, .val (.int q1), .val (.int q2), .val (.int v9_4), .val (.long v19_5), .second, .val (.long v29_7), .second, .val (.long v40_9), .second, .unset, .unset, .unset] [(.int (((((153 : Int32) * v9_4) + (2 : Int32)) / (5 : Int32)) + q2))]))
    refine own_by (fun _ k => XS.iconst X.here hx rfl (hb hby d6_52) k) ?_
    show OEnds p e below s _ _ _ (T.setTop (mkF m 53 #[.val (.long q0), .second, .val (.int q1), .val (.int q2), .val (.int v9_4), .val (.long v19_5), .second, .val (.long v29_7), .second, .val (.long v40_9), .second, .unset, .unset, .unset] [(.int (1 : Int32)), (.int (((((153 : Int32) * v9_4) + (2 : Int32)) / (5 : Int32)) + q2))]))
    refine own_by (fun _ k => XS.isub X.here hx rfl (hb hby d6_53) rfl k) ?_
    show OEnds p e below s _ _ _ (T.setTop (mkF m 54 #[.val (.long q0), .second, .val (.int q1), .val (.int q2), .val (.int v9_4), .val (.long v19_5), .second, .val (.long v29_7), .second, .val (.long v40_9), .second, .unset, .unset, .unset] [(.int ((((((153 : Int32) * v9_4) + (2 : Int32)) / (5 : Int32)) + q2) - (1 : Int32)))]))
    refine own_by (fun _ k => XS.istore X.here hx rfl (hb hby d6_54) rfl (l' := #[.val (.long q0), .second, .val (.int q1), .val (.int q2), .val (.int v9_4), .val (.long v19_5), .second, .val (.long v29_7), .second, .val (.long v40_9), .second, .val (.int ((((((153 : Int32) * v9_4) + (2 : Int32)) / (5 : Int32)) + q2) - (1 : Int32))), .unset, .unset]) rfl k) ?_
    show OEnds p e below s _ _ _ (T.setTop (mkF m 56 #[.val (.long q0), .second, .val (.int q1), .val (.int q2), .val (.int v9_4), .val (.long v19_5), .second, .val (.long v29_7), .second, .val (.long v40_9), .second, .val (.int ((((((153 : Int32) * v9_4) + (2 : Int32)) / (5 : Int32)) + q2) - (1 : Int32))), .unset, .unset] []))
    exact own_eq (congrArg Value.long (by rw [epof_40] <;> rfl)) (bepof_56 T X eT v9_4 v19_5 v29_7 v40_9 ((((((153 : Int32) * v9_4) + (2 : Int32)) / (5 : Int32)) + q2) - (1 : Int32)))
  have bepof_29 : ∀ (T : State) (X : Stand p l e ({ frames := 2, cells := 0, slots := 0, locals := 31 } : Room) s m #[(.long q0), (.int q1), (.int q2)] below meth c T [] 0 0) (eT : T.heap = h0) (v9_4 : Int32) (v19_5 : Int64) (v29_7 : Int64), OEnds p e below s (QP (Value.long (epof_29 q2 v9_4 v19_5 v29_7)) h0) 0 0 (T.setTop (mkF m 29 #[.val (.long q0), .second, .val (.int q1), .val (.int q2), .val (.int v9_4), .val (.long v19_5), .second, .val (.long v29_7), .second, .unset, .unset, .unset, .unset, .unset] [])) := by
    intro T X eT v9_4 v19_5 v29_7
    refine own_by (fun _ k => XS.lload X.here hx rfl (hb hby d6_29) rfl k) ?_
    show OEnds p e below s _ _ _ (T.setTop (mkF m 31 #[.val (.long q0), .second, .val (.int q1), .val (.int q2), .val (.int v9_4), .val (.long v19_5), .second, .val (.long v29_7), .second, .unset, .unset, .unset, .unset, .unset] [(.long v19_5)]))
    refine own_by (fun _ k => XS.lload X.here hx rfl (hb hby d6_31) rfl k) ?_
    show OEnds p e below s _ _ _ (T.setTop (mkF m 33 #[.val (.long q0), .second, .val (.int q1), .val (.int q2), .val (.int v9_4), .val (.long v19_5), .second, .val (.long v29_7), .second, .unset, .unset, .unset, .unset, .unset] [(.long v29_7), (.long v19_5)]))
    refine own_by (X.ldc2Long hx hown (mvT hZ (hw _ (List.mem_of_getElem? (i := 20) rfl))) (g := (mkF m 33 #[.val (.long q0), .second, .val (.int q1), .val (.int q2), .val (.int v9_4), .val (.long v19_5), .second, .val (.long v29_7), .second, .unset, .unset, .unset, .unset, .unset] [(.long v29_7), (.long v19_5)])) rfl (hb hby d6_33)) ?_
    show OEnds p e below s _ _ _ (T.setTop (mkF m 36 #[.val (.long q0), .second, .val (.int q1), .val (.int q2), .val (.int v9_4), .val (.long v19_5), .second, .val (.long v29_7), .second, .unset, .unset, .unset, .unset, .unset] [(.long (400 : Int64)), (.long v29_7), (.long v19_5)]))
    refine own_by (fun _ k => XS.lmul X.here hx rfl (hb hby d6_36) rfl k) ?_
    show OEnds p e below s _ _ _ (T.setTop (mkF m 37 #[.val (.long q0), .second, .val (.int q1), .val (.int q2), .val (.int v9_4), .val (.long v19_5), .second, .val (.long v29_7), .second, .unset, .unset, .unset, .unset, .unset] [(.long (v29_7 * (400 : Int64))), (.long v19_5)]))
    refine own_by (fun _ k => XS.lsub X.here hx rfl (hb hby d6_37) rfl k) ?_
    show OEnds p e below s _ _ _ (T.setTop (mkF m 38 #[.val (.long q0), .second, .val (.int q1), .val (.int q2), .val (.int v9_4), .val (.long v19_5), .second, .val (.long v29_7), .second, .unset, .unset, .unset, .unset, .unset] [(.long (v19_5 - (v29_7 * (400 : Int64))))]))
    refine own_by (fun _ k => XS.lstore X.here hx rfl (hb hby d6_38) rfl (l' := #[.val (.long q0), .second, .val (.int q1), .val (.int q2), .val (.int v9_4), .val (.long v19_5), .second, .val (.long v29_7), .second, .val (.long (v19_5 - (v29_7 * (400 : Int64)))), .second, .unset, .unset, .unset]) rfl k) ?_
    show OEnds p e below s _ _ _ (T.setTop (mkF m 40 #[.val (.long q0), .second, .val (.int q1), .val (.int q2), .val (.int v9_4), .val (.long v19_5), .second, .val (.long v29_7), .second, .val (.long (v19_5 - (v29_7 * (400 : Int64)))), .second, .unset, .unset, .unset] []))
    exact own_eq (congrArg Value.long (by rw [epof_29] <;> rfl)) (bepof_40 T X eT v9_4 v19_5 v29_7 (v19_5 - (v29_7 * (400 : Int64))))
  have bepof_19 : ∀ (T : State) (X : Stand p l e ({ frames := 2, cells := 0, slots := 0, locals := 31 } : Room) s m #[(.long q0), (.int q1), (.int q2)] below meth c T [] 0 0) (eT : T.heap = h0) (v9_4 : Int32) (v19_5 : Int64), OEnds p e below s (QP (Value.long (epof_19 q2 v9_4 v19_5)) h0) 0 0 (T.setTop (mkF m 19 #[.val (.long q0), .second, .val (.int q1), .val (.int q2), .val (.int v9_4), .val (.long v19_5), .second, .unset, .unset, .unset, .unset, .unset, .unset, .unset] [])) := by
    intro T X eT v9_4 v19_5
    refine own_by (fun _ k => XS.lload X.here hx rfl (hb hby d6_19) rfl k) ?_
    show OEnds p e below s _ _ _ (T.setTop (mkF m 21 #[.val (.long q0), .second, .val (.int q1), .val (.int q2), .val (.int v9_4), .val (.long v19_5), .second, .unset, .unset, .unset, .unset, .unset, .unset, .unset] [(.long v19_5)]))
    refine own_by (fun _ k => XS.sipush X.here hx rfl (hb hby d6_21) k) ?_
    show OEnds p e below s _ _ _ (T.setTop (mkF m 24 #[.val (.long q0), .second, .val (.int q1), .val (.int q2), .val (.int v9_4), .val (.long v19_5), .second, .unset, .unset, .unset, .unset, .unset, .unset, .unset] [(.int (400 : Int32)), (.long v19_5)]))
    obtain ⟨T2, X2, e2, st2⟩ := own_callP X hx hZ (y := (⟨"java/lang/Math", "floorDiv", "(JI)J"⟩ : MethodName)) hown (hw _ (List.mem_of_getElem? (i := 4) rfl)) (hw _ (List.mem_of_getElem? (i := 5) rfl)) (hw _ (List.mem_of_getElem? (i := 6) rfl)) (hw _ (List.mem_of_getElem? (i := 7) rfl)) (by decide) (rm_fdivI l Z a0 hw [] v19_5 (400 : Int32) h0 (by decide)) eT (g := (mkF m 24 #[.val (.long q0), .second, .val (.int q1), .val (.int q2), .val (.int v9_4), .val (.long v19_5), .second, .unset, .unset, .unset, .unset, .unset, .unset, .unset] [(.int (400 : Int32)), (.long v19_5)])) rfl (by rw [hml]; rfl) (argsL := [(.long v19_5), (.int (400 : Int32))]) (rest := []) (lenOf pd_pJIrJ rfl) rfl (W := 0) (by show 2 * 0 + _ ≤ _; exact Nat.le_of_eq rfl) (hb hby d6_24) (by decide) (by decide) (by decide) (by decide)
    refine own_by st2 ?_
    show OEnds p e below s _ _ _ (T2.setTop (mkF m 27 #[.val (.long q0), .second, .val (.int q1), .val (.int q2), .val (.int v9_4), .val (.long v19_5), .second, .unset, .unset, .unset, .unset, .unset, .unset, .unset] [(.long (fdivI v19_5 (400 : Int32)))]))
    refine own_by (fun _ k => XS.lstore X2.here hx rfl (hb hby d6_27) rfl (l' := #[.val (.long q0), .second, .val (.int q1), .val (.int q2), .val (.int v9_4), .val (.long v19_5), .second, .val (.long (fdivI v19_5 (400 : Int32))), .second, .unset, .unset, .unset, .unset, .unset]) rfl k) ?_
    show OEnds p e below s _ _ _ (T2.setTop (mkF m 29 #[.val (.long q0), .second, .val (.int q1), .val (.int q2), .val (.int v9_4), .val (.long v19_5), .second, .val (.long (fdivI v19_5 (400 : Int32))), .second, .unset, .unset, .unset, .unset, .unset] []))
    exact own_eq (congrArg Value.long (by rw [epof_19] <;> rfl)) (bepof_29 T2 X2 e2 v9_4 v19_5 (fdivI v19_5 (400 : Int32)))
  have bepof_9 : ∀ (T : State) (X : Stand p l e ({ frames := 2, cells := 0, slots := 0, locals := 31 } : Room) s m #[(.long q0), (.int q1), (.int q2)] below meth c T [] 0 0) (eT : T.heap = h0) (v9_4 : Int32), OEnds p e below s (QP (Value.long (epof_9 q0 q2 v9_4)) h0) 0 0 (T.setTop (mkF m 9 #[.val (.long q0), .second, .val (.int q1), .val (.int q2), .val (.int v9_4), .unset, .unset, .unset, .unset, .unset, .unset, .unset, .unset, .unset] [])) := by
    intro T X eT v9_4
    refine own_by (fun _ k => XS.lloadN X.here hx rfl (hb hby d6_9) rfl k) ?_
    show OEnds p e below s _ _ _ (T.setTop (mkF m 10 #[.val (.long q0), .second, .val (.int q1), .val (.int q2), .val (.int v9_4), .unset, .unset, .unset, .unset, .unset, .unset, .unset, .unset, .unset] [(.long q0)]))
    refine own_by (fun _ k => XS.iload X.here hx rfl (hb hby d6_10) rfl k) ?_
    show OEnds p e below s _ _ _ (T.setTop (mkF m 12 #[.val (.long q0), .second, .val (.int q1), .val (.int q2), .val (.int v9_4), .unset, .unset, .unset, .unset, .unset, .unset, .unset, .unset, .unset] [(.int v9_4), (.long q0)]))
    refine own_by (fun _ k => XS.bipush X.here hx rfl (hb hby d6_12) k) ?_
    show OEnds p e below s _ _ _ (T.setTop (mkF m 14 #[.val (.long q0), .second, .val (.int q1), .val (.int q2), .val (.int v9_4), .unset, .unset, .unset, .unset, .unset, .unset, .unset, .unset, .unset] [(.int (10 : Int32)), (.int v9_4), (.long q0)]))
    refine own_by (fun _ k => XS.idiv X.here hx rfl (hb hby d6_14) rfl (by decide) k) ?_
    show OEnds p e below s _ _ _ (T.setTop (mkF m 15 #[.val (.long q0), .second, .val (.int q1), .val (.int q2), .val (.int v9_4), .unset, .unset, .unset, .unset, .unset, .unset, .unset, .unset, .unset] [(.int (v9_4 / (10 : Int32))), (.long q0)]))
    refine own_by (fun _ k => XS.i2l X.here hx rfl (hb hby d6_15) rfl k) ?_
    show OEnds p e below s _ _ _ (T.setTop (mkF m 16 #[.val (.long q0), .second, .val (.int q1), .val (.int q2), .val (.int v9_4), .unset, .unset, .unset, .unset, .unset, .unset, .unset, .unset, .unset] [(.long ((v9_4 / (10 : Int32)).toInt64)), (.long q0)]))
    refine own_by (fun _ k => XS.lsub X.here hx rfl (hb hby d6_16) rfl k) ?_
    show OEnds p e below s _ _ _ (T.setTop (mkF m 17 #[.val (.long q0), .second, .val (.int q1), .val (.int q2), .val (.int v9_4), .unset, .unset, .unset, .unset, .unset, .unset, .unset, .unset, .unset] [(.long (q0 - ((v9_4 / (10 : Int32)).toInt64)))]))
    refine own_by (fun _ k => XS.lstore X.here hx rfl (hb hby d6_17) rfl (l' := #[.val (.long q0), .second, .val (.int q1), .val (.int q2), .val (.int v9_4), .val (.long (q0 - ((v9_4 / (10 : Int32)).toInt64))), .second, .unset, .unset, .unset, .unset, .unset, .unset, .unset]) rfl k) ?_
    show OEnds p e below s _ _ _ (T.setTop (mkF m 19 #[.val (.long q0), .second, .val (.int q1), .val (.int q2), .val (.int v9_4), .val (.long (q0 - ((v9_4 / (10 : Int32)).toInt64))), .second, .unset, .unset, .unset, .unset, .unset, .unset, .unset] []))
    exact own_eq (congrArg Value.long (by rw [epof_9] <;> rfl)) (bepof_19 T X eT v9_4 (q0 - ((v9_4 / (10 : Int32)).toInt64)))
  show OEnds p e below s _ _ _ _
  refine own_by (fun t k => castTop (ef_6 m q0 q1 q2) k) ?_
  show OEnds p e below s _ _ _ (s₁.setTop (mkF m 0 #[.val (.long q0), .second, .val (.int q1), .val (.int q2), .unset, .unset, .unset, .unset, .unset, .unset, .unset, .unset, .unset, .unset] []))
  refine own_by (fun _ k => XS.iloadN X0.here hx rfl (hb hby d6_0) rfl k) ?_
  show OEnds p e below s _ _ _ (s₁.setTop (mkF m 1 #[.val (.long q0), .second, .val (.int q1), .val (.int q2), .unset, .unset, .unset, .unset, .unset, .unset, .unset, .unset, .unset, .unset] [(.int q1)]))
  refine own_by (fun _ k => XS.bipush X0.here hx rfl (hb hby d6_1) k) ?_
  show OEnds p e below s _ _ _ (s₁.setTop (mkF m 3 #[.val (.long q0), .second, .val (.int q1), .val (.int q2), .unset, .unset, .unset, .unset, .unset, .unset, .unset, .unset, .unset, .unset] [(.int (9 : Int32)), (.int q1)]))
  refine own_by (fun _ k => XS.iadd X0.here hx rfl (hb hby d6_3) rfl k) ?_
  show OEnds p e below s _ _ _ (s₁.setTop (mkF m 4 #[.val (.long q0), .second, .val (.int q1), .val (.int q2), .unset, .unset, .unset, .unset, .unset, .unset, .unset, .unset, .unset, .unset] [(.int (q1 + (9 : Int32)))]))
  refine own_by (fun _ k => XS.bipush X0.here hx rfl (hb hby d6_4) k) ?_
  show OEnds p e below s _ _ _ (s₁.setTop (mkF m 6 #[.val (.long q0), .second, .val (.int q1), .val (.int q2), .unset, .unset, .unset, .unset, .unset, .unset, .unset, .unset, .unset, .unset] [(.int (12 : Int32)), (.int (q1 + (9 : Int32)))]))
  refine own_by (fun _ k => iremM X0 hx rfl (hb hby d6_6) rfl (by decide) k) ?_
  show OEnds p e below s _ _ _ (s₁.setTop (mkF m 7 #[.val (.long q0), .second, .val (.int q1), .val (.int q2), .unset, .unset, .unset, .unset, .unset, .unset, .unset, .unset, .unset, .unset] [(.int ((q1 + (9 : Int32)) % (12 : Int32)))]))
  refine own_by (fun _ k => XS.istore X0.here hx rfl (hb hby d6_7) rfl (l' := #[.val (.long q0), .second, .val (.int q1), .val (.int q2), .val (.int ((q1 + (9 : Int32)) % (12 : Int32))), .unset, .unset, .unset, .unset, .unset, .unset, .unset, .unset, .unset]) rfl k) ?_
  show OEnds p e below s _ _ _ (s₁.setTop (mkF m 9 #[.val (.long q0), .second, .val (.int q1), .val (.int q2), .val (.int ((q1 + (9 : Int32)) % (12 : Int32))), .unset, .unset, .unset, .unset, .unset, .unset, .unset, .unset, .unset] []))
  exact own_eq (congrArg Value.long (by rw [epof] <;> rfl)) (bepof_9 s₁ X0 e0 ((q1 + (9 : Int32)) % (12 : Int32)))
theorem d1_0 : decode prog_18_method_3_code 0 = .ok (.lload_n 0, 1) := by decide +kernel
theorem d1_1 : decode prog_18_method_3_code 1 = .ok (.bipush 12, 2) := by decide +kernel
theorem d1_3 : decode prog_18_method_3_code 3 = .ok (.invokestatic 9, 3) := by decide +kernel
theorem d1_6 : decode prog_18_method_3_code 6 = .ok (.lload_n 0, 1) := by decide +kernel
theorem d1_7 : decode prog_18_method_3_code 7 = .ok (.bipush 12, 2) := by decide +kernel
theorem d1_9 : decode prog_18_method_3_code 9 = .ok (.invokestatic 27, 3) := by decide +kernel
theorem d1_12 : decode prog_18_method_3_code 12 = .ok (.iconst 1, 1) := by decide +kernel
theorem d1_13 : decode prog_18_method_3_code 13 = .ok (.iadd, 1) := by decide +kernel
theorem d1_14 : decode prog_18_method_3_code 14 = .ok (.iload_n 2, 1) := by decide +kernel
theorem d1_15 : decode prog_18_method_3_code 15 = .ok (.invokestatic 31, 3) := by decide +kernel
theorem d1_18 : decode prog_18_method_3_code 18 = .ok (.lreturn, 1) := by decide +kernel
theorem pn_1 : plainName "com/example/exact_membership/exactmembership/model/EpochDays" = true := by first | (simp [plainName, overriddenIn]; done) | decide +kernel
theorem ef_1 (m : MethodId) (q0 : Int64) (q1 : Int32) : entryFrame m #[(.long q0), (.int q1)] 3 = mkF m 0 #[.val (.long q0), .second, .val (.int q1)] [] := by first | (simp [entryFrame, mkF, argsToLocals, Value.category]; done) | rfl
def epom (q0 : Int64) (q1 : Int32) : Int64 := (epof (fdivI q0 (12 : Int32)) ((fmodI q0 (12 : Int32)) + (1 : Int32)) q1)
set_option maxRecDepth 65536 in
set_option maxHeartbeats 40000000 in
theorem rm_epom (l : Launch) (Z : State) (a0 : Array Value) (hw : ∀ d ∈ tables_1, d.before a0 Z = true) (ws : List Jvm.Cond) (q0 : Int64) (q1 : Int32) (h0 : Heap) :
    MetFree l (⟨"com/example/exact_membership/exactmembership/model/EpochDays", "ofMonths", "(JI)J"⟩ : MethodName) (head1 (Jvm.Cond.code (⟨"com/example/exact_membership/exactmembership/model/EpochDays", "ofMonths", "(JI)J"⟩ : MethodName) prog_18_method_3_code 3 (some .long) :: ws) ({ frames := 3, cells := 0, slots := 0, locals := 56 } : Room)) (fun a U => a = #[(.long q0), (.int q1)] ∧ Z.Warmed39 U.vm ∧ U.heap = h0) (fun _ _ _ _ _ => True) (fun _ U o U' => ∃ v L, o = .returned v ∧ QP (Value.long (epom q0 q1)) h0 v U'.heap L ∧ FrameEnd U o U' L 0 0) := by
  refine MetFree.of_bodySF (plainFor_of_name pn_1) hisR ?_
  intro p e s m args below meth c s₁ Bd hml0 hP hK
  obtain ⟨rfl, hZ, hh⟩ := hP
  have hx := Bd.exec
  have hby := Bd.bytes
  have hlk : meth.locks = false := Bd.notSynchronized
  have hml : c.maxLocals = 3 := hml0
  have hown : s.vm.findClass "com/example/exact_membership/exactmembership/model/EpochDays" = some m.cls := findClass_of_methodNamed Bd.named
  have X0 : Stand p l e ({ frames := 3, cells := 0, slots := 0, locals := 56 } : Room) s m #[(.long q0), (.int q1)] below meth c s₁ [] 0 0 := Stand.of_body Bd
  have e0 : s₁.heap = h0 := by rw [← hh, Bd.state]; rfl
  show OEnds p e below s _ _ _ _
  refine own_by (fun t k => castTop (ef_1 m q0 q1) k) ?_
  show OEnds p e below s _ _ _ (s₁.setTop (mkF m 0 #[.val (.long q0), .second, .val (.int q1)] []))
  refine own_by (fun _ k => XS.lloadN X0.here hx rfl (hb hby d1_0) rfl k) ?_
  show OEnds p e below s _ _ _ (s₁.setTop (mkF m 1 #[.val (.long q0), .second, .val (.int q1)] [(.long q0)]))
  refine own_by (fun _ k => XS.bipush X0.here hx rfl (hb hby d1_1) k) ?_
  show OEnds p e below s _ _ _ (s₁.setTop (mkF m 3 #[.val (.long q0), .second, .val (.int q1)] [(.int (12 : Int32)), (.long q0)]))
  obtain ⟨T4, X4, e4, st4⟩ := own_callP X0 hx hZ (y := (⟨"java/lang/Math", "floorDiv", "(JI)J"⟩ : MethodName)) hown (hw _ (List.mem_of_getElem? (i := 4) rfl)) (hw _ (List.mem_of_getElem? (i := 5) rfl)) (hw _ (List.mem_of_getElem? (i := 6) rfl)) (hw _ (List.mem_of_getElem? (i := 7) rfl)) (by decide) (rm_fdivI l Z a0 hw [] q0 (12 : Int32) h0 (by decide)) e0 (g := (mkF m 3 #[.val (.long q0), .second, .val (.int q1)] [(.int (12 : Int32)), (.long q0)])) rfl (by rw [hml]; rfl) (argsL := [(.long q0), (.int (12 : Int32))]) (rest := []) (lenOf pd_pJIrJ rfl) rfl (W := 0) (by show 2 * 0 + _ ≤ _; exact Nat.le_of_eq rfl) (hb hby d1_3) (by decide) (by decide) (by decide) (by decide)
  refine own_by st4 ?_
  show OEnds p e below s _ _ _ (T4.setTop (mkF m 6 #[.val (.long q0), .second, .val (.int q1)] [(.long (fdivI q0 (12 : Int32)))]))
  refine own_by (fun _ k => XS.lloadN X4.here hx rfl (hb hby d1_6) rfl k) ?_
  show OEnds p e below s _ _ _ (T4.setTop (mkF m 7 #[.val (.long q0), .second, .val (.int q1)] [(.long q0), (.long (fdivI q0 (12 : Int32)))]))
  refine own_by (fun _ k => XS.bipush X4.here hx rfl (hb hby d1_7) k) ?_
  show OEnds p e below s _ _ _ (T4.setTop (mkF m 9 #[.val (.long q0), .second, .val (.int q1)] [(.int (12 : Int32)), (.long q0), (.long (fdivI q0 (12 : Int32)))]))
  obtain ⟨T5, X5, e5, st5⟩ := own_callP X4 hx hZ (y := (⟨"java/lang/Math", "floorMod", "(JI)I"⟩ : MethodName)) hown (hw _ (List.mem_of_getElem? (i := 11) rfl)) (hw _ (List.mem_of_getElem? (i := 12) rfl)) (hw _ (List.mem_of_getElem? (i := 6) rfl)) (hw _ (List.mem_of_getElem? (i := 13) rfl)) (by decide) (rm_fmodI l Z a0 hw [] q0 (12 : Int32) h0 (by decide)) e4 (g := (mkF m 9 #[.val (.long q0), .second, .val (.int q1)] [(.int (12 : Int32)), (.long q0), (.long (fdivI q0 (12 : Int32)))])) rfl (by rw [hml]; rfl) (argsL := [(.long q0), (.int (12 : Int32))]) (rest := [(.long (fdivI q0 (12 : Int32)))]) (lenOf pd_pJIrI rfl) rfl (W := 2) (by show 2 * 0 + _ ≤ _; exact Nat.le_of_eq rfl) (hb hby d1_9) (by decide) (by decide) (by decide) (by decide)
  refine own_by st5 ?_
  show OEnds p e below s _ _ _ (T5.setTop (mkF m 12 #[.val (.long q0), .second, .val (.int q1)] [(.int (fmodI q0 (12 : Int32))), (.long (fdivI q0 (12 : Int32)))]))
  refine own_by (fun _ k => XS.iconst X5.here hx rfl (hb hby d1_12) k) ?_
  show OEnds p e below s _ _ _ (T5.setTop (mkF m 13 #[.val (.long q0), .second, .val (.int q1)] [(.int (1 : Int32)), (.int (fmodI q0 (12 : Int32))), (.long (fdivI q0 (12 : Int32)))]))
  refine own_by (fun _ k => XS.iadd X5.here hx rfl (hb hby d1_13) rfl k) ?_
  show OEnds p e below s _ _ _ (T5.setTop (mkF m 14 #[.val (.long q0), .second, .val (.int q1)] [(.int ((fmodI q0 (12 : Int32)) + (1 : Int32))), (.long (fdivI q0 (12 : Int32)))]))
  refine own_by (fun _ k => XS.iloadN X5.here hx rfl (hb hby d1_14) rfl k) ?_
  show OEnds p e below s _ _ _ (T5.setTop (mkF m 15 #[.val (.long q0), .second, .val (.int q1)] [(.int q1), (.int ((fmodI q0 (12 : Int32)) + (1 : Int32))), (.long (fdivI q0 (12 : Int32)))]))
  obtain ⟨T6, X6, e6, st6⟩ := own_callP X5 hx hZ (y := (⟨"com/example/exact_membership/exactmembership/model/EpochDays", "of", "(JII)J"⟩ : MethodName)) hown (hw _ (List.mem_of_getElem? (i := 17) rfl)) (hw _ (List.mem_of_getElem? (i := 18) rfl)) (hw _ (List.mem_of_getElem? (i := 2) rfl)) (hw _ (List.mem_of_getElem? (i := 19) rfl)) (by decide) (rm_epof l Z a0 hw [] (fdivI q0 (12 : Int32)) ((fmodI q0 (12 : Int32)) + (1 : Int32)) q1 h0) e5 (g := (mkF m 15 #[.val (.long q0), .second, .val (.int q1)] [(.int q1), (.int ((fmodI q0 (12 : Int32)) + (1 : Int32))), (.long (fdivI q0 (12 : Int32)))])) rfl (by rw [hml]; rfl) (argsL := [(.long (fdivI q0 (12 : Int32))), (.int ((fmodI q0 (12 : Int32)) + (1 : Int32))), (.int q1)]) (rest := []) (lenOf pd_pJIIrJ rfl) rfl (W := 0) (by show 2 * 0 + _ ≤ _; exact Nat.le_of_eq rfl) (hb hby d1_15) (by decide) (by decide) (by decide) (by decide)
  refine own_by st6 ?_
  show OEnds p e below s _ _ _ (T6.setTop (mkF m 18 #[.val (.long q0), .second, .val (.int q1)] [(.long (epof (fdivI q0 (12 : Int32)) ((fmodI q0 (12 : Int32)) + (1 : Int32)) q1))]))
  exact own_retJ X6 hx hlk Bd.returns (hb hby d1_18) ⟨congrArg (fun z => some (Value.long z)) (Eq.symm (by rw [epom] <;> rfl)), rfl, e6⟩ (Nat.le_refl _) (Nat.le_refl _)
theorem d7_0 : decode method_3_code 0 = .ok (.lload_n 0, 1) := by decide +kernel
theorem d7_1 : decode method_3_code 1 = .ok (.ldc2_w 21, 3) := by decide +kernel
theorem d7_4 : decode method_3_code 4 = .ok (.ldiv, 1) := by decide +kernel
theorem d7_5 : decode method_3_code 5 = .ok (.lstore_n 2, 1) := by decide +kernel
theorem d7_6 : decode method_3_code 6 = .ok (.lload_n 0, 1) := by decide +kernel
theorem d7_7 : decode method_3_code 7 = .ok (.ldc2_w 21, 3) := by decide +kernel
theorem d7_10 : decode method_3_code 10 = .ok (.lrem, 1) := by decide +kernel
theorem d7_11 : decode method_3_code 11 = .ok (.lstore 4, 2) := by decide +kernel
theorem d7_13 : decode method_3_code 13 = .ok (.lload 4, 2) := by decide +kernel
theorem d7_15 : decode method_3_code 15 = .ok (.lconst 0, 1) := by decide +kernel
theorem d7_16 : decode method_3_code 16 = .ok (.lcmp, 1) := by decide +kernel
theorem d7_17 : decode method_3_code 17 = .ok (.ifCond .ge 15, 3) := by decide +kernel
theorem d7_20 : decode method_3_code 20 = .ok (.lload 4, 2) := by decide +kernel
theorem d7_22 : decode method_3_code 22 = .ok (.ldc2_w 21, 3) := by decide +kernel
theorem d7_25 : decode method_3_code 25 = .ok (.ladd, 1) := by decide +kernel
theorem d7_26 : decode method_3_code 26 = .ok (.lstore 4, 2) := by decide +kernel
theorem d7_28 : decode method_3_code 28 = .ok (.lload_n 2, 1) := by decide +kernel
theorem d7_29 : decode method_3_code 29 = .ok (.lconst 1, 1) := by decide +kernel
theorem d7_30 : decode method_3_code 30 = .ok (.lsub, 1) := by decide +kernel
theorem d7_31 : decode method_3_code 31 = .ok (.lstore_n 2, 1) := by decide +kernel
theorem d7_32 : decode method_3_code 32 = .ok (.lload 4, 2) := by decide +kernel
theorem d7_34 : decode method_3_code 34 = .ok (.lconst 1, 1) := by decide +kernel
theorem d7_35 : decode method_3_code 35 = .ok (.ladd, 1) := by decide +kernel
theorem d7_36 : decode method_3_code 36 = .ok (.lstore 6, 2) := by decide +kernel
theorem d7_38 : decode method_3_code 38 = .ok (.lload 6, 2) := by decide +kernel
theorem d7_40 : decode method_3_code 40 = .ok (.ldc2_w 23, 3) := by decide +kernel
theorem d7_43 : decode method_3_code 43 = .ok (.lcmp, 1) := by decide +kernel
theorem d7_44 : decode method_3_code 44 = .ok (.ifCond .ne 53, 3) := by decide +kernel
theorem d7_47 : decode method_3_code 47 = .ok (.lload_n 2, 1) := by decide +kernel
theorem d7_48 : decode method_3_code 48 = .ok (.ldc2_w 25, 3) := by decide +kernel
theorem d7_51 : decode method_3_code 51 = .ok (.lrem, 1) := by decide +kernel
theorem d7_52 : decode method_3_code 52 = .ok (.lconst 0, 1) := by decide +kernel
theorem d7_53 : decode method_3_code 53 = .ok (.lcmp, 1) := by decide +kernel
theorem d7_54 : decode method_3_code 54 = .ok (.ifCond .ne 27, 3) := by decide +kernel
theorem d7_57 : decode method_3_code 57 = .ok (.lload_n 2, 1) := by decide +kernel
theorem d7_58 : decode method_3_code 58 = .ok (.ldc2_w 27, 3) := by decide +kernel
theorem d7_61 : decode method_3_code 61 = .ok (.lrem, 1) := by decide +kernel
theorem d7_62 : decode method_3_code 62 = .ok (.lconst 0, 1) := by decide +kernel
theorem d7_63 : decode method_3_code 63 = .ok (.lcmp, 1) := by decide +kernel
theorem d7_64 : decode method_3_code 64 = .ok (.ifCond .ne 13, 3) := by decide +kernel
theorem d7_67 : decode method_3_code 67 = .ok (.lload_n 2, 1) := by decide +kernel
theorem d7_68 : decode method_3_code 68 = .ok (.ldc2_w 29, 3) := by decide +kernel
theorem d7_71 : decode method_3_code 71 = .ok (.lrem, 1) := by decide +kernel
theorem d7_72 : decode method_3_code 72 = .ok (.lconst 0, 1) := by decide +kernel
theorem d7_73 : decode method_3_code 73 = .ok (.lcmp, 1) := by decide +kernel
theorem d7_74 : decode method_3_code 74 = .ok (.ifCond .ne 7, 3) := by decide +kernel
theorem d7_77 : decode method_3_code 77 = .ok (.iconst 1, 1) := by decide +kernel
theorem d7_78 : decode method_3_code 78 = .ok (.goto 4, 3) := by decide +kernel
theorem d7_81 : decode method_3_code 81 = .ok (.iconst 0, 1) := by decide +kernel
theorem d7_82 : decode method_3_code 82 = .ok (.istore 8, 2) := by decide +kernel
theorem d7_84 : decode method_3_code 84 = .ok (.iload 8, 2) := by decide +kernel
theorem d7_86 : decode method_3_code 86 = .ok (.ifCond .eq 7, 3) := by decide +kernel
theorem d7_89 : decode method_3_code 89 = .ok (.ldc2_w 31, 3) := by decide +kernel
theorem d7_92 : decode method_3_code 92 = .ok (.lreturn, 1) := by decide +kernel
theorem d7_93 : decode method_3_code 93 = .ok (.ldc2_w 33, 3) := by decide +kernel
theorem d7_96 : decode method_3_code 96 = .ok (.lreturn, 1) := by decide +kernel
theorem d7_97 : decode method_3_code 97 = .ok (.lload 6, 2) := by decide +kernel
theorem d7_99 : decode method_3_code 99 = .ok (.ldc2_w 25, 3) := by decide +kernel
theorem d7_102 : decode method_3_code 102 = .ok (.lcmp, 1) := by decide +kernel
theorem d7_103 : decode method_3_code 103 = .ok (.ifCond .eq 30, 3) := by decide +kernel
theorem d7_106 : decode method_3_code 106 = .ok (.lload 6, 2) := by decide +kernel
theorem d7_108 : decode method_3_code 108 = .ok (.ldc2_w 35, 3) := by decide +kernel
theorem d7_111 : decode method_3_code 111 = .ok (.lcmp, 1) := by decide +kernel
theorem d7_112 : decode method_3_code 112 = .ok (.ifCond .eq 21, 3) := by decide +kernel
theorem d7_115 : decode method_3_code 115 = .ok (.lload 6, 2) := by decide +kernel
theorem d7_117 : decode method_3_code 117 = .ok (.ldc2_w 37, 3) := by decide +kernel
theorem d7_120 : decode method_3_code 120 = .ok (.lcmp, 1) := by decide +kernel
theorem d7_121 : decode method_3_code 121 = .ok (.ifCond .eq 12, 3) := by decide +kernel
theorem d7_124 : decode method_3_code 124 = .ok (.lload 6, 2) := by decide +kernel
theorem d7_126 : decode method_3_code 126 = .ok (.ldc2_w 39, 3) := by decide +kernel
theorem d7_129 : decode method_3_code 129 = .ok (.lcmp, 1) := by decide +kernel
theorem d7_130 : decode method_3_code 130 = .ok (.ifCond .ne 7, 3) := by decide +kernel
theorem d7_133 : decode method_3_code 133 = .ok (.ldc2_w 41, 3) := by decide +kernel
theorem d7_136 : decode method_3_code 136 = .ok (.lreturn, 1) := by decide +kernel
theorem d7_137 : decode method_3_code 137 = .ok (.ldc2_w 43, 3) := by decide +kernel
theorem d7_140 : decode method_3_code 140 = .ok (.lreturn, 1) := by decide +kernel
theorem pn_7 : plainName "com/example/exact_membership/exactmembership/model/EpochDaysOfMonthsPinLaw" = true := by first | (simp [plainName, overriddenIn]; done) | decide +kernel
theorem ef_7 (m : MethodId) (q0 : Int64) : entryFrame m #[(.long q0)] 9 = mkF m 0 #[.val (.long q0), .second, .unset, .unset, .unset, .unset, .unset, .unset, .unset] [] := by first | (simp [entryFrame, mkF, argsToLocals, Value.category]; done) | rfl
def lengthOf_133  : Int64 := (30 : Int64)
def lengthOf_82 (v82_s0 : Int32) : Int64 := if v82_s0 = (0 : Int32) then (28 : Int64) else (29 : Int64)
def lengthOf_81  : Int64 := (lengthOf_82 (0 : Int32))
def lengthOf_77  : Int64 := (lengthOf_82 (1 : Int32))
def lengthOf_38 (v32_2 : Int64) (v38_6 : Int64) : Int64 := if v38_6 = (2 : Int64) then if (v32_2 % (4 : Int64)) = (0 : Int64) then if (v32_2 % (100 : Int64)) = (0 : Int64) then if (v32_2 % (400 : Int64)) = (0 : Int64) then lengthOf_77 else lengthOf_81 else lengthOf_77 else lengthOf_81 else if v38_6 = (4 : Int64) then lengthOf_133 else if v38_6 = (6 : Int64) then lengthOf_133 else if v38_6 = (9 : Int64) then lengthOf_133 else if v38_6 = (11 : Int64) then lengthOf_133 else (31 : Int64)
def lengthOf_32 (v32_2 : Int64) (v32_4 : Int64) : Int64 := (lengthOf_38 v32_2 (v32_4 + (1 : Int64)))
def lengthOf_28 (v6_2 : Int64) (v28_4 : Int64) : Int64 := (lengthOf_32 (v6_2 - (1 : Int64)) v28_4)
def lengthOf_13 (v6_2 : Int64) (v13_4 : Int64) : Int64 := if v13_4 < (0 : Int64) then (lengthOf_28 v6_2 (v13_4 + (12 : Int64))) else (lengthOf_32 v6_2 v13_4)
def lengthOf_6 (q0 : Int64) (v6_2 : Int64) : Int64 := (lengthOf_13 v6_2 (q0 % (12 : Int64)))
def lengthOf (q0 : Int64) : Int64 := (lengthOf_6 q0 (q0 / (12 : Int64)))
set_option maxRecDepth 65536 in
set_option maxHeartbeats 40000000 in
theorem rm_lengthOf (l : Launch) (Z : State) (a0 : Array Value) (hw : ∀ d ∈ tables_1, d.before a0 Z = true) (ws : List Jvm.Cond) (q0 : Int64) (h0 : Heap) :
    MetFree l (⟨"com/example/exact_membership/exactmembership/model/EpochDaysOfMonthsPinLaw", "lengthOf", "(J)J"⟩ : MethodName) (head1 (Jvm.Cond.code (⟨"com/example/exact_membership/exactmembership/model/EpochDaysOfMonthsPinLaw", "lengthOf", "(J)J"⟩ : MethodName) method_3_code 9 (some .long) :: ws) ({ frames := 0, cells := 0, slots := 0, locals := 0 } : Room)) (fun a U => a = #[(.long q0)] ∧ Z.Warmed39 U.vm ∧ U.heap = h0) (fun _ _ _ _ _ => True) (fun _ U o U' => ∃ v L, o = .returned v ∧ QP (Value.long (lengthOf q0)) h0 v U'.heap L ∧ FrameEnd U o U' L 0 0) := by
  refine MetFree.of_bodySF (plainFor_of_name pn_7) hisR ?_
  intro p e s m args below meth c s₁ Bd hml0 hP hK
  obtain ⟨rfl, hZ, hh⟩ := hP
  have hx := Bd.exec
  have hby := Bd.bytes
  have hlk : meth.locks = false := Bd.notSynchronized
  have hml : c.maxLocals = 9 := hml0
  have hown : s.vm.findClass "com/example/exact_membership/exactmembership/model/EpochDaysOfMonthsPinLaw" = some m.cls := findClass_of_methodNamed Bd.named
  have X0 : Stand p l e ({ frames := 0, cells := 0, slots := 0, locals := 0 } : Room) s m #[(.long q0)] below meth c s₁ [] 0 0 := Stand.of_body Bd
  have e0 : s₁.heap = h0 := by rw [← hh, Bd.state]; rfl
  have blengthOf_133 : ∀ (T : State) (X : Stand p l e ({ frames := 0, cells := 0, slots := 0, locals := 0 } : Room) s m #[(.long q0)] below meth c T [] 0 0) (eT : T.heap = h0) (v32_2 : Int64) (v32_4 : Int64) (v38_6 : Int64), OEnds p e below s (QP (Value.long (lengthOf_133)) h0) 0 0 (T.setTop (mkF m 133 #[.val (.long q0), .second, .val (.long v32_2), .second, .val (.long v32_4), .second, .val (.long v38_6), .second, .unset] [])) := by
    intro T X eT v32_2 v32_4 v38_6
    refine own_by (X.ldc2Long hx hown (mvT hZ (hw _ (List.mem_of_getElem? (i := 41) rfl))) (g := (mkF m 133 #[.val (.long q0), .second, .val (.long v32_2), .second, .val (.long v32_4), .second, .val (.long v38_6), .second, .unset] [])) rfl (hb hby d7_133)) ?_
    show OEnds p e below s _ _ _ (T.setTop (mkF m 136 #[.val (.long q0), .second, .val (.long v32_2), .second, .val (.long v32_4), .second, .val (.long v38_6), .second, .unset] [(.long (30 : Int64))]))
    exact own_retJ X hx hlk Bd.returns (hb hby d7_136) ⟨congrArg (fun z => some (Value.long z)) (Eq.symm (by rw [lengthOf_133] <;> rfl)), rfl, eT⟩ (Nat.le_refl _) (Nat.le_refl _)
  have blengthOf_82 : ∀ (T : State) (X : Stand p l e ({ frames := 0, cells := 0, slots := 0, locals := 0 } : Room) s m #[(.long q0)] below meth c T [] 0 0) (eT : T.heap = h0) (v32_2 : Int64) (v32_4 : Int64) (v38_6 : Int64) (v82_s0 : Int32), OEnds p e below s (QP (Value.long (lengthOf_82 v82_s0)) h0) 0 0 (T.setTop (mkF m 82 #[.val (.long q0), .second, .val (.long v32_2), .second, .val (.long v32_4), .second, .val (.long v38_6), .second, .unset] [(.int v82_s0)])) := by
    intro T X eT v32_2 v32_4 v38_6 v82_s0
    refine own_by (fun _ k => XS.istore X.here hx rfl (hb hby d7_82) rfl (l' := #[.val (.long q0), .second, .val (.long v32_2), .second, .val (.long v32_4), .second, .val (.long v38_6), .second, .val (.int v82_s0)]) rfl k) ?_
    show OEnds p e below s _ _ _ (T.setTop (mkF m 84 #[.val (.long q0), .second, .val (.long v32_2), .second, .val (.long v32_4), .second, .val (.long v38_6), .second, .val (.int v82_s0)] []))
    refine own_by (fun _ k => XS.iload X.here hx rfl (hb hby d7_84) rfl k) ?_
    show OEnds p e below s _ _ _ (T.setTop (mkF m 86 #[.val (.long q0), .second, .val (.long v32_2), .second, .val (.long v32_4), .second, .val (.long v38_6), .second, .val (.int v82_s0)] [(.int v82_s0)]))
    by_cases hc86 : v82_s0 = (0 : Int32)
    · refine own_by (fun _ k => XS.ifYes X.here hx rfl (pc0 := 86) (pc' := 93) rfl (hb hby d7_86) rfl ((if0 _ _).trans (teq hc86).1) (by decide) (by decide) k) ?_
      show OEnds p e below s _ _ _ (T.setTop (mkF m 93 #[.val (.long q0), .second, .val (.long v32_2), .second, .val (.long v32_4), .second, .val (.long v38_6), .second, .val (.int v82_s0)] []))
      refine own_by (X.ldc2Long hx hown (mvT hZ (hw _ (List.mem_of_getElem? (i := 42) rfl))) (g := (mkF m 93 #[.val (.long q0), .second, .val (.long v32_2), .second, .val (.long v32_4), .second, .val (.long v38_6), .second, .val (.int v82_s0)] [])) rfl (hb hby d7_93)) ?_
      show OEnds p e below s _ _ _ (T.setTop (mkF m 96 #[.val (.long q0), .second, .val (.long v32_2), .second, .val (.long v32_4), .second, .val (.long v38_6), .second, .val (.int v82_s0)] [(.long (28 : Int64))]))
      exact own_retJ X hx hlk Bd.returns (hb hby d7_96) ⟨congrArg (fun z => some (Value.long z)) (Eq.symm (by rw [lengthOf_82, if_pos hc86] <;> rfl)), rfl, eT⟩ (Nat.le_refl _) (Nat.le_refl _)
    · refine own_by (fun _ k => XS.ifNo X.here hx rfl (hb hby d7_86) rfl ((if0 _ _).trans (feq hc86).1) k) ?_
      show OEnds p e below s _ _ _ (T.setTop (mkF m 89 #[.val (.long q0), .second, .val (.long v32_2), .second, .val (.long v32_4), .second, .val (.long v38_6), .second, .val (.int v82_s0)] []))
      refine own_by (X.ldc2Long hx hown (mvT hZ (hw _ (List.mem_of_getElem? (i := 40) rfl))) (g := (mkF m 89 #[.val (.long q0), .second, .val (.long v32_2), .second, .val (.long v32_4), .second, .val (.long v38_6), .second, .val (.int v82_s0)] [])) rfl (hb hby d7_89)) ?_
      show OEnds p e below s _ _ _ (T.setTop (mkF m 92 #[.val (.long q0), .second, .val (.long v32_2), .second, .val (.long v32_4), .second, .val (.long v38_6), .second, .val (.int v82_s0)] [(.long (29 : Int64))]))
      exact own_retJ X hx hlk Bd.returns (hb hby d7_92) ⟨congrArg (fun z => some (Value.long z)) (Eq.symm (by rw [lengthOf_82, if_neg hc86] <;> rfl)), rfl, eT⟩ (Nat.le_refl _) (Nat.le_refl _)
  have blengthOf_81 : ∀ (T : State) (X : Stand p l e ({ frames := 0, cells := 0, slots := 0, locals := 0 } : Room) s m #[(.long q0)] below meth c T [] 0 0) (eT : T.heap = h0) (v32_2 : Int64) (v32_4 : Int64) (v38_6 : Int64), OEnds p e below s (QP (Value.long (lengthOf_81)) h0) 0 0 (T.setTop (mkF m 81 #[.val (.long q0), .second, .val (.long v32_2), .second, .val (.long v32_4), .second, .val (.long v38_6), .second, .unset] [])) := by
    intro T X eT v32_2 v32_4 v38_6
    refine own_by (fun _ k => XS.iconst X.here hx rfl (hb hby d7_81) k) ?_
    show OEnds p e below s _ _ _ (T.setTop (mkF m 82 #[.val (.long q0), .second, .val (.long v32_2), .second, .val (.long v32_4), .second, .val (.long v38_6), .second, .unset] [(.int (0 : Int32))]))
    exact own_eq (congrArg Value.long (by rw [lengthOf_81] <;> rfl)) (blengthOf_82 T X eT v32_2 v32_4 v38_6 (0 : Int32))
  have blengthOf_77 : ∀ (T : State) (X : Stand p l e ({ frames := 0, cells := 0, slots := 0, locals := 0 } : Room) s m #[(.long q0)] below meth c T [] 0 0) (eT : T.heap = h0) (v32_2 : Int64) (v32_4 : Int64) (v38_6 : Int64), OEnds p e below s (QP (Value.long (lengthOf_77)) h0) 0 0 (T.setTop (mkF m 77 #[.val (.long q0), .second, .val (.long v32_2), .second, .val (.long v32_4), .second, .val (.long v38_6), .second, .unset] [])) := by
    intro T X eT v32_2 v32_4 v38_6
    refine own_by (fun _ k => XS.iconst X.here hx rfl (hb hby d7_77) k) ?_
    show OEnds p e below s _ _ _ (T.setTop (mkF m 78 #[.val (.long q0), .second, .val (.long v32_2), .second, .val (.long v32_4), .second, .val (.long v38_6), .second, .unset] [(.int (1 : Int32))]))
    refine own_by (fun _ k => XS.goto X.here hx rfl (pc0 := 78) (pc' := 82) rfl (hb hby d7_78) (by decide) (by decide) k) ?_
    show OEnds p e below s _ _ _ (T.setTop (mkF m 82 #[.val (.long q0), .second, .val (.long v32_2), .second, .val (.long v32_4), .second, .val (.long v38_6), .second, .unset] [(.int (1 : Int32))]))
    exact own_eq (congrArg Value.long (by rw [lengthOf_77] <;> rfl)) (blengthOf_82 T X eT v32_2 v32_4 v38_6 (1 : Int32))
  have blengthOf_38 : ∀ (T : State) (X : Stand p l e ({ frames := 0, cells := 0, slots := 0, locals := 0 } : Room) s m #[(.long q0)] below meth c T [] 0 0) (eT : T.heap = h0) (v32_2 : Int64) (v32_4 : Int64) (v38_6 : Int64), OEnds p e below s (QP (Value.long (lengthOf_38 v32_2 v38_6)) h0) 0 0 (T.setTop (mkF m 38 #[.val (.long q0), .second, .val (.long v32_2), .second, .val (.long v32_4), .second, .val (.long v38_6), .second, .unset] [])) := by
    intro T X eT v32_2 v32_4 v38_6
    refine own_by (fun _ k => XS.lload X.here hx rfl (hb hby d7_38) rfl k) ?_
    show OEnds p e below s _ _ _ (T.setTop (mkF m 40 #[.val (.long q0), .second, .val (.long v32_2), .second, .val (.long v32_4), .second, .val (.long v38_6), .second, .unset] [(.long v38_6)]))
    refine own_by (X.ldc2Long hx hown (mvT hZ (hw _ (List.mem_of_getElem? (i := 32) rfl))) (g := (mkF m 40 #[.val (.long q0), .second, .val (.long v32_2), .second, .val (.long v32_4), .second, .val (.long v38_6), .second, .unset] [(.long v38_6)])) rfl (hb hby d7_40)) ?_
    show OEnds p e below s _ _ _ (T.setTop (mkF m 43 #[.val (.long q0), .second, .val (.long v32_2), .second, .val (.long v32_4), .second, .val (.long v38_6), .second, .unset] [(.long (2 : Int64)), (.long v38_6)]))
    refine own_by (fun _ k => XS.lcmp X.here hx rfl (hb hby d7_43) rfl k) ?_
    show OEnds p e below s _ _ _ (T.setTop (mkF m 44 #[.val (.long q0), .second, .val (.long v32_2), .second, .val (.long v32_4), .second, .val (.long v38_6), .second, .unset] [(.int (lcmpW v38_6 (2 : Int64)))]))
    by_cases hc44 : v38_6 = (2 : Int64)
    · refine own_by (fun _ k => XS.ifNo X.here hx rfl (hb hby d7_44) rfl ((if0 _ _).trans (teq ((lw_eq _ _).mpr hc44)).2) k) ?_
      show OEnds p e below s _ _ _ (T.setTop (mkF m 47 #[.val (.long q0), .second, .val (.long v32_2), .second, .val (.long v32_4), .second, .val (.long v38_6), .second, .unset] []))
      refine own_by (fun _ k => XS.lloadN X.here hx rfl (hb hby d7_47) rfl k) ?_
      show OEnds p e below s _ _ _ (T.setTop (mkF m 48 #[.val (.long q0), .second, .val (.long v32_2), .second, .val (.long v32_4), .second, .val (.long v38_6), .second, .unset] [(.long v32_2)]))
      refine own_by (X.ldc2Long hx hown (mvT hZ (hw _ (List.mem_of_getElem? (i := 33) rfl))) (g := (mkF m 48 #[.val (.long q0), .second, .val (.long v32_2), .second, .val (.long v32_4), .second, .val (.long v38_6), .second, .unset] [(.long v32_2)])) rfl (hb hby d7_48)) ?_
      show OEnds p e below s _ _ _ (T.setTop (mkF m 51 #[.val (.long q0), .second, .val (.long v32_2), .second, .val (.long v32_4), .second, .val (.long v38_6), .second, .unset] [(.long (4 : Int64)), (.long v32_2)]))
      refine own_by (fun _ k => own_lrem X hx rfl (hb hby d7_51) rfl (by decide) k) ?_
      show OEnds p e below s _ _ _ (T.setTop (mkF m 52 #[.val (.long q0), .second, .val (.long v32_2), .second, .val (.long v32_4), .second, .val (.long v38_6), .second, .unset] [(.long (v32_2 % (4 : Int64)))]))
      refine own_by (fun _ k => XS.lconst X.here hx rfl (hb hby d7_52) k) ?_
      show OEnds p e below s _ _ _ (T.setTop (mkF m 53 #[.val (.long q0), .second, .val (.long v32_2), .second, .val (.long v32_4), .second, .val (.long v38_6), .second, .unset] [(.long (0 : Int64)), (.long (v32_2 % (4 : Int64)))]))
      refine own_by (fun _ k => XS.lcmp X.here hx rfl (hb hby d7_53) rfl k) ?_
      show OEnds p e below s _ _ _ (T.setTop (mkF m 54 #[.val (.long q0), .second, .val (.long v32_2), .second, .val (.long v32_4), .second, .val (.long v38_6), .second, .unset] [(.int (lcmpW (v32_2 % (4 : Int64)) (0 : Int64)))]))
      by_cases hc54 : (v32_2 % (4 : Int64)) = (0 : Int64)
      · refine own_by (fun _ k => XS.ifNo X.here hx rfl (hb hby d7_54) rfl ((if0 _ _).trans (teq ((lw_eq _ _).mpr hc54)).2) k) ?_
        show OEnds p e below s _ _ _ (T.setTop (mkF m 57 #[.val (.long q0), .second, .val (.long v32_2), .second, .val (.long v32_4), .second, .val (.long v38_6), .second, .unset] []))
        refine own_by (fun _ k => XS.lloadN X.here hx rfl (hb hby d7_57) rfl k) ?_
        show OEnds p e below s _ _ _ (T.setTop (mkF m 58 #[.val (.long q0), .second, .val (.long v32_2), .second, .val (.long v32_4), .second, .val (.long v38_6), .second, .unset] [(.long v32_2)]))
        refine own_by (X.ldc2Long hx hown (mvT hZ (hw _ (List.mem_of_getElem? (i := 38) rfl))) (g := (mkF m 58 #[.val (.long q0), .second, .val (.long v32_2), .second, .val (.long v32_4), .second, .val (.long v38_6), .second, .unset] [(.long v32_2)])) rfl (hb hby d7_58)) ?_
        show OEnds p e below s _ _ _ (T.setTop (mkF m 61 #[.val (.long q0), .second, .val (.long v32_2), .second, .val (.long v32_4), .second, .val (.long v38_6), .second, .unset] [(.long (100 : Int64)), (.long v32_2)]))
        refine own_by (fun _ k => own_lrem X hx rfl (hb hby d7_61) rfl (by decide) k) ?_
        show OEnds p e below s _ _ _ (T.setTop (mkF m 62 #[.val (.long q0), .second, .val (.long v32_2), .second, .val (.long v32_4), .second, .val (.long v38_6), .second, .unset] [(.long (v32_2 % (100 : Int64)))]))
        refine own_by (fun _ k => XS.lconst X.here hx rfl (hb hby d7_62) k) ?_
        show OEnds p e below s _ _ _ (T.setTop (mkF m 63 #[.val (.long q0), .second, .val (.long v32_2), .second, .val (.long v32_4), .second, .val (.long v38_6), .second, .unset] [(.long (0 : Int64)), (.long (v32_2 % (100 : Int64)))]))
        refine own_by (fun _ k => XS.lcmp X.here hx rfl (hb hby d7_63) rfl k) ?_
        show OEnds p e below s _ _ _ (T.setTop (mkF m 64 #[.val (.long q0), .second, .val (.long v32_2), .second, .val (.long v32_4), .second, .val (.long v38_6), .second, .unset] [(.int (lcmpW (v32_2 % (100 : Int64)) (0 : Int64)))]))
        by_cases hc64 : (v32_2 % (100 : Int64)) = (0 : Int64)
        · refine own_by (fun _ k => XS.ifNo X.here hx rfl (hb hby d7_64) rfl ((if0 _ _).trans (teq ((lw_eq _ _).mpr hc64)).2) k) ?_
          show OEnds p e below s _ _ _ (T.setTop (mkF m 67 #[.val (.long q0), .second, .val (.long v32_2), .second, .val (.long v32_4), .second, .val (.long v38_6), .second, .unset] []))
          refine own_by (fun _ k => XS.lloadN X.here hx rfl (hb hby d7_67) rfl k) ?_
          show OEnds p e below s _ _ _ (T.setTop (mkF m 68 #[.val (.long q0), .second, .val (.long v32_2), .second, .val (.long v32_4), .second, .val (.long v38_6), .second, .unset] [(.long v32_2)]))
          refine own_by (X.ldc2Long hx hown (mvT hZ (hw _ (List.mem_of_getElem? (i := 39) rfl))) (g := (mkF m 68 #[.val (.long q0), .second, .val (.long v32_2), .second, .val (.long v32_4), .second, .val (.long v38_6), .second, .unset] [(.long v32_2)])) rfl (hb hby d7_68)) ?_
          show OEnds p e below s _ _ _ (T.setTop (mkF m 71 #[.val (.long q0), .second, .val (.long v32_2), .second, .val (.long v32_4), .second, .val (.long v38_6), .second, .unset] [(.long (400 : Int64)), (.long v32_2)]))
          refine own_by (fun _ k => own_lrem X hx rfl (hb hby d7_71) rfl (by decide) k) ?_
          show OEnds p e below s _ _ _ (T.setTop (mkF m 72 #[.val (.long q0), .second, .val (.long v32_2), .second, .val (.long v32_4), .second, .val (.long v38_6), .second, .unset] [(.long (v32_2 % (400 : Int64)))]))
          refine own_by (fun _ k => XS.lconst X.here hx rfl (hb hby d7_72) k) ?_
          show OEnds p e below s _ _ _ (T.setTop (mkF m 73 #[.val (.long q0), .second, .val (.long v32_2), .second, .val (.long v32_4), .second, .val (.long v38_6), .second, .unset] [(.long (0 : Int64)), (.long (v32_2 % (400 : Int64)))]))
          refine own_by (fun _ k => XS.lcmp X.here hx rfl (hb hby d7_73) rfl k) ?_
          show OEnds p e below s _ _ _ (T.setTop (mkF m 74 #[.val (.long q0), .second, .val (.long v32_2), .second, .val (.long v32_4), .second, .val (.long v38_6), .second, .unset] [(.int (lcmpW (v32_2 % (400 : Int64)) (0 : Int64)))]))
          by_cases hc74 : (v32_2 % (400 : Int64)) = (0 : Int64)
          · refine own_by (fun _ k => XS.ifNo X.here hx rfl (hb hby d7_74) rfl ((if0 _ _).trans (teq ((lw_eq _ _).mpr hc74)).2) k) ?_
            show OEnds p e below s _ _ _ (T.setTop (mkF m 77 #[.val (.long q0), .second, .val (.long v32_2), .second, .val (.long v32_4), .second, .val (.long v38_6), .second, .unset] []))
            exact own_eq (congrArg Value.long (by rw [lengthOf_38, if_pos hc44, if_pos hc54, if_pos hc64, if_pos hc74] <;> rfl)) (blengthOf_77 T X eT v32_2 v32_4 v38_6)
          · refine own_by (fun _ k => XS.ifYes X.here hx rfl (pc0 := 74) (pc' := 81) rfl (hb hby d7_74) rfl ((if0 _ _).trans (feq (fun q => hc74 ((lw_eq _ _).mp q))).2) (by decide) (by decide) k) ?_
            show OEnds p e below s _ _ _ (T.setTop (mkF m 81 #[.val (.long q0), .second, .val (.long v32_2), .second, .val (.long v32_4), .second, .val (.long v38_6), .second, .unset] []))
            exact own_eq (congrArg Value.long (by rw [lengthOf_38, if_pos hc44, if_pos hc54, if_pos hc64, if_neg hc74] <;> rfl)) (blengthOf_81 T X eT v32_2 v32_4 v38_6)
        · refine own_by (fun _ k => XS.ifYes X.here hx rfl (pc0 := 64) (pc' := 77) rfl (hb hby d7_64) rfl ((if0 _ _).trans (feq (fun q => hc64 ((lw_eq _ _).mp q))).2) (by decide) (by decide) k) ?_
          show OEnds p e below s _ _ _ (T.setTop (mkF m 77 #[.val (.long q0), .second, .val (.long v32_2), .second, .val (.long v32_4), .second, .val (.long v38_6), .second, .unset] []))
          exact own_eq (congrArg Value.long (by rw [lengthOf_38, if_pos hc44, if_pos hc54, if_neg hc64] <;> rfl)) (blengthOf_77 T X eT v32_2 v32_4 v38_6)
      · refine own_by (fun _ k => XS.ifYes X.here hx rfl (pc0 := 54) (pc' := 81) rfl (hb hby d7_54) rfl ((if0 _ _).trans (feq (fun q => hc54 ((lw_eq _ _).mp q))).2) (by decide) (by decide) k) ?_
        show OEnds p e below s _ _ _ (T.setTop (mkF m 81 #[.val (.long q0), .second, .val (.long v32_2), .second, .val (.long v32_4), .second, .val (.long v38_6), .second, .unset] []))
        exact own_eq (congrArg Value.long (by rw [lengthOf_38, if_pos hc44, if_neg hc54] <;> rfl)) (blengthOf_81 T X eT v32_2 v32_4 v38_6)
    · refine own_by (fun _ k => XS.ifYes X.here hx rfl (pc0 := 44) (pc' := 97) rfl (hb hby d7_44) rfl ((if0 _ _).trans (feq (fun q => hc44 ((lw_eq _ _).mp q))).2) (by decide) (by decide) k) ?_
      show OEnds p e below s _ _ _ (T.setTop (mkF m 97 #[.val (.long q0), .second, .val (.long v32_2), .second, .val (.long v32_4), .second, .val (.long v38_6), .second, .unset] []))
      refine own_by (fun _ k => XS.lload X.here hx rfl (hb hby d7_97) rfl k) ?_
      show OEnds p e below s _ _ _ (T.setTop (mkF m 99 #[.val (.long q0), .second, .val (.long v32_2), .second, .val (.long v32_4), .second, .val (.long v38_6), .second, .unset] [(.long v38_6)]))
      refine own_by (X.ldc2Long hx hown (mvT hZ (hw _ (List.mem_of_getElem? (i := 33) rfl))) (g := (mkF m 99 #[.val (.long q0), .second, .val (.long v32_2), .second, .val (.long v32_4), .second, .val (.long v38_6), .second, .unset] [(.long v38_6)])) rfl (hb hby d7_99)) ?_
      show OEnds p e below s _ _ _ (T.setTop (mkF m 102 #[.val (.long q0), .second, .val (.long v32_2), .second, .val (.long v32_4), .second, .val (.long v38_6), .second, .unset] [(.long (4 : Int64)), (.long v38_6)]))
      refine own_by (fun _ k => XS.lcmp X.here hx rfl (hb hby d7_102) rfl k) ?_
      show OEnds p e below s _ _ _ (T.setTop (mkF m 103 #[.val (.long q0), .second, .val (.long v32_2), .second, .val (.long v32_4), .second, .val (.long v38_6), .second, .unset] [(.int (lcmpW v38_6 (4 : Int64)))]))
      by_cases hc103 : v38_6 = (4 : Int64)
      · refine own_by (fun _ k => XS.ifYes X.here hx rfl (pc0 := 103) (pc' := 133) rfl (hb hby d7_103) rfl ((if0 _ _).trans (teq ((lw_eq _ _).mpr hc103)).1) (by decide) (by decide) k) ?_
        show OEnds p e below s _ _ _ (T.setTop (mkF m 133 #[.val (.long q0), .second, .val (.long v32_2), .second, .val (.long v32_4), .second, .val (.long v38_6), .second, .unset] []))
        exact own_eq (congrArg Value.long (by rw [lengthOf_38, if_neg hc44, if_pos hc103] <;> rfl)) (blengthOf_133 T X eT v32_2 v32_4 v38_6)
      · refine own_by (fun _ k => XS.ifNo X.here hx rfl (hb hby d7_103) rfl ((if0 _ _).trans (feq (fun q => hc103 ((lw_eq _ _).mp q))).1) k) ?_
        show OEnds p e below s _ _ _ (T.setTop (mkF m 106 #[.val (.long q0), .second, .val (.long v32_2), .second, .val (.long v32_4), .second, .val (.long v38_6), .second, .unset] []))
        refine own_by (fun _ k => XS.lload X.here hx rfl (hb hby d7_106) rfl k) ?_
        show OEnds p e below s _ _ _ (T.setTop (mkF m 108 #[.val (.long q0), .second, .val (.long v32_2), .second, .val (.long v32_4), .second, .val (.long v38_6), .second, .unset] [(.long v38_6)]))
        refine own_by (X.ldc2Long hx hown (mvT hZ (hw _ (List.mem_of_getElem? (i := 34) rfl))) (g := (mkF m 108 #[.val (.long q0), .second, .val (.long v32_2), .second, .val (.long v32_4), .second, .val (.long v38_6), .second, .unset] [(.long v38_6)])) rfl (hb hby d7_108)) ?_
        show OEnds p e below s _ _ _ (T.setTop (mkF m 111 #[.val (.long q0), .second, .val (.long v32_2), .second, .val (.long v32_4), .second, .val (.long v38_6), .second, .unset] [(.long (6 : Int64)), (.long v38_6)]))
        refine own_by (fun _ k => XS.lcmp X.here hx rfl (hb hby d7_111) rfl k) ?_
        show OEnds p e below s _ _ _ (T.setTop (mkF m 112 #[.val (.long q0), .second, .val (.long v32_2), .second, .val (.long v32_4), .second, .val (.long v38_6), .second, .unset] [(.int (lcmpW v38_6 (6 : Int64)))]))
        by_cases hc112 : v38_6 = (6 : Int64)
        · refine own_by (fun _ k => XS.ifYes X.here hx rfl (pc0 := 112) (pc' := 133) rfl (hb hby d7_112) rfl ((if0 _ _).trans (teq ((lw_eq _ _).mpr hc112)).1) (by decide) (by decide) k) ?_
          show OEnds p e below s _ _ _ (T.setTop (mkF m 133 #[.val (.long q0), .second, .val (.long v32_2), .second, .val (.long v32_4), .second, .val (.long v38_6), .second, .unset] []))
          exact own_eq (congrArg Value.long (by rw [lengthOf_38, if_neg hc44, if_neg hc103, if_pos hc112] <;> rfl)) (blengthOf_133 T X eT v32_2 v32_4 v38_6)
        · refine own_by (fun _ k => XS.ifNo X.here hx rfl (hb hby d7_112) rfl ((if0 _ _).trans (feq (fun q => hc112 ((lw_eq _ _).mp q))).1) k) ?_
          show OEnds p e below s _ _ _ (T.setTop (mkF m 115 #[.val (.long q0), .second, .val (.long v32_2), .second, .val (.long v32_4), .second, .val (.long v38_6), .second, .unset] []))
          refine own_by (fun _ k => XS.lload X.here hx rfl (hb hby d7_115) rfl k) ?_
          show OEnds p e below s _ _ _ (T.setTop (mkF m 117 #[.val (.long q0), .second, .val (.long v32_2), .second, .val (.long v32_4), .second, .val (.long v38_6), .second, .unset] [(.long v38_6)]))
          refine own_by (X.ldc2Long hx hown (mvT hZ (hw _ (List.mem_of_getElem? (i := 35) rfl))) (g := (mkF m 117 #[.val (.long q0), .second, .val (.long v32_2), .second, .val (.long v32_4), .second, .val (.long v38_6), .second, .unset] [(.long v38_6)])) rfl (hb hby d7_117)) ?_
          show OEnds p e below s _ _ _ (T.setTop (mkF m 120 #[.val (.long q0), .second, .val (.long v32_2), .second, .val (.long v32_4), .second, .val (.long v38_6), .second, .unset] [(.long (9 : Int64)), (.long v38_6)]))
          refine own_by (fun _ k => XS.lcmp X.here hx rfl (hb hby d7_120) rfl k) ?_
          show OEnds p e below s _ _ _ (T.setTop (mkF m 121 #[.val (.long q0), .second, .val (.long v32_2), .second, .val (.long v32_4), .second, .val (.long v38_6), .second, .unset] [(.int (lcmpW v38_6 (9 : Int64)))]))
          by_cases hc121 : v38_6 = (9 : Int64)
          · refine own_by (fun _ k => XS.ifYes X.here hx rfl (pc0 := 121) (pc' := 133) rfl (hb hby d7_121) rfl ((if0 _ _).trans (teq ((lw_eq _ _).mpr hc121)).1) (by decide) (by decide) k) ?_
            show OEnds p e below s _ _ _ (T.setTop (mkF m 133 #[.val (.long q0), .second, .val (.long v32_2), .second, .val (.long v32_4), .second, .val (.long v38_6), .second, .unset] []))
            exact own_eq (congrArg Value.long (by rw [lengthOf_38, if_neg hc44, if_neg hc103, if_neg hc112, if_pos hc121] <;> rfl)) (blengthOf_133 T X eT v32_2 v32_4 v38_6)
          · refine own_by (fun _ k => XS.ifNo X.here hx rfl (hb hby d7_121) rfl ((if0 _ _).trans (feq (fun q => hc121 ((lw_eq _ _).mp q))).1) k) ?_
            show OEnds p e below s _ _ _ (T.setTop (mkF m 124 #[.val (.long q0), .second, .val (.long v32_2), .second, .val (.long v32_4), .second, .val (.long v38_6), .second, .unset] []))
            refine own_by (fun _ k => XS.lload X.here hx rfl (hb hby d7_124) rfl k) ?_
            show OEnds p e below s _ _ _ (T.setTop (mkF m 126 #[.val (.long q0), .second, .val (.long v32_2), .second, .val (.long v32_4), .second, .val (.long v38_6), .second, .unset] [(.long v38_6)]))
            refine own_by (X.ldc2Long hx hown (mvT hZ (hw _ (List.mem_of_getElem? (i := 36) rfl))) (g := (mkF m 126 #[.val (.long q0), .second, .val (.long v32_2), .second, .val (.long v32_4), .second, .val (.long v38_6), .second, .unset] [(.long v38_6)])) rfl (hb hby d7_126)) ?_
            show OEnds p e below s _ _ _ (T.setTop (mkF m 129 #[.val (.long q0), .second, .val (.long v32_2), .second, .val (.long v32_4), .second, .val (.long v38_6), .second, .unset] [(.long (11 : Int64)), (.long v38_6)]))
            refine own_by (fun _ k => XS.lcmp X.here hx rfl (hb hby d7_129) rfl k) ?_
            show OEnds p e below s _ _ _ (T.setTop (mkF m 130 #[.val (.long q0), .second, .val (.long v32_2), .second, .val (.long v32_4), .second, .val (.long v38_6), .second, .unset] [(.int (lcmpW v38_6 (11 : Int64)))]))
            by_cases hc130 : v38_6 = (11 : Int64)
            · refine own_by (fun _ k => XS.ifNo X.here hx rfl (hb hby d7_130) rfl ((if0 _ _).trans (teq ((lw_eq _ _).mpr hc130)).2) k) ?_
              show OEnds p e below s _ _ _ (T.setTop (mkF m 133 #[.val (.long q0), .second, .val (.long v32_2), .second, .val (.long v32_4), .second, .val (.long v38_6), .second, .unset] []))
              exact own_eq (congrArg Value.long (by rw [lengthOf_38, if_neg hc44, if_neg hc103, if_neg hc112, if_neg hc121, if_pos hc130] <;> rfl)) (blengthOf_133 T X eT v32_2 v32_4 v38_6)
            · refine own_by (fun _ k => XS.ifYes X.here hx rfl (pc0 := 130) (pc' := 137) rfl (hb hby d7_130) rfl ((if0 _ _).trans (feq (fun q => hc130 ((lw_eq _ _).mp q))).2) (by decide) (by decide) k) ?_
              show OEnds p e below s _ _ _ (T.setTop (mkF m 137 #[.val (.long q0), .second, .val (.long v32_2), .second, .val (.long v32_4), .second, .val (.long v38_6), .second, .unset] []))
              refine own_by (X.ldc2Long hx hown (mvT hZ (hw _ (List.mem_of_getElem? (i := 37) rfl))) (g := (mkF m 137 #[.val (.long q0), .second, .val (.long v32_2), .second, .val (.long v32_4), .second, .val (.long v38_6), .second, .unset] [])) rfl (hb hby d7_137)) ?_
              show OEnds p e below s _ _ _ (T.setTop (mkF m 140 #[.val (.long q0), .second, .val (.long v32_2), .second, .val (.long v32_4), .second, .val (.long v38_6), .second, .unset] [(.long (31 : Int64))]))
              exact own_retJ X hx hlk Bd.returns (hb hby d7_140) ⟨congrArg (fun z => some (Value.long z)) (Eq.symm (by rw [lengthOf_38, if_neg hc44, if_neg hc103, if_neg hc112, if_neg hc121, if_neg hc130] <;> rfl)), rfl, eT⟩ (Nat.le_refl _) (Nat.le_refl _)
  have blengthOf_32 : ∀ (T : State) (X : Stand p l e ({ frames := 0, cells := 0, slots := 0, locals := 0 } : Room) s m #[(.long q0)] below meth c T [] 0 0) (eT : T.heap = h0) (v32_2 : Int64) (v32_4 : Int64), OEnds p e below s (QP (Value.long (lengthOf_32 v32_2 v32_4)) h0) 0 0 (T.setTop (mkF m 32 #[.val (.long q0), .second, .val (.long v32_2), .second, .val (.long v32_4), .second, .unset, .unset, .unset] [])) := by
    intro T X eT v32_2 v32_4
    refine own_by (fun _ k => XS.lload X.here hx rfl (hb hby d7_32) rfl k) ?_
    show OEnds p e below s _ _ _ (T.setTop (mkF m 34 #[.val (.long q0), .second, .val (.long v32_2), .second, .val (.long v32_4), .second, .unset, .unset, .unset] [(.long v32_4)]))
    refine own_by (fun _ k => XS.lconst X.here hx rfl (hb hby d7_34) k) ?_
    show OEnds p e below s _ _ _ (T.setTop (mkF m 35 #[.val (.long q0), .second, .val (.long v32_2), .second, .val (.long v32_4), .second, .unset, .unset, .unset] [(.long (1 : Int64)), (.long v32_4)]))
    refine own_by (fun _ k => XS.ladd X.here hx rfl (hb hby d7_35) rfl k) ?_
    show OEnds p e below s _ _ _ (T.setTop (mkF m 36 #[.val (.long q0), .second, .val (.long v32_2), .second, .val (.long v32_4), .second, .unset, .unset, .unset] [(.long (v32_4 + (1 : Int64)))]))
    refine own_by (fun _ k => XS.lstore X.here hx rfl (hb hby d7_36) rfl (l' := #[.val (.long q0), .second, .val (.long v32_2), .second, .val (.long v32_4), .second, .val (.long (v32_4 + (1 : Int64))), .second, .unset]) rfl k) ?_
    show OEnds p e below s _ _ _ (T.setTop (mkF m 38 #[.val (.long q0), .second, .val (.long v32_2), .second, .val (.long v32_4), .second, .val (.long (v32_4 + (1 : Int64))), .second, .unset] []))
    exact own_eq (congrArg Value.long (by rw [lengthOf_32] <;> rfl)) (blengthOf_38 T X eT v32_2 v32_4 (v32_4 + (1 : Int64)))
  have blengthOf_28 : ∀ (T : State) (X : Stand p l e ({ frames := 0, cells := 0, slots := 0, locals := 0 } : Room) s m #[(.long q0)] below meth c T [] 0 0) (eT : T.heap = h0) (v6_2 : Int64) (v28_4 : Int64), OEnds p e below s (QP (Value.long (lengthOf_28 v6_2 v28_4)) h0) 0 0 (T.setTop (mkF m 28 #[.val (.long q0), .second, .val (.long v6_2), .second, .val (.long v28_4), .second, .unset, .unset, .unset] [])) := by
    intro T X eT v6_2 v28_4
    refine own_by (fun _ k => XS.lloadN X.here hx rfl (hb hby d7_28) rfl k) ?_
    show OEnds p e below s _ _ _ (T.setTop (mkF m 29 #[.val (.long q0), .second, .val (.long v6_2), .second, .val (.long v28_4), .second, .unset, .unset, .unset] [(.long v6_2)]))
    refine own_by (fun _ k => XS.lconst X.here hx rfl (hb hby d7_29) k) ?_
    show OEnds p e below s _ _ _ (T.setTop (mkF m 30 #[.val (.long q0), .second, .val (.long v6_2), .second, .val (.long v28_4), .second, .unset, .unset, .unset] [(.long (1 : Int64)), (.long v6_2)]))
    refine own_by (fun _ k => XS.lsub X.here hx rfl (hb hby d7_30) rfl k) ?_
    show OEnds p e below s _ _ _ (T.setTop (mkF m 31 #[.val (.long q0), .second, .val (.long v6_2), .second, .val (.long v28_4), .second, .unset, .unset, .unset] [(.long (v6_2 - (1 : Int64)))]))
    refine own_by (fun _ k => XS.lstoreN X.here hx rfl (hb hby d7_31) rfl (l' := #[.val (.long q0), .second, .val (.long (v6_2 - (1 : Int64))), .second, .val (.long v28_4), .second, .unset, .unset, .unset]) rfl k) ?_
    show OEnds p e below s _ _ _ (T.setTop (mkF m 32 #[.val (.long q0), .second, .val (.long (v6_2 - (1 : Int64))), .second, .val (.long v28_4), .second, .unset, .unset, .unset] []))
    exact own_eq (congrArg Value.long (by rw [lengthOf_28] <;> rfl)) (blengthOf_32 T X eT (v6_2 - (1 : Int64)) v28_4)
  have blengthOf_13 : ∀ (T : State) (X : Stand p l e ({ frames := 0, cells := 0, slots := 0, locals := 0 } : Room) s m #[(.long q0)] below meth c T [] 0 0) (eT : T.heap = h0) (v6_2 : Int64) (v13_4 : Int64), OEnds p e below s (QP (Value.long (lengthOf_13 v6_2 v13_4)) h0) 0 0 (T.setTop (mkF m 13 #[.val (.long q0), .second, .val (.long v6_2), .second, .val (.long v13_4), .second, .unset, .unset, .unset] [])) := by
    intro T X eT v6_2 v13_4
    refine own_by (fun _ k => XS.lload X.here hx rfl (hb hby d7_13) rfl k) ?_
    show OEnds p e below s _ _ _ (T.setTop (mkF m 15 #[.val (.long q0), .second, .val (.long v6_2), .second, .val (.long v13_4), .second, .unset, .unset, .unset] [(.long v13_4)]))
    refine own_by (fun _ k => XS.lconst X.here hx rfl (hb hby d7_15) k) ?_
    show OEnds p e below s _ _ _ (T.setTop (mkF m 16 #[.val (.long q0), .second, .val (.long v6_2), .second, .val (.long v13_4), .second, .unset, .unset, .unset] [(.long (0 : Int64)), (.long v13_4)]))
    refine own_by (fun _ k => XS.lcmp X.here hx rfl (hb hby d7_16) rfl k) ?_
    show OEnds p e below s _ _ _ (T.setTop (mkF m 17 #[.val (.long q0), .second, .val (.long v6_2), .second, .val (.long v13_4), .second, .unset, .unset, .unset] [(.int (lcmpW v13_4 (0 : Int64)))]))
    by_cases hc17 : v13_4 < (0 : Int64)
    · refine own_by (fun _ k => XS.ifNo X.here hx rfl (hb hby d7_17) rfl ((if0 _ _).trans (tlt ((lw_lt _ _).mpr hc17)).2.1) k) ?_
      show OEnds p e below s _ _ _ (T.setTop (mkF m 20 #[.val (.long q0), .second, .val (.long v6_2), .second, .val (.long v13_4), .second, .unset, .unset, .unset] []))
      refine own_by (fun _ k => XS.lload X.here hx rfl (hb hby d7_20) rfl k) ?_
      show OEnds p e below s _ _ _ (T.setTop (mkF m 22 #[.val (.long q0), .second, .val (.long v6_2), .second, .val (.long v13_4), .second, .unset, .unset, .unset] [(.long v13_4)]))
      refine own_by (X.ldc2Long hx hown (mvT hZ (hw _ (List.mem_of_getElem? (i := 31) rfl))) (g := (mkF m 22 #[.val (.long q0), .second, .val (.long v6_2), .second, .val (.long v13_4), .second, .unset, .unset, .unset] [(.long v13_4)])) rfl (hb hby d7_22)) ?_
      show OEnds p e below s _ _ _ (T.setTop (mkF m 25 #[.val (.long q0), .second, .val (.long v6_2), .second, .val (.long v13_4), .second, .unset, .unset, .unset] [(.long (12 : Int64)), (.long v13_4)]))
      refine own_by (fun _ k => XS.ladd X.here hx rfl (hb hby d7_25) rfl k) ?_
      show OEnds p e below s _ _ _ (T.setTop (mkF m 26 #[.val (.long q0), .second, .val (.long v6_2), .second, .val (.long v13_4), .second, .unset, .unset, .unset] [(.long (v13_4 + (12 : Int64)))]))
      refine own_by (fun _ k => XS.lstore X.here hx rfl (hb hby d7_26) rfl (l' := #[.val (.long q0), .second, .val (.long v6_2), .second, .val (.long (v13_4 + (12 : Int64))), .second, .unset, .unset, .unset]) rfl k) ?_
      show OEnds p e below s _ _ _ (T.setTop (mkF m 28 #[.val (.long q0), .second, .val (.long v6_2), .second, .val (.long (v13_4 + (12 : Int64))), .second, .unset, .unset, .unset] []))
      exact own_eq (congrArg Value.long (by rw [lengthOf_13, if_pos hc17] <;> rfl)) (blengthOf_28 T X eT v6_2 (v13_4 + (12 : Int64)))
    · refine own_by (fun _ k => XS.ifYes X.here hx rfl (pc0 := 17) (pc' := 32) rfl (hb hby d7_17) rfl ((if0 _ _).trans (flt (fun q => hc17 ((lw_lt _ _).mp q))).2.1) (by decide) (by decide) k) ?_
      show OEnds p e below s _ _ _ (T.setTop (mkF m 32 #[.val (.long q0), .second, .val (.long v6_2), .second, .val (.long v13_4), .second, .unset, .unset, .unset] []))
      exact own_eq (congrArg Value.long (by rw [lengthOf_13, if_neg hc17] <;> rfl)) (blengthOf_32 T X eT v6_2 v13_4)
  have blengthOf_6 : ∀ (T : State) (X : Stand p l e ({ frames := 0, cells := 0, slots := 0, locals := 0 } : Room) s m #[(.long q0)] below meth c T [] 0 0) (eT : T.heap = h0) (v6_2 : Int64), OEnds p e below s (QP (Value.long (lengthOf_6 q0 v6_2)) h0) 0 0 (T.setTop (mkF m 6 #[.val (.long q0), .second, .val (.long v6_2), .second, .unset, .unset, .unset, .unset, .unset] [])) := by
    intro T X eT v6_2
    refine own_by (fun _ k => XS.lloadN X.here hx rfl (hb hby d7_6) rfl k) ?_
    show OEnds p e below s _ _ _ (T.setTop (mkF m 7 #[.val (.long q0), .second, .val (.long v6_2), .second, .unset, .unset, .unset, .unset, .unset] [(.long q0)]))
    refine own_by (X.ldc2Long hx hown (mvT hZ (hw _ (List.mem_of_getElem? (i := 31) rfl))) (g := (mkF m 7 #[.val (.long q0), .second, .val (.long v6_2), .second, .unset, .unset, .unset, .unset, .unset] [(.long q0)])) rfl (hb hby d7_7)) ?_
    show OEnds p e below s _ _ _ (T.setTop (mkF m 10 #[.val (.long q0), .second, .val (.long v6_2), .second, .unset, .unset, .unset, .unset, .unset] [(.long (12 : Int64)), (.long q0)]))
    refine own_by (fun _ k => own_lrem X hx rfl (hb hby d7_10) rfl (by decide) k) ?_
    show OEnds p e below s _ _ _ (T.setTop (mkF m 11 #[.val (.long q0), .second, .val (.long v6_2), .second, .unset, .unset, .unset, .unset, .unset] [(.long (q0 % (12 : Int64)))]))
    refine own_by (fun _ k => XS.lstore X.here hx rfl (hb hby d7_11) rfl (l' := #[.val (.long q0), .second, .val (.long v6_2), .second, .val (.long (q0 % (12 : Int64))), .second, .unset, .unset, .unset]) rfl k) ?_
    show OEnds p e below s _ _ _ (T.setTop (mkF m 13 #[.val (.long q0), .second, .val (.long v6_2), .second, .val (.long (q0 % (12 : Int64))), .second, .unset, .unset, .unset] []))
    exact own_eq (congrArg Value.long (by rw [lengthOf_6] <;> rfl)) (blengthOf_13 T X eT v6_2 (q0 % (12 : Int64)))
  show OEnds p e below s _ _ _ _
  refine own_by (fun t k => castTop (ef_7 m q0) k) ?_
  show OEnds p e below s _ _ _ (s₁.setTop (mkF m 0 #[.val (.long q0), .second, .unset, .unset, .unset, .unset, .unset, .unset, .unset] []))
  refine own_by (fun _ k => XS.lloadN X0.here hx rfl (hb hby d7_0) rfl k) ?_
  show OEnds p e below s _ _ _ (s₁.setTop (mkF m 1 #[.val (.long q0), .second, .unset, .unset, .unset, .unset, .unset, .unset, .unset] [(.long q0)]))
  refine own_by (X0.ldc2Long hx hown (mvT hZ (hw _ (List.mem_of_getElem? (i := 31) rfl))) (g := (mkF m 1 #[.val (.long q0), .second, .unset, .unset, .unset, .unset, .unset, .unset, .unset] [(.long q0)])) rfl (hb hby d7_1)) ?_
  show OEnds p e below s _ _ _ (s₁.setTop (mkF m 4 #[.val (.long q0), .second, .unset, .unset, .unset, .unset, .unset, .unset, .unset] [(.long (12 : Int64)), (.long q0)]))
  refine own_by (fun _ k => XS.ldiv X0.here hx rfl (hb hby d7_4) rfl (by decide) k) ?_
  show OEnds p e below s _ _ _ (s₁.setTop (mkF m 5 #[.val (.long q0), .second, .unset, .unset, .unset, .unset, .unset, .unset, .unset] [(.long (q0 / (12 : Int64)))]))
  refine own_by (fun _ k => XS.lstoreN X0.here hx rfl (hb hby d7_5) rfl (l' := #[.val (.long q0), .second, .val (.long (q0 / (12 : Int64))), .second, .unset, .unset, .unset, .unset, .unset]) rfl k) ?_
  show OEnds p e below s _ _ _ (s₁.setTop (mkF m 6 #[.val (.long q0), .second, .val (.long (q0 / (12 : Int64))), .second, .unset, .unset, .unset, .unset, .unset] []))
  exact own_eq (congrArg Value.long (by rw [lengthOf] <;> rfl)) (blengthOf_6 s₁ X0 e0 (q0 / (12 : Int64)))
theorem pn_0 : plainName "com/example/exact_membership/exactmembership/model/EpochDaysOfMonthsPinLaw" = true := by first | (simp [plainName, overriddenIn]; done) | decide +kernel
theorem ef_0 (m : MethodId) (q0 : Int64) (q1 : Int32) : entryFrame m #[(.long q0), (.int q1)] maxLocals = mkF m 0 #[.val (.long q0), .second, .val (.int q1), .unset, .unset, .unset, .unset, .unset, .unset, .unset, .unset, .unset, .unset, .unset] [] := by first | (simp [entryFrame, mkF, argsToLocals, Value.category, maxLocals]; done) | rfl
def law_82 (v82_s0 : Int32) : Int32 := (nar .boolean v82_s0)
def law_81  : Int32 := (law_82 (0 : Int32))
def law_43 (v5_3 : Int64) (v10_5 : Int32) (v17_6 : Int64) (v26_8 : Int64) (v34_10 : Int64) (v43_12 : Int64) : Int32 := if v43_12 = (0 : Int64) then if (v26_8 - v17_6) = (lengthOf v5_3) then if v34_10 = (v17_6 + ((v10_5.toInt64) - (1 : Int64))) then (law_82 (1 : Int32)) else law_81 else law_81 else law_81
def law_34 (v5_3 : Int64) (v10_5 : Int32) (v17_6 : Int64) (v26_8 : Int64) (v34_10 : Int64) : Int32 := (law_43 v5_3 v10_5 v17_6 v26_8 v34_10 (epom (23640 : Int64) (1 : Int32)))
def law_26 (v5_3 : Int64) (v10_5 : Int32) (v17_6 : Int64) (v26_8 : Int64) : Int32 := (law_34 v5_3 v10_5 v17_6 v26_8 (epom v5_3 v10_5))
def law_17 (v5_3 : Int64) (v10_5 : Int32) (v17_6 : Int64) : Int32 := (law_26 v5_3 v10_5 v17_6 (epom (v5_3 + (1 : Int64)) (1 : Int32)))
def law_10 (v5_3 : Int64) (v10_5 : Int32) : Int32 := (law_17 v5_3 v10_5 (epom v5_3 (1 : Int32)))
def law_5 (q1 : Int32) (v5_3 : Int64) : Int32 := (law_10 v5_3 (q1 >>> ((1 : Int32) &&& 31)))
def law (q0 : Int64) (q1 : Int32) : Int32 := (law_5 q1 (q0 >>> ((6 : Int32) &&& 0x3f).toInt64))
set_option maxRecDepth 65536 in
set_option maxHeartbeats 40000000 in
theorem rm_law (l : Launch) (Z : State) (a0 : Array Value) (hw : ∀ d ∈ tables_1, d.before a0 Z = true) (ws : List Jvm.Cond) (q0 : Int64) (q1 : Int32) (h0 : Heap) :
    MetFree l x (head1 (Jvm.Cond.code x code maxLocals ret :: ws) room_1) (fun a U => a = #[(.long q0), (.int q1)] ∧ Z.Warmed39 U.vm ∧ U.heap = h0) (fun _ _ _ _ _ => True) (fun _ U o U' => ∃ v L, o = .returned v ∧ QP (Value.int (law q0 q1)) h0 v U'.heap L ∧ FrameEnd U o U' L 0 0) := by
  refine MetFree.of_bodySF (plainFor_of_name pn_0) hisR ?_
  intro p e s m args below meth c s₁ Bd hml0 hP hK
  obtain ⟨rfl, hZ, hh⟩ := hP
  have hx := Bd.exec
  have hby := Bd.bytes
  have hlk : meth.locks = false := Bd.notSynchronized
  have hml : c.maxLocals = 14 := hml0
  have hown : s.vm.findClass "com/example/exact_membership/exactmembership/model/EpochDaysOfMonthsPinLaw" = some m.cls := findClass_of_methodNamed Bd.named
  have X0 : Stand p l e room_1 s m #[(.long q0), (.int q1)] below meth c s₁ [] 0 0 := Stand.of_body Bd
  have e0 : s₁.heap = h0 := by rw [← hh, Bd.state]; rfl
  have blaw_82 : ∀ (T : State) (X : Stand p l e room_1 s m #[(.long q0), (.int q1)] below meth c T [] 0 0) (eT : T.heap = h0) (v5_3 : Int64) (v10_5 : Int32) (v17_6 : Int64) (v26_8 : Int64) (v34_10 : Int64) (v43_12 : Int64) (v82_s0 : Int32), OEnds p e below s (QP (Value.int (law_82 v82_s0)) h0) 0 0 (T.setTop (mkF m 82 #[.val (.long q0), .second, .val (.int q1), .val (.long v5_3), .second, .val (.int v10_5), .val (.long v17_6), .second, .val (.long v26_8), .second, .val (.long v34_10), .second, .val (.long v43_12), .second] [(.int v82_s0)])) := by
    intro T X eT v5_3 v10_5 v17_6 v26_8 v34_10 v43_12 v82_s0
    exact own_retN X hx hlk .boolean (by simp) Bd.returns (hb hby at_82) ⟨congrArg (fun z => some (Value.int z)) (Eq.symm (by rw [law_82] <;> rfl)), rfl, eT⟩ (Nat.le_refl _) (Nat.le_refl _)
  have blaw_81 : ∀ (T : State) (X : Stand p l e room_1 s m #[(.long q0), (.int q1)] below meth c T [] 0 0) (eT : T.heap = h0) (v5_3 : Int64) (v10_5 : Int32) (v17_6 : Int64) (v26_8 : Int64) (v34_10 : Int64) (v43_12 : Int64), OEnds p e below s (QP (Value.int (law_81)) h0) 0 0 (T.setTop (mkF m 81 #[.val (.long q0), .second, .val (.int q1), .val (.long v5_3), .second, .val (.int v10_5), .val (.long v17_6), .second, .val (.long v26_8), .second, .val (.long v34_10), .second, .val (.long v43_12), .second] [])) := by
    intro T X eT v5_3 v10_5 v17_6 v26_8 v34_10 v43_12
    refine own_by (fun _ k => XS.iconst X.here hx rfl (hb hby at_81) k) ?_
    show OEnds p e below s _ _ _ (T.setTop (mkF m 82 #[.val (.long q0), .second, .val (.int q1), .val (.long v5_3), .second, .val (.int v10_5), .val (.long v17_6), .second, .val (.long v26_8), .second, .val (.long v34_10), .second, .val (.long v43_12), .second] [(.int (0 : Int32))]))
    exact own_eq (congrArg Value.int (by rw [law_81] <;> rfl)) (blaw_82 T X eT v5_3 v10_5 v17_6 v26_8 v34_10 v43_12 (0 : Int32))
  have blaw_43 : ∀ (T : State) (X : Stand p l e room_1 s m #[(.long q0), (.int q1)] below meth c T [] 0 0) (eT : T.heap = h0) (v5_3 : Int64) (v10_5 : Int32) (v17_6 : Int64) (v26_8 : Int64) (v34_10 : Int64) (v43_12 : Int64), OEnds p e below s (QP (Value.int (law_43 v5_3 v10_5 v17_6 v26_8 v34_10 v43_12)) h0) 0 0 (T.setTop (mkF m 43 #[.val (.long q0), .second, .val (.int q1), .val (.long v5_3), .second, .val (.int v10_5), .val (.long v17_6), .second, .val (.long v26_8), .second, .val (.long v34_10), .second, .val (.long v43_12), .second] [])) := by
    intro T X eT v5_3 v10_5 v17_6 v26_8 v34_10 v43_12
    refine own_by (fun _ k => XS.lload X.here hx rfl (hb hby at_43) rfl k) ?_
    show OEnds p e below s _ _ _ (T.setTop (mkF m 45 #[.val (.long q0), .second, .val (.int q1), .val (.long v5_3), .second, .val (.int v10_5), .val (.long v17_6), .second, .val (.long v26_8), .second, .val (.long v34_10), .second, .val (.long v43_12), .second] [(.long v43_12)]))
    refine own_by (fun _ k => XS.lconst X.here hx rfl (hb hby at_45) k) ?_
    show OEnds p e below s _ _ _ (T.setTop (mkF m 46 #[.val (.long q0), .second, .val (.int q1), .val (.long v5_3), .second, .val (.int v10_5), .val (.long v17_6), .second, .val (.long v26_8), .second, .val (.long v34_10), .second, .val (.long v43_12), .second] [(.long (0 : Int64)), (.long v43_12)]))
    refine own_by (fun _ k => XS.lcmp X.here hx rfl (hb hby at_46) rfl k) ?_
    show OEnds p e below s _ _ _ (T.setTop (mkF m 47 #[.val (.long q0), .second, .val (.int q1), .val (.long v5_3), .second, .val (.int v10_5), .val (.long v17_6), .second, .val (.long v26_8), .second, .val (.long v34_10), .second, .val (.long v43_12), .second] [(.int (lcmpW v43_12 (0 : Int64)))]))
    by_cases hc47 : v43_12 = (0 : Int64)
    · refine own_by (fun _ k => XS.ifNo X.here hx rfl (hb hby at_47) rfl ((if0 _ _).trans (teq ((lw_eq _ _).mpr hc47)).2) k) ?_
      show OEnds p e below s _ _ _ (T.setTop (mkF m 50 #[.val (.long q0), .second, .val (.int q1), .val (.long v5_3), .second, .val (.int v10_5), .val (.long v17_6), .second, .val (.long v26_8), .second, .val (.long v34_10), .second, .val (.long v43_12), .second] []))
      refine own_by (fun _ k => XS.lload X.here hx rfl (hb hby at_50) rfl k) ?_
      show OEnds p e below s _ _ _ (T.setTop (mkF m 52 #[.val (.long q0), .second, .val (.int q1), .val (.long v5_3), .second, .val (.int v10_5), .val (.long v17_6), .second, .val (.long v26_8), .second, .val (.long v34_10), .second, .val (.long v43_12), .second] [(.long v26_8)]))
      refine own_by (fun _ k => XS.lload X.here hx rfl (hb hby at_52) rfl k) ?_
      show OEnds p e below s _ _ _ (T.setTop (mkF m 54 #[.val (.long q0), .second, .val (.int q1), .val (.long v5_3), .second, .val (.int v10_5), .val (.long v17_6), .second, .val (.long v26_8), .second, .val (.long v34_10), .second, .val (.long v43_12), .second] [(.long v17_6), (.long v26_8)]))
      refine own_by (fun _ k => XS.lsub X.here hx rfl (hb hby at_54) rfl k) ?_
      show OEnds p e below s _ _ _ (T.setTop (mkF m 55 #[.val (.long q0), .second, .val (.int q1), .val (.long v5_3), .second, .val (.int v10_5), .val (.long v17_6), .second, .val (.long v26_8), .second, .val (.long v34_10), .second, .val (.long v43_12), .second] [(.long (v26_8 - v17_6))]))
      refine own_by (fun _ k => XS.lloadN X.here hx rfl (hb hby at_55) rfl k) ?_
      show OEnds p e below s _ _ _ (T.setTop (mkF m 56 #[.val (.long q0), .second, .val (.int q1), .val (.long v5_3), .second, .val (.int v10_5), .val (.long v17_6), .second, .val (.long v26_8), .second, .val (.long v34_10), .second, .val (.long v43_12), .second] [(.long v5_3), (.long (v26_8 - v17_6))]))
      obtain ⟨T6, X6, e6, st6⟩ := own_callP X hx hZ (y := (⟨"com/example/exact_membership/exactmembership/model/EpochDaysOfMonthsPinLaw", "lengthOf", "(J)J"⟩ : MethodName)) hown (hw _ (List.mem_of_getElem? (i := 27) rfl)) (hw _ (List.mem_of_getElem? (i := 28) rfl)) (hw _ (List.mem_of_getElem? (i := 29) rfl)) (hw _ (List.mem_of_getElem? (i := 30) rfl)) (by decide) (rm_lengthOf l Z a0 hw [] v5_3 h0) eT (g := (mkF m 56 #[.val (.long q0), .second, .val (.int q1), .val (.long v5_3), .second, .val (.int v10_5), .val (.long v17_6), .second, .val (.long v26_8), .second, .val (.long v34_10), .second, .val (.long v43_12), .second] [(.long v5_3), (.long (v26_8 - v17_6))])) rfl (by rw [hml]; rfl) (argsL := [(.long v5_3)]) (rest := [(.long (v26_8 - v17_6))]) (lenOf pd_pJrJ rfl) rfl (W := 2) (by show 2 * 0 + _ ≤ _; exact Nat.le_of_eq rfl) (hb hby at_56) (by decide) (by decide) (by decide) (by decide)
      refine own_by st6 ?_
      show OEnds p e below s _ _ _ (T6.setTop (mkF m 59 #[.val (.long q0), .second, .val (.int q1), .val (.long v5_3), .second, .val (.int v10_5), .val (.long v17_6), .second, .val (.long v26_8), .second, .val (.long v34_10), .second, .val (.long v43_12), .second] [(.long (lengthOf v5_3)), (.long (v26_8 - v17_6))]))
      refine own_by (fun _ k => XS.lcmp X6.here hx rfl (hb hby at_59) rfl k) ?_
      show OEnds p e below s _ _ _ (T6.setTop (mkF m 60 #[.val (.long q0), .second, .val (.int q1), .val (.long v5_3), .second, .val (.int v10_5), .val (.long v17_6), .second, .val (.long v26_8), .second, .val (.long v34_10), .second, .val (.long v43_12), .second] [(.int (lcmpW (v26_8 - v17_6) (lengthOf v5_3)))]))
      by_cases hc60 : (v26_8 - v17_6) = (lengthOf v5_3)
      · refine own_by (fun _ k => XS.ifNo X6.here hx rfl (hb hby at_60) rfl ((if0 _ _).trans (teq ((lw_eq _ _).mpr hc60)).2) k) ?_
        show OEnds p e below s _ _ _ (T6.setTop (mkF m 63 #[.val (.long q0), .second, .val (.int q1), .val (.long v5_3), .second, .val (.int v10_5), .val (.long v17_6), .second, .val (.long v26_8), .second, .val (.long v34_10), .second, .val (.long v43_12), .second] []))
        refine own_by (fun _ k => XS.lload X6.here hx rfl (hb hby at_63) rfl k) ?_
        show OEnds p e below s _ _ _ (T6.setTop (mkF m 65 #[.val (.long q0), .second, .val (.int q1), .val (.long v5_3), .second, .val (.int v10_5), .val (.long v17_6), .second, .val (.long v26_8), .second, .val (.long v34_10), .second, .val (.long v43_12), .second] [(.long v34_10)]))
        refine own_by (fun _ k => XS.lload X6.here hx rfl (hb hby at_65) rfl k) ?_
        show OEnds p e below s _ _ _ (T6.setTop (mkF m 67 #[.val (.long q0), .second, .val (.int q1), .val (.long v5_3), .second, .val (.int v10_5), .val (.long v17_6), .second, .val (.long v26_8), .second, .val (.long v34_10), .second, .val (.long v43_12), .second] [(.long v17_6), (.long v34_10)]))
        refine own_by (fun _ k => XS.iload X6.here hx rfl (hb hby at_67) rfl k) ?_
        show OEnds p e below s _ _ _ (T6.setTop (mkF m 69 #[.val (.long q0), .second, .val (.int q1), .val (.long v5_3), .second, .val (.int v10_5), .val (.long v17_6), .second, .val (.long v26_8), .second, .val (.long v34_10), .second, .val (.long v43_12), .second] [(.int v10_5), (.long v17_6), (.long v34_10)]))
        refine own_by (fun _ k => XS.i2l X6.here hx rfl (hb hby at_69) rfl k) ?_
        show OEnds p e below s _ _ _ (T6.setTop (mkF m 70 #[.val (.long q0), .second, .val (.int q1), .val (.long v5_3), .second, .val (.int v10_5), .val (.long v17_6), .second, .val (.long v26_8), .second, .val (.long v34_10), .second, .val (.long v43_12), .second] [(.long (v10_5.toInt64)), (.long v17_6), (.long v34_10)]))
        refine own_by (fun _ k => XS.lconst X6.here hx rfl (hb hby at_70) k) ?_
        show OEnds p e below s _ _ _ (T6.setTop (mkF m 71 #[.val (.long q0), .second, .val (.int q1), .val (.long v5_3), .second, .val (.int v10_5), .val (.long v17_6), .second, .val (.long v26_8), .second, .val (.long v34_10), .second, .val (.long v43_12), .second] [(.long (1 : Int64)), (.long (v10_5.toInt64)), (.long v17_6), (.long v34_10)]))
        refine own_by (fun _ k => XS.lsub X6.here hx rfl (hb hby at_71) rfl k) ?_
        show OEnds p e below s _ _ _ (T6.setTop (mkF m 72 #[.val (.long q0), .second, .val (.int q1), .val (.long v5_3), .second, .val (.int v10_5), .val (.long v17_6), .second, .val (.long v26_8), .second, .val (.long v34_10), .second, .val (.long v43_12), .second] [(.long ((v10_5.toInt64) - (1 : Int64))), (.long v17_6), (.long v34_10)]))
        refine own_by (fun _ k => XS.ladd X6.here hx rfl (hb hby at_72) rfl k) ?_
        show OEnds p e below s _ _ _ (T6.setTop (mkF m 73 #[.val (.long q0), .second, .val (.int q1), .val (.long v5_3), .second, .val (.int v10_5), .val (.long v17_6), .second, .val (.long v26_8), .second, .val (.long v34_10), .second, .val (.long v43_12), .second] [(.long (v17_6 + ((v10_5.toInt64) - (1 : Int64)))), (.long v34_10)]))
        refine own_by (fun _ k => XS.lcmp X6.here hx rfl (hb hby at_73) rfl k) ?_
        show OEnds p e below s _ _ _ (T6.setTop (mkF m 74 #[.val (.long q0), .second, .val (.int q1), .val (.long v5_3), .second, .val (.int v10_5), .val (.long v17_6), .second, .val (.long v26_8), .second, .val (.long v34_10), .second, .val (.long v43_12), .second] [(.int (lcmpW v34_10 (v17_6 + ((v10_5.toInt64) - (1 : Int64)))))]))
        by_cases hc74 : v34_10 = (v17_6 + ((v10_5.toInt64) - (1 : Int64)))
        · refine own_by (fun _ k => XS.ifNo X6.here hx rfl (hb hby at_74) rfl ((if0 _ _).trans (teq ((lw_eq _ _).mpr hc74)).2) k) ?_
          show OEnds p e below s _ _ _ (T6.setTop (mkF m 77 #[.val (.long q0), .second, .val (.int q1), .val (.long v5_3), .second, .val (.int v10_5), .val (.long v17_6), .second, .val (.long v26_8), .second, .val (.long v34_10), .second, .val (.long v43_12), .second] []))
          refine own_by (fun _ k => XS.iconst X6.here hx rfl (hb hby at_77) k) ?_
          show OEnds p e below s _ _ _ (T6.setTop (mkF m 78 #[.val (.long q0), .second, .val (.int q1), .val (.long v5_3), .second, .val (.int v10_5), .val (.long v17_6), .second, .val (.long v26_8), .second, .val (.long v34_10), .second, .val (.long v43_12), .second] [(.int (1 : Int32))]))
          refine own_by (fun _ k => XS.goto X6.here hx rfl (pc0 := 78) (pc' := 82) rfl (hb hby at_78) (by decide) (by decide) k) ?_
          show OEnds p e below s _ _ _ (T6.setTop (mkF m 82 #[.val (.long q0), .second, .val (.int q1), .val (.long v5_3), .second, .val (.int v10_5), .val (.long v17_6), .second, .val (.long v26_8), .second, .val (.long v34_10), .second, .val (.long v43_12), .second] [(.int (1 : Int32))]))
          exact own_eq (congrArg Value.int (by rw [law_43, if_pos hc47, if_pos hc60, if_pos hc74] <;> rfl)) (blaw_82 T6 X6 e6 v5_3 v10_5 v17_6 v26_8 v34_10 v43_12 (1 : Int32))
        · refine own_by (fun _ k => XS.ifYes X6.here hx rfl (pc0 := 74) (pc' := 81) rfl (hb hby at_74) rfl ((if0 _ _).trans (feq (fun q => hc74 ((lw_eq _ _).mp q))).2) (by decide) (by decide) k) ?_
          show OEnds p e below s _ _ _ (T6.setTop (mkF m 81 #[.val (.long q0), .second, .val (.int q1), .val (.long v5_3), .second, .val (.int v10_5), .val (.long v17_6), .second, .val (.long v26_8), .second, .val (.long v34_10), .second, .val (.long v43_12), .second] []))
          exact own_eq (congrArg Value.int (by rw [law_43, if_pos hc47, if_pos hc60, if_neg hc74] <;> rfl)) (blaw_81 T6 X6 e6 v5_3 v10_5 v17_6 v26_8 v34_10 v43_12)
      · refine own_by (fun _ k => XS.ifYes X6.here hx rfl (pc0 := 60) (pc' := 81) rfl (hb hby at_60) rfl ((if0 _ _).trans (feq (fun q => hc60 ((lw_eq _ _).mp q))).2) (by decide) (by decide) k) ?_
        show OEnds p e below s _ _ _ (T6.setTop (mkF m 81 #[.val (.long q0), .second, .val (.int q1), .val (.long v5_3), .second, .val (.int v10_5), .val (.long v17_6), .second, .val (.long v26_8), .second, .val (.long v34_10), .second, .val (.long v43_12), .second] []))
        exact own_eq (congrArg Value.int (by rw [law_43, if_pos hc47, if_neg hc60] <;> rfl)) (blaw_81 T6 X6 e6 v5_3 v10_5 v17_6 v26_8 v34_10 v43_12)
    · refine own_by (fun _ k => XS.ifYes X.here hx rfl (pc0 := 47) (pc' := 81) rfl (hb hby at_47) rfl ((if0 _ _).trans (feq (fun q => hc47 ((lw_eq _ _).mp q))).2) (by decide) (by decide) k) ?_
      show OEnds p e below s _ _ _ (T.setTop (mkF m 81 #[.val (.long q0), .second, .val (.int q1), .val (.long v5_3), .second, .val (.int v10_5), .val (.long v17_6), .second, .val (.long v26_8), .second, .val (.long v34_10), .second, .val (.long v43_12), .second] []))
      exact own_eq (congrArg Value.int (by rw [law_43, if_neg hc47] <;> rfl)) (blaw_81 T X eT v5_3 v10_5 v17_6 v26_8 v34_10 v43_12)
  have blaw_34 : ∀ (T : State) (X : Stand p l e room_1 s m #[(.long q0), (.int q1)] below meth c T [] 0 0) (eT : T.heap = h0) (v5_3 : Int64) (v10_5 : Int32) (v17_6 : Int64) (v26_8 : Int64) (v34_10 : Int64), OEnds p e below s (QP (Value.int (law_34 v5_3 v10_5 v17_6 v26_8 v34_10)) h0) 0 0 (T.setTop (mkF m 34 #[.val (.long q0), .second, .val (.int q1), .val (.long v5_3), .second, .val (.int v10_5), .val (.long v17_6), .second, .val (.long v26_8), .second, .val (.long v34_10), .second, .unset, .unset] [])) := by
    intro T X eT v5_3 v10_5 v17_6 v26_8 v34_10
    refine own_by (X.ldc2Long hx hown (mvT hZ (hw _ (List.mem_of_getElem? (i := 26) rfl))) (g := (mkF m 34 #[.val (.long q0), .second, .val (.int q1), .val (.long v5_3), .second, .val (.int v10_5), .val (.long v17_6), .second, .val (.long v26_8), .second, .val (.long v34_10), .second, .unset, .unset] [])) rfl (hb hby at_34)) ?_
    show OEnds p e below s _ _ _ (T.setTop (mkF m 37 #[.val (.long q0), .second, .val (.int q1), .val (.long v5_3), .second, .val (.int v10_5), .val (.long v17_6), .second, .val (.long v26_8), .second, .val (.long v34_10), .second, .unset, .unset] [(.long (23640 : Int64))]))
    refine own_by (fun _ k => XS.iconst X.here hx rfl (hb hby at_37) k) ?_
    show OEnds p e below s _ _ _ (T.setTop (mkF m 38 #[.val (.long q0), .second, .val (.int q1), .val (.long v5_3), .second, .val (.int v10_5), .val (.long v17_6), .second, .val (.long v26_8), .second, .val (.long v34_10), .second, .unset, .unset] [(.int (1 : Int32)), (.long (23640 : Int64))]))
    obtain ⟨T7, X7, e7, st7⟩ := own_callP X hx hZ (y := (⟨"com/example/exact_membership/exactmembership/model/EpochDays", "ofMonths", "(JI)J"⟩ : MethodName)) hown (hw _ (List.mem_of_getElem? (i := 0) rfl)) (hw _ (List.mem_of_getElem? (i := 1) rfl)) (hw _ (List.mem_of_getElem? (i := 2) rfl)) (hw _ (List.mem_of_getElem? (i := 3) rfl)) (by decide) (rm_epom l Z a0 hw [] (23640 : Int64) (1 : Int32) h0) eT (g := (mkF m 38 #[.val (.long q0), .second, .val (.int q1), .val (.long v5_3), .second, .val (.int v10_5), .val (.long v17_6), .second, .val (.long v26_8), .second, .val (.long v34_10), .second, .unset, .unset] [(.int (1 : Int32)), (.long (23640 : Int64))])) rfl (by rw [hml]; rfl) (argsL := [(.long (23640 : Int64)), (.int (1 : Int32))]) (rest := []) (lenOf pd_pJIrJ rfl) rfl (W := 0) (by show 2 * 0 + _ ≤ _; exact Nat.le_of_eq rfl) (hb hby at_38) (by decide) (by decide) (by decide) (by decide)
    refine own_by st7 ?_
    show OEnds p e below s _ _ _ (T7.setTop (mkF m 41 #[.val (.long q0), .second, .val (.int q1), .val (.long v5_3), .second, .val (.int v10_5), .val (.long v17_6), .second, .val (.long v26_8), .second, .val (.long v34_10), .second, .unset, .unset] [(.long (epom (23640 : Int64) (1 : Int32)))]))
    refine own_by (fun _ k => XS.lstore X7.here hx rfl (hb hby at_41) rfl (l' := #[.val (.long q0), .second, .val (.int q1), .val (.long v5_3), .second, .val (.int v10_5), .val (.long v17_6), .second, .val (.long v26_8), .second, .val (.long v34_10), .second, .val (.long (epom (23640 : Int64) (1 : Int32))), .second]) rfl k) ?_
    show OEnds p e below s _ _ _ (T7.setTop (mkF m 43 #[.val (.long q0), .second, .val (.int q1), .val (.long v5_3), .second, .val (.int v10_5), .val (.long v17_6), .second, .val (.long v26_8), .second, .val (.long v34_10), .second, .val (.long (epom (23640 : Int64) (1 : Int32))), .second] []))
    exact own_eq (congrArg Value.int (by rw [law_34] <;> rfl)) (blaw_43 T7 X7 e7 v5_3 v10_5 v17_6 v26_8 v34_10 (epom (23640 : Int64) (1 : Int32)))
  have blaw_26 : ∀ (T : State) (X : Stand p l e room_1 s m #[(.long q0), (.int q1)] below meth c T [] 0 0) (eT : T.heap = h0) (v5_3 : Int64) (v10_5 : Int32) (v17_6 : Int64) (v26_8 : Int64), OEnds p e below s (QP (Value.int (law_26 v5_3 v10_5 v17_6 v26_8)) h0) 0 0 (T.setTop (mkF m 26 #[.val (.long q0), .second, .val (.int q1), .val (.long v5_3), .second, .val (.int v10_5), .val (.long v17_6), .second, .val (.long v26_8), .second, .unset, .unset, .unset, .unset] [])) := by
    intro T X eT v5_3 v10_5 v17_6 v26_8
    refine own_by (fun _ k => XS.lloadN X.here hx rfl (hb hby at_26) rfl k) ?_
    show OEnds p e below s _ _ _ (T.setTop (mkF m 27 #[.val (.long q0), .second, .val (.int q1), .val (.long v5_3), .second, .val (.int v10_5), .val (.long v17_6), .second, .val (.long v26_8), .second, .unset, .unset, .unset, .unset] [(.long v5_3)]))
    refine own_by (fun _ k => XS.iload X.here hx rfl (hb hby at_27) rfl k) ?_
    show OEnds p e below s _ _ _ (T.setTop (mkF m 29 #[.val (.long q0), .second, .val (.int q1), .val (.long v5_3), .second, .val (.int v10_5), .val (.long v17_6), .second, .val (.long v26_8), .second, .unset, .unset, .unset, .unset] [(.int v10_5), (.long v5_3)]))
    obtain ⟨T8, X8, e8, st8⟩ := own_callP X hx hZ (y := (⟨"com/example/exact_membership/exactmembership/model/EpochDays", "ofMonths", "(JI)J"⟩ : MethodName)) hown (hw _ (List.mem_of_getElem? (i := 0) rfl)) (hw _ (List.mem_of_getElem? (i := 1) rfl)) (hw _ (List.mem_of_getElem? (i := 2) rfl)) (hw _ (List.mem_of_getElem? (i := 3) rfl)) (by decide) (rm_epom l Z a0 hw [] v5_3 v10_5 h0) eT (g := (mkF m 29 #[.val (.long q0), .second, .val (.int q1), .val (.long v5_3), .second, .val (.int v10_5), .val (.long v17_6), .second, .val (.long v26_8), .second, .unset, .unset, .unset, .unset] [(.int v10_5), (.long v5_3)])) rfl (by rw [hml]; rfl) (argsL := [(.long v5_3), (.int v10_5)]) (rest := []) (lenOf pd_pJIrJ rfl) rfl (W := 0) (by show 2 * 0 + _ ≤ _; exact Nat.le_of_eq rfl) (hb hby at_29) (by decide) (by decide) (by decide) (by decide)
    refine own_by st8 ?_
    show OEnds p e below s _ _ _ (T8.setTop (mkF m 32 #[.val (.long q0), .second, .val (.int q1), .val (.long v5_3), .second, .val (.int v10_5), .val (.long v17_6), .second, .val (.long v26_8), .second, .unset, .unset, .unset, .unset] [(.long (epom v5_3 v10_5))]))
    refine own_by (fun _ k => XS.lstore X8.here hx rfl (hb hby at_32) rfl (l' := #[.val (.long q0), .second, .val (.int q1), .val (.long v5_3), .second, .val (.int v10_5), .val (.long v17_6), .second, .val (.long v26_8), .second, .val (.long (epom v5_3 v10_5)), .second, .unset, .unset]) rfl k) ?_
    show OEnds p e below s _ _ _ (T8.setTop (mkF m 34 #[.val (.long q0), .second, .val (.int q1), .val (.long v5_3), .second, .val (.int v10_5), .val (.long v17_6), .second, .val (.long v26_8), .second, .val (.long (epom v5_3 v10_5)), .second, .unset, .unset] []))
    exact own_eq (congrArg Value.int (by rw [law_26] <;> rfl)) (blaw_34 T8 X8 e8 v5_3 v10_5 v17_6 v26_8 (epom v5_3 v10_5))
  have blaw_17 : ∀ (T : State) (X : Stand p l e room_1 s m #[(.long q0), (.int q1)] below meth c T [] 0 0) (eT : T.heap = h0) (v5_3 : Int64) (v10_5 : Int32) (v17_6 : Int64), OEnds p e below s (QP (Value.int (law_17 v5_3 v10_5 v17_6)) h0) 0 0 (T.setTop (mkF m 17 #[.val (.long q0), .second, .val (.int q1), .val (.long v5_3), .second, .val (.int v10_5), .val (.long v17_6), .second, .unset, .unset, .unset, .unset, .unset, .unset] [])) := by
    intro T X eT v5_3 v10_5 v17_6
    refine own_by (fun _ k => XS.lloadN X.here hx rfl (hb hby at_17) rfl k) ?_
    show OEnds p e below s _ _ _ (T.setTop (mkF m 18 #[.val (.long q0), .second, .val (.int q1), .val (.long v5_3), .second, .val (.int v10_5), .val (.long v17_6), .second, .unset, .unset, .unset, .unset, .unset, .unset] [(.long v5_3)]))
    refine own_by (fun _ k => XS.lconst X.here hx rfl (hb hby at_18) k) ?_
    show OEnds p e below s _ _ _ (T.setTop (mkF m 19 #[.val (.long q0), .second, .val (.int q1), .val (.long v5_3), .second, .val (.int v10_5), .val (.long v17_6), .second, .unset, .unset, .unset, .unset, .unset, .unset] [(.long (1 : Int64)), (.long v5_3)]))
    refine own_by (fun _ k => XS.ladd X.here hx rfl (hb hby at_19) rfl k) ?_
    show OEnds p e below s _ _ _ (T.setTop (mkF m 20 #[.val (.long q0), .second, .val (.int q1), .val (.long v5_3), .second, .val (.int v10_5), .val (.long v17_6), .second, .unset, .unset, .unset, .unset, .unset, .unset] [(.long (v5_3 + (1 : Int64)))]))
    refine own_by (fun _ k => XS.iconst X.here hx rfl (hb hby at_20) k) ?_
    show OEnds p e below s _ _ _ (T.setTop (mkF m 21 #[.val (.long q0), .second, .val (.int q1), .val (.long v5_3), .second, .val (.int v10_5), .val (.long v17_6), .second, .unset, .unset, .unset, .unset, .unset, .unset] [(.int (1 : Int32)), (.long (v5_3 + (1 : Int64)))]))
    obtain ⟨T9, X9, e9, st9⟩ := own_callP X hx hZ (y := (⟨"com/example/exact_membership/exactmembership/model/EpochDays", "ofMonths", "(JI)J"⟩ : MethodName)) hown (hw _ (List.mem_of_getElem? (i := 0) rfl)) (hw _ (List.mem_of_getElem? (i := 1) rfl)) (hw _ (List.mem_of_getElem? (i := 2) rfl)) (hw _ (List.mem_of_getElem? (i := 3) rfl)) (by decide) (rm_epom l Z a0 hw [] (v5_3 + (1 : Int64)) (1 : Int32) h0) eT (g := (mkF m 21 #[.val (.long q0), .second, .val (.int q1), .val (.long v5_3), .second, .val (.int v10_5), .val (.long v17_6), .second, .unset, .unset, .unset, .unset, .unset, .unset] [(.int (1 : Int32)), (.long (v5_3 + (1 : Int64)))])) rfl (by rw [hml]; rfl) (argsL := [(.long (v5_3 + (1 : Int64))), (.int (1 : Int32))]) (rest := []) (lenOf pd_pJIrJ rfl) rfl (W := 0) (by show 2 * 0 + _ ≤ _; exact Nat.le_of_eq rfl) (hb hby at_21) (by decide) (by decide) (by decide) (by decide)
    refine own_by st9 ?_
    show OEnds p e below s _ _ _ (T9.setTop (mkF m 24 #[.val (.long q0), .second, .val (.int q1), .val (.long v5_3), .second, .val (.int v10_5), .val (.long v17_6), .second, .unset, .unset, .unset, .unset, .unset, .unset] [(.long (epom (v5_3 + (1 : Int64)) (1 : Int32)))]))
    refine own_by (fun _ k => XS.lstore X9.here hx rfl (hb hby at_24) rfl (l' := #[.val (.long q0), .second, .val (.int q1), .val (.long v5_3), .second, .val (.int v10_5), .val (.long v17_6), .second, .val (.long (epom (v5_3 + (1 : Int64)) (1 : Int32))), .second, .unset, .unset, .unset, .unset]) rfl k) ?_
    show OEnds p e below s _ _ _ (T9.setTop (mkF m 26 #[.val (.long q0), .second, .val (.int q1), .val (.long v5_3), .second, .val (.int v10_5), .val (.long v17_6), .second, .val (.long (epom (v5_3 + (1 : Int64)) (1 : Int32))), .second, .unset, .unset, .unset, .unset] []))
    exact own_eq (congrArg Value.int (by rw [law_17] <;> rfl)) (blaw_26 T9 X9 e9 v5_3 v10_5 v17_6 (epom (v5_3 + (1 : Int64)) (1 : Int32)))
  have blaw_10 : ∀ (T : State) (X : Stand p l e room_1 s m #[(.long q0), (.int q1)] below meth c T [] 0 0) (eT : T.heap = h0) (v5_3 : Int64) (v10_5 : Int32), OEnds p e below s (QP (Value.int (law_10 v5_3 v10_5)) h0) 0 0 (T.setTop (mkF m 10 #[.val (.long q0), .second, .val (.int q1), .val (.long v5_3), .second, .val (.int v10_5), .unset, .unset, .unset, .unset, .unset, .unset, .unset, .unset] [])) := by
    intro T X eT v5_3 v10_5
    refine own_by (fun _ k => XS.lloadN X.here hx rfl (hb hby at_10) rfl k) ?_
    show OEnds p e below s _ _ _ (T.setTop (mkF m 11 #[.val (.long q0), .second, .val (.int q1), .val (.long v5_3), .second, .val (.int v10_5), .unset, .unset, .unset, .unset, .unset, .unset, .unset, .unset] [(.long v5_3)]))
    refine own_by (fun _ k => XS.iconst X.here hx rfl (hb hby at_11) k) ?_
    show OEnds p e below s _ _ _ (T.setTop (mkF m 12 #[.val (.long q0), .second, .val (.int q1), .val (.long v5_3), .second, .val (.int v10_5), .unset, .unset, .unset, .unset, .unset, .unset, .unset, .unset] [(.int (1 : Int32)), (.long v5_3)]))
    obtain ⟨T10, X10, e10, st10⟩ := own_callP X hx hZ (y := (⟨"com/example/exact_membership/exactmembership/model/EpochDays", "ofMonths", "(JI)J"⟩ : MethodName)) hown (hw _ (List.mem_of_getElem? (i := 0) rfl)) (hw _ (List.mem_of_getElem? (i := 1) rfl)) (hw _ (List.mem_of_getElem? (i := 2) rfl)) (hw _ (List.mem_of_getElem? (i := 3) rfl)) (by decide) (rm_epom l Z a0 hw [] v5_3 (1 : Int32) h0) eT (g := (mkF m 12 #[.val (.long q0), .second, .val (.int q1), .val (.long v5_3), .second, .val (.int v10_5), .unset, .unset, .unset, .unset, .unset, .unset, .unset, .unset] [(.int (1 : Int32)), (.long v5_3)])) rfl (by rw [hml]; rfl) (argsL := [(.long v5_3), (.int (1 : Int32))]) (rest := []) (lenOf pd_pJIrJ rfl) rfl (W := 0) (by show 2 * 0 + _ ≤ _; exact Nat.le_of_eq rfl) (hb hby at_12) (by decide) (by decide) (by decide) (by decide)
    refine own_by st10 ?_
    show OEnds p e below s _ _ _ (T10.setTop (mkF m 15 #[.val (.long q0), .second, .val (.int q1), .val (.long v5_3), .second, .val (.int v10_5), .unset, .unset, .unset, .unset, .unset, .unset, .unset, .unset] [(.long (epom v5_3 (1 : Int32)))]))
    refine own_by (fun _ k => XS.lstore X10.here hx rfl (hb hby at_15) rfl (l' := #[.val (.long q0), .second, .val (.int q1), .val (.long v5_3), .second, .val (.int v10_5), .val (.long (epom v5_3 (1 : Int32))), .second, .unset, .unset, .unset, .unset, .unset, .unset]) rfl k) ?_
    show OEnds p e below s _ _ _ (T10.setTop (mkF m 17 #[.val (.long q0), .second, .val (.int q1), .val (.long v5_3), .second, .val (.int v10_5), .val (.long (epom v5_3 (1 : Int32))), .second, .unset, .unset, .unset, .unset, .unset, .unset] []))
    exact own_eq (congrArg Value.int (by rw [law_10] <;> rfl)) (blaw_17 T10 X10 e10 v5_3 v10_5 (epom v5_3 (1 : Int32)))
  have blaw_5 : ∀ (T : State) (X : Stand p l e room_1 s m #[(.long q0), (.int q1)] below meth c T [] 0 0) (eT : T.heap = h0) (v5_3 : Int64), OEnds p e below s (QP (Value.int (law_5 q1 v5_3)) h0) 0 0 (T.setTop (mkF m 5 #[.val (.long q0), .second, .val (.int q1), .val (.long v5_3), .second, .unset, .unset, .unset, .unset, .unset, .unset, .unset, .unset, .unset] [])) := by
    intro T X eT v5_3
    refine own_by (fun _ k => XS.iloadN X.here hx rfl (hb hby at_5) rfl k) ?_
    show OEnds p e below s _ _ _ (T.setTop (mkF m 6 #[.val (.long q0), .second, .val (.int q1), .val (.long v5_3), .second, .unset, .unset, .unset, .unset, .unset, .unset, .unset, .unset, .unset] [(.int q1)]))
    refine own_by (fun _ k => XS.iconst X.here hx rfl (hb hby at_6) k) ?_
    show OEnds p e below s _ _ _ (T.setTop (mkF m 7 #[.val (.long q0), .second, .val (.int q1), .val (.long v5_3), .second, .unset, .unset, .unset, .unset, .unset, .unset, .unset, .unset, .unset] [(.int (1 : Int32)), (.int q1)]))
    refine own_by (fun _ k => XS.ishr X.here hx rfl (hb hby at_7) rfl k) ?_
    show OEnds p e below s _ _ _ (T.setTop (mkF m 8 #[.val (.long q0), .second, .val (.int q1), .val (.long v5_3), .second, .unset, .unset, .unset, .unset, .unset, .unset, .unset, .unset, .unset] [(.int (q1 >>> ((1 : Int32) &&& 31)))]))
    refine own_by (fun _ k => XS.istore X.here hx rfl (hb hby at_8) rfl (l' := #[.val (.long q0), .second, .val (.int q1), .val (.long v5_3), .second, .val (.int (q1 >>> ((1 : Int32) &&& 31))), .unset, .unset, .unset, .unset, .unset, .unset, .unset, .unset]) rfl k) ?_
    show OEnds p e below s _ _ _ (T.setTop (mkF m 10 #[.val (.long q0), .second, .val (.int q1), .val (.long v5_3), .second, .val (.int (q1 >>> ((1 : Int32) &&& 31))), .unset, .unset, .unset, .unset, .unset, .unset, .unset, .unset] []))
    exact own_eq (congrArg Value.int (by rw [law_5] <;> rfl)) (blaw_10 T X eT v5_3 (q1 >>> ((1 : Int32) &&& 31)))
  show OEnds p e below s _ _ _ _
  refine own_by (fun t k => castTop (ef_0 m q0 q1) k) ?_
  show OEnds p e below s _ _ _ (s₁.setTop (mkF m 0 #[.val (.long q0), .second, .val (.int q1), .unset, .unset, .unset, .unset, .unset, .unset, .unset, .unset, .unset, .unset, .unset] []))
  refine own_by (fun _ k => XS.lloadN X0.here hx rfl (hb hby at_0) rfl k) ?_
  show OEnds p e below s _ _ _ (s₁.setTop (mkF m 1 #[.val (.long q0), .second, .val (.int q1), .unset, .unset, .unset, .unset, .unset, .unset, .unset, .unset, .unset, .unset, .unset] [(.long q0)]))
  refine own_by (fun _ k => XS.bipush X0.here hx rfl (hb hby at_1) k) ?_
  show OEnds p e below s _ _ _ (s₁.setTop (mkF m 3 #[.val (.long q0), .second, .val (.int q1), .unset, .unset, .unset, .unset, .unset, .unset, .unset, .unset, .unset, .unset, .unset] [(.int (6 : Int32)), (.long q0)]))
  refine own_by (fun _ k => XS.lshr X0.here hx rfl (hb hby at_3) rfl k) ?_
  show OEnds p e below s _ _ _ (s₁.setTop (mkF m 4 #[.val (.long q0), .second, .val (.int q1), .unset, .unset, .unset, .unset, .unset, .unset, .unset, .unset, .unset, .unset, .unset] [(.long (q0 >>> ((6 : Int32) &&& 0x3f).toInt64))]))
  refine own_by (fun _ k => XS.lstoreN X0.here hx rfl (hb hby at_4) rfl (l' := #[.val (.long q0), .second, .val (.int q1), .val (.long (q0 >>> ((6 : Int32) &&& 0x3f).toInt64)), .second, .unset, .unset, .unset, .unset, .unset, .unset, .unset, .unset, .unset]) rfl k) ?_
  show OEnds p e below s _ _ _ (s₁.setTop (mkF m 5 #[.val (.long q0), .second, .val (.int q1), .val (.long (q0 >>> ((6 : Int32) &&& 0x3f).toInt64)), .second, .unset, .unset, .unset, .unset, .unset, .unset, .unset, .unset, .unset] []))
  exact own_eq (congrArg Value.int (by rw [law] <;> rfl)) (blaw_5 s₁ X0 e0 (q0 >>> ((6 : Int32) &&& 0x3f).toInt64))
theorem own_ladd {a b : Int64} (h1 : -9223372036854775808 ≤ a.toInt + b.toInt) (h2 : a.toInt + b.toInt < 9223372036854775808) : (a + b).toInt = a.toInt + b.toInt := by
  have := c_ladd a b; have := rng64 (a + b); omega
theorem own_lsub {a b : Int64} (h1 : -9223372036854775808 ≤ a.toInt - b.toInt) (h2 : a.toInt - b.toInt < 9223372036854775808) : (a - b).toInt = a.toInt - b.toInt := by
  have := c_lsub a b; have := rng64 (a - b); omega
theorem own_lmul {a b : Int64} {P : Int} (hP : a.toInt * b.toInt = P) (h1 : -9223372036854775808 ≤ P) (h2 : P < 9223372036854775808) : (a * b).toInt = P := by
  have := c_lmul a b; have := rng64 (a * b); rw [hP] at *; omega
theorem own_iadd {a b : Int32} (h1 : -2147483648 ≤ a.toInt + b.toInt) (h2 : a.toInt + b.toInt < 2147483648) : (a + b).toInt = a.toInt + b.toInt := by
  have := c_iadd a b; have := rng32 (a + b); omega
theorem own_isub {a b : Int32} (h1 : -2147483648 ≤ a.toInt - b.toInt) (h2 : a.toInt - b.toInt < 2147483648) : (a - b).toInt = a.toInt - b.toInt := by
  have := c_isub a b; have := rng32 (a - b); omega
theorem own_imul {a b : Int32} {P : Int} (hP : a.toInt * b.toInt = P) (h1 : -2147483648 ≤ P) (h2 : P < 2147483648) : (a * b).toInt = P := by
  have := c_imul a b; have := rng32 (a * b); rw [hP] at *; omega
theorem fdivI_12 (x : Int64) : (fdivI x (12 : Int32)).toInt = x.toInt / 12 := by
  obtain ⟨y, ey⟩ : ∃ y, y = ((12 : Int32).toInt64) := ⟨_, rfl⟩
  have hy : y.toInt = 12 := by rw [ey]; decide
  have hy1 : y ≠ -1 := by rw [ey]; decide
  have hq := c_ldiv x y 12 hy hy1
  have hxs := c_xorSL x y
  have hm := c_lmul (x / y) y
  have hmr := rng64 ((x / y) * y)
  have hs := c_lsub (x / y) 1
  have hsr := rng64 (x / y - 1)
  have hr := rng64 x
  have h1 : (1 : Int64).toInt = 1 := by decide
  have h0 : (0 : Int64).toInt = 0 := by decide
  rw [hy] at hm hxs
  rw [h1] at hs
  simp only [fdivI, fdivL, fdivL_27, ← ey]
  by_cases hx : x.toInt < 0
  · have hxor : (x ^^^ y) < 0 := by rw [Int64.lt_iff_toInt_lt, h0]; exact hxs.2.1 hx (by omega)
    have q := hq.2 hx
    rw [if_pos hxor]
    have hb1 : -9223372036854775808 ≤ (x / y).toInt * 12 := by omega
    have hb2 : (x / y).toInt * 12 ≤ 0 := by omega
    have hmul : ((x / y) * y).toInt = (x / y).toInt * 12 := by clear hs hsr hq hxs q; omega
    by_cases he : ((x / y) * y) = x
    · rw [if_pos he]
      rw [he] at hmul
      omega
    · rw [if_neg he]
      have hne : ((x / y) * y).toInt ≠ x.toInt := fun q => he (Int64.toInt_inj.mp q)
      clear hm hmr
      omega
  · have hxor : ¬ (x ^^^ y) < 0 := by rw [Int64.lt_iff_toInt_lt, h0]; have := hxs.2.2.2 (by omega) (by omega); omega
    have q := hq.1 (by omega)
    rw [if_neg hxor]
    omega
theorem fdivI_400 (x : Int64) : (fdivI x (400 : Int32)).toInt = x.toInt / 400 := by
  obtain ⟨y, ey⟩ : ∃ y, y = ((400 : Int32).toInt64) := ⟨_, rfl⟩
  have hy : y.toInt = 400 := by rw [ey]; decide
  have hy1 : y ≠ -1 := by rw [ey]; decide
  have hq := c_ldiv x y 400 hy hy1
  have hxs := c_xorSL x y
  have hm := c_lmul (x / y) y
  have hmr := rng64 ((x / y) * y)
  have hs := c_lsub (x / y) 1
  have hsr := rng64 (x / y - 1)
  have hr := rng64 x
  have h1 : (1 : Int64).toInt = 1 := by decide
  have h0 : (0 : Int64).toInt = 0 := by decide
  rw [hy] at hm hxs
  rw [h1] at hs
  simp only [fdivI, fdivL, fdivL_27, ← ey]
  by_cases hx : x.toInt < 0
  · have hxor : (x ^^^ y) < 0 := by rw [Int64.lt_iff_toInt_lt, h0]; exact hxs.2.1 hx (by omega)
    have q := hq.2 hx
    rw [if_pos hxor]
    have hb1 : -9223372036854775808 ≤ (x / y).toInt * 400 := by omega
    have hb2 : (x / y).toInt * 400 ≤ 0 := by omega
    have hmul : ((x / y) * y).toInt = (x / y).toInt * 400 := by clear hs hsr hq hxs q; omega
    by_cases he : ((x / y) * y) = x
    · rw [if_pos he]
      rw [he] at hmul
      omega
    · rw [if_neg he]
      have hne : ((x / y) * y).toInt ≠ x.toInt := fun q => he (Int64.toInt_inj.mp q)
      clear hm hmr
      omega
  · have hxor : ¬ (x ^^^ y) < 0 := by rw [Int64.lt_iff_toInt_lt, h0]; have := hxs.2.2.2 (by omega) (by omega); omega
    have q := hq.1 (by omega)
    rw [if_neg hxor]
    omega
theorem fmodI_12 (x : Int64) : (fmodI x (12 : Int32)).toInt = x.toInt % 12 := by
  obtain ⟨y, ey⟩ : ∃ y, y = ((12 : Int32).toInt64) := ⟨_, rfl⟩
  have hy : y.toInt = 12 := by rw [ey]; decide
  have hq := c_lrem x y 12 hy
  rw [lrem_mod] at hq
  have hxs := c_xorSL x y
  have hs := c_ladd (x % y) y
  have hsr := rng64 (x % y + y)
  have hr := rng64 x
  have h0 : (0 : Int64).toInt = 0 := by decide
  rw [hy] at hxs hs
  have k1 := c_l2i (x % y)
  have k2 := rng32 ((x % y).toInt32)
  have k3 := c_l2i (x % y + y)
  have k4 := rng32 ((x % y + y).toInt32)
  simp only [fmodI, fmodL, fmodL_25, ← ey]
  by_cases hx : x.toInt < 0
  · have hxor : (x ^^^ y) < 0 := by rw [Int64.lt_iff_toInt_lt, h0]; exact hxs.2.1 hx (by omega)
    have q := hq.2 hx
    rw [if_pos hxor]
    by_cases he : (x % y) = 0
    · rw [if_pos he]
      have : (x % y).toInt = 0 := by rw [he]; exact h0
      omega
    · rw [if_neg he]
      have hne : (x % y).toInt ≠ 0 := fun q => he (Int64.toInt_inj.mp (q.trans h0.symm))
      omega
  · have hxor : ¬ (x ^^^ y) < 0 := by rw [Int64.lt_iff_toInt_lt, h0]; have := hxs.2.2.2 (by omega) (by omega); omega
    have q := hq.1 (by omega)
    rw [if_neg hxor]
    omega
def EP (Y m2 d : Int) : Int := (Y / 400) * 146097 + ((Y % 400) * 365 + (Y % 400) / 4 - (Y % 400) / 100 + ((153 * m2 + 2) / 5 + d - 1)) - 719468
theorem epof_spec (y : Int64) (m d : Int32) (hy1 : -18014398509481984 ≤ y.toInt) (hy2 : y.toInt ≤ 18014398509481984) (hm1 : 1 ≤ m.toInt) (hm2 : m.toInt ≤ 12) (hd1 : -1073741824 ≤ d.toInt) (hd2 : d.toInt ≤ 1073741824) :
    (epof y m d).toInt = EP (y.toInt - ((m.toInt + 9) % 12) / 10) ((m.toInt + 9) % 12) d.toInt := by
  obtain ⟨v9, e9⟩ : ∃ v, v = (m + (9 : Int32)) % (12 : Int32) := ⟨_, rfl⟩
  have k9 : v9.toInt = (m.toInt + 9) % 12 := by
    have a1 : (m + (9 : Int32)).toInt = m.toInt + 9 := own_iadd (b := 9) (by show _ ≤ m.toInt + 9; omega) (by show m.toInt + 9 < _; omega)
    have a2 := (c_irem (m + (9 : Int32)) 12 12 (by decide)).1 (by omega)
    rw [e9, a2, a1]
  obtain ⟨v10, e10⟩ : ∃ v, v = v9 / (10 : Int32) := ⟨_, rfl⟩
  have k10 : v10.toInt = v9.toInt / 10 := by rw [e10]; exact (c_idiv v9 10 10 (by decide) (by decide)).1 (by omega)
  obtain ⟨v19, e19⟩ : ∃ v, v = y - (v10.toInt64) := ⟨_, rfl⟩
  have k19 : v19.toInt = y.toInt - v10.toInt := by
    have := c_i2l v10
    rw [e19, own_lsub (by omega) (by omega), this]
  obtain ⟨v29, e29⟩ : ∃ v, v = fdivI v19 (400 : Int32) := ⟨_, rfl⟩
  have k29 : v29.toInt = v19.toInt / 400 := by rw [e29]; exact fdivI_400 v19
  obtain ⟨v40, e40⟩ : ∃ v, v = v19 - (v29 * (400 : Int64)) := ⟨_, rfl⟩
  have k40 : v40.toInt = v19.toInt % 400 := by
    have a1 : (v29 * (400 : Int64)).toInt = v29.toInt * 400 := own_lmul (b := 400) rfl (by omega) (by omega)
    rw [e40, own_lsub (by rw [a1]; omega) (by rw [a1]; omega), a1]; omega
  obtain ⟨v56, e56⟩ : ∃ v, v = ((((((153 : Int32) * v9) + (2 : Int32)) / (5 : Int32)) + d) - (1 : Int32)) := ⟨_, rfl⟩
  have k56 : v56.toInt = (153 * v9.toInt + 2) / 5 + d.toInt - 1 := by
    have a1 : ((153 : Int32) * v9).toInt = 153 * v9.toInt := own_imul (a := 153) rfl (by omega) (by omega)
    have a2 : (((153 : Int32) * v9) + (2 : Int32)).toInt = 153 * v9.toInt + 2 := by
      have h2 : (2 : Int32).toInt = 2 := by decide
      rw [own_iadd (by rw [a1, h2]; omega) (by rw [a1, h2]; omega), a1, h2]
    have a3 := (c_idiv (((153 : Int32) * v9) + (2 : Int32)) 5 5 (by decide) (by decide)).1 (by omega)
    rw [a2] at a3
    have a4 : ((((153 : Int32) * v9) + (2 : Int32)) / (5 : Int32) + d).toInt = (153 * v9.toInt + 2) / 5 + d.toInt := by
      rw [own_iadd (by rw [a3]; omega) (by rw [a3]; omega), a3]
    have h1 : (1 : Int32).toInt = 1 := by decide
    rw [e56, own_isub (by rw [a4, h1]; omega) (by rw [a4, h1]; omega), a4, h1]
  have e : epof y m d = (((v29 * (146097 : Int64)) + ((((v40 * (365 : Int64)) + (v40 / (4 : Int64))) - (v40 / (100 : Int64))) + (v56.toInt64))) - (719468 : Int64)) := by
    simp only [epof, epof_9, epof_19, epof_29, epof_40, epof_56, epof_82, ← e9, ← e10, ← e19, ← e29, ← e40, ← e56]
  have b1 : (v40 * (365 : Int64)).toInt = v40.toInt * 365 := own_lmul (b := 365) rfl (by omega) (by omega)
  have b2 := (c_ldiv v40 4 4 (by decide) (by decide)).1 (by omega)
  have b3 := (c_ldiv v40 100 100 (by decide) (by decide)).1 (by omega)
  have b4 : ((v40 * (365 : Int64)) + (v40 / (4 : Int64))).toInt = v40.toInt * 365 + v40.toInt / 4 := by rw [own_ladd (by rw [b1, b2]; omega) (by rw [b1, b2]; omega), b1, b2]
  have b5 : (((v40 * (365 : Int64)) + (v40 / (4 : Int64))) - (v40 / (100 : Int64))).toInt = v40.toInt * 365 + v40.toInt / 4 - v40.toInt / 100 := by rw [own_lsub (by rw [b4, b3]; omega) (by rw [b4, b3]; omega), b4, b3]
  have b6 := c_i2l v56
  have b7 : ((((v40 * (365 : Int64)) + (v40 / (4 : Int64))) - (v40 / (100 : Int64))) + (v56.toInt64)).toInt = v40.toInt * 365 + v40.toInt / 4 - v40.toInt / 100 + v56.toInt := by rw [own_ladd (by rw [b5, b6]; omega) (by rw [b5, b6]; omega), b5, b6]
  have b8 : (v29 * (146097 : Int64)).toInt = v29.toInt * 146097 := own_lmul (b := 146097) rfl (by omega) (by omega)
  have b9 : ((v29 * (146097 : Int64)) + ((((v40 * (365 : Int64)) + (v40 / (4 : Int64))) - (v40 / (100 : Int64))) + (v56.toInt64))).toInt = v29.toInt * 146097 + (v40.toInt * 365 + v40.toInt / 4 - v40.toInt / 100 + v56.toInt) := by rw [own_ladd (by rw [b8, b7]; omega) (by rw [b8, b7]; omega), b8, b7]
  have h7 : (719468 : Int64).toInt = 719468 := by decide
  rw [e, own_lsub (by rw [b9, h7]; omega) (by rw [b9, h7]; omega), b9, h7, k56, k40, k29, k19, k10, k9, EP]
theorem epom_spec (M : Int64) (d : Int32) (h1 : -144115188075855872 ≤ M.toInt) (h2 : M.toInt ≤ 144115188075855872) (hd1 : -1073741824 ≤ d.toInt) (hd2 : d.toInt ≤ 1073741824) :
    (epom M d).toInt = EP (M.toInt / 12 - ((M.toInt % 12 + 10) % 12) / 10) ((M.toInt % 12 + 10) % 12) d.toInt := by
  have k1 := fdivI_12 M
  have k2 := fmodI_12 M
  have k3 : ((fmodI M (12 : Int32)) + (1 : Int32)).toInt = M.toInt % 12 + 1 := by
    have : (1 : Int32).toInt = 1 := by decide
    rw [own_iadd (by rw [k2, this]; omega) (by rw [k2, this]; omega), k2, this]
  rw [epom, epof_spec _ _ _ (by omega) (by omega) (by omega) (by omega) hd1 hd2, k1, k3]
  have : M.toInt % 12 + 1 + 9 = M.toInt % 12 + 10 := by omega
  rw [this]
def LEN (M : Int) : Int := if M % 12 = 1 then (if (M / 12) % 4 = 0 ∧ ((M / 12) % 100 ≠ 0 ∨ (M / 12) % 400 = 0) then 29 else 28) else if M % 12 = 3 ∨ M % 12 = 5 ∨ M % 12 = 8 ∨ M % 12 = 10 then 30 else 31
theorem rem0 (y : Int64) (d : Int64) (D : Int) (hd : d.toInt = D) (hD : 0 < D) : (y % d) = 0 ↔ y.toInt % D = 0 := by
  have h := c_lrem y d D hd
  rw [lrem_mod] at h
  have h0 : (0 : Int64).toInt = 0 := by decide
  rw [← Int64.toInt_inj, h0]
  have hm := Int.emod_nonneg y.toInt (by omega : D ≠ 0)
  by_cases hy : 0 ≤ y.toInt
  · rw [h.1 hy]
  · rw [h.2 (by omega)]
    have e1 : D ∣ -y.toInt ↔ D ∣ y.toInt := Int.dvd_neg
    constructor
    · intro q
      have : (-y.toInt) % D = 0 := by omega
      exact Int.emod_eq_zero_of_dvd (e1.mp (Int.dvd_of_emod_eq_zero this))
    · intro q
      have : (-y.toInt) % D = 0 := Int.emod_eq_zero_of_dvd (e1.mpr (Int.dvd_of_emod_eq_zero q))
      omega
theorem lengthOf_spec (m : Int64) : (lengthOf m).toInt = LEN m.toInt := by
  have hq := c_ldiv m 12 12 (by decide) (by decide)
  have hr := c_lrem m 12 12 (by decide)
  rw [lrem_mod] at hr
  have hm := rng64 m
  have h0 : (0 : Int64).toInt = 0 := by decide
  have h1 : (1 : Int64).toInt = 1 := by decide
  have h12 : (12 : Int64).toInt = 12 := by decide
  obtain ⟨Y, R, e, hY, hR⟩ : ∃ Y R : Int64, lengthOf m = lengthOf_32 Y R ∧ Y.toInt = m.toInt / 12 ∧ R.toInt = m.toInt % 12 := by
    by_cases hx : (m % 12) < 0
    · have hx' := hx
      rw [Int64.lt_iff_toInt_lt, h0] at hx'
      refine ⟨m / 12 - 1, m % 12 + 12, by simp only [lengthOf, lengthOf_6, lengthOf_13, lengthOf_28]; rw [if_pos hx], ?_, ?_⟩
      · have := c_lsub (m / 12) 1
        have := rng64 (m / 12 - 1)
        omega
      · have := c_ladd (m % 12) 12
        have := rng64 (m % 12 + 12)
        omega
    · have hx' := hx
      rw [Int64.lt_iff_toInt_lt, h0] at hx'
      refine ⟨m / 12, m % 12, by simp only [lengthOf, lengthOf_6, lengthOf_13, lengthOf_28]; rw [if_neg hx], ?_, ?_⟩
      · omega
      · omega
  have k4 := rem0 Y 4 4 (by decide) (by decide)
  have k100 := rem0 Y 100 100 (by decide) (by decide)
  have k400 := rem0 Y 400 400 (by decide) (by decide)
  rw [hY] at k4 k100 k400
  have c : ∀ k : Nat, k < 12 → R.toInt = (k : Int) → R = Int64.ofNat k := by
    intro k hk q
    apply Int64.toInt_inj.mp
    rw [q]
    have : ∀ j : Fin 12, (Int64.ofNat j.val).toInt = (j.val : Int) := by decide
    exact (this ⟨k, hk⟩).symm
  obtain ⟨k, hk, hk2⟩ : ∃ k : Nat, k < 12 ∧ R.toInt = (k : Int) := ⟨R.toInt.toNat, by omega, by omega⟩
  have hR2 := c k hk hk2
  subst hR2
  rw [hR] at hk2
  rw [e, LEN, hk2]
  have h77 : lengthOf_77 = 29 := by decide
  have h81 : lengthOf_81 = 28 := by decide
  have h133 : lengthOf_133 = 30 := by decide
  have t29 : (29 : Int64).toInt = 29 := by decide
  have t28 : (28 : Int64).toInt = 28 := by decide
  simp only [lengthOf_32, lengthOf_38, h77, h81, h133]
  have hkc : k = 0 ∨ k = 1 ∨ k = 2 ∨ k = 3 ∨ k = 4 ∨ k = 5 ∨ k = 6 ∨ k = 7 ∨ k = 8 ∨ k = 9 ∨ k = 10 ∨ k = 11 := by omega
  rcases hkc with rfl | rfl | rfl | rfl | rfl | rfl | rfl | rfl | rfl | rfl | rfl | rfl
  case inr.inl =>
    rw [if_pos (by decide : (Int64.ofNat 1 + 1 = (2 : Int64))), if_pos (by decide : ((1 : Nat) : Int) = 1)]
    by_cases q4 : Y % 4 = 0
    · rw [if_pos q4]
      by_cases q100 : Y % 100 = 0
      · rw [if_pos q100]
        by_cases q400 : Y % 400 = 0
        · rw [if_pos q400, if_pos ⟨k4.mp q4, Or.inr (k400.mp q400)⟩, t29]
        · rw [if_neg q400, if_neg (fun z => z.2.elim (fun w => w (k100.mp q100)) (fun w => q400 (k400.mpr w))), t28]
      · rw [if_neg q100, if_pos ⟨k4.mp q4, Or.inl (fun w => q100 (k100.mpr w))⟩, t29]
    · rw [if_neg q4, if_neg (fun z => q4 (k4.mpr z.1)), t28]
  all_goals first | rfl | decide
theorem own_step (M : Int) : EP ((M + 1) / 12 - (((M + 1) % 12 + 10) % 12) / 10) (((M + 1) % 12 + 10) % 12) 1 - EP (M / 12 - ((M % 12 + 10) % 12) / 10) ((M % 12 + 10) % 12) 1 = LEN M := by
  obtain ⟨y, r, hM, hr0, hr1⟩ : ∃ y r : Int, M = 12 * y + r ∧ 0 ≤ r ∧ r < 12 := ⟨M / 12, M % 12, by omega, by omega, by omega⟩
  have e1 : M / 12 = y := by omega
  have e2 : M % 12 = r := by omega
  rw [LEN, e1, e2]
  have hrc : r = 1 ∨ r = 11 ∨ r = 0 ∨ r = 2 ∨ r = 3 ∨ r = 4 ∨ r = 5 ∨ r = 6 ∨ r = 7 ∨ r = 8 ∨ r = 9 ∨ r = 10 := by omega
  rcases hrc with rfl | rfl | hrc
  · have e3 : (M + 1) / 12 = y := by omega
    have e4 : (M + 1) % 12 = 2 := by omega
    rw [e3, e4]
    simp only [EP]
    by_cases hl : y % 4 = 0 ∧ (y % 100 ≠ 0 ∨ y % 400 = 0)
    · rw [if_pos (by decide), if_pos hl]; omega
    · rw [if_pos (by decide), if_neg hl]; omega
  · have e3 : (M + 1) / 12 = y + 1 := by omega
    have e4 : (M + 1) % 12 = 0 := by omega
    rw [e3, e4]
    simp only [EP]
    rw [if_neg (by decide), if_neg (by decide)]
    omega
  · have e3 : (M + 1) / 12 = y := by omega
    have e4 : (M + 1) % 12 = r + 1 := by omega
    rw [e3, e4]
    simp only [EP]
    rcases hrc with rfl | rfl | rfl | rfl | rfl | rfl | rfl | rfl | rfl | rfl
    all_goals (simp +decide only [if_true, if_false]; omega)
theorem plain_law (x : Int64) (y : Int32) : law x y = 1 := by
  obtain ⟨M, eM⟩ : ∃ v, v = (x >>> ((6 : Int32) &&& 0x3f).toInt64) := ⟨_, rfl⟩
  obtain ⟨d, ed⟩ : ∃ v, v = (y >>> ((1 : Int32) &&& 31)) := ⟨_, rfl⟩
  have hM := c_lshr x 6 6 (by decide)
  have hd := c_ishr y 1 1 (by decide)
  have rx := rng64 x
  have ry := rng32 y
  rw [← eM] at hM
  rw [← ed] at hd
  have h1 : (1 : Int32).toInt = 1 := by decide
  have hM1 : (M + (1 : Int64)).toInt = M.toInt + 1 := by
    have h1 : (1 : Int64).toInt = 1 := by decide
    rw [own_ladd (by rw [h1]; omega) (by rw [h1]; omega), h1]
  have s1 := epom_spec M 1 (by omega) (by omega) (by omega) (by omega)
  have s2 := epom_spec (M + 1) 1 (by omega) (by omega) (by omega) (by omega)
  have s3 := epom_spec M d (by omega) (by omega) (by omega) (by omega)
  have s4 := lengthOf_spec M
  have s5 := own_step M.toInt
  rw [h1] at s1 s2
  rw [hM1] at s2
  have r1 := rng64 (epom M 1)
  have r2 := rng64 (epom (M + 1) 1)
  have g1 : (epom (M + (1 : Int64)) (1 : Int32)) - (epom M (1 : Int32)) = lengthOf M := by
    apply Int64.toInt_inj.mp
    have := c_lsub (epom (M + 1) 1) (epom M 1)
    have := rng64 (epom (M + 1) 1 - epom M 1)
    have : LEN M.toInt ≤ 31 ∧ 28 ≤ LEN M.toInt := by rw [LEN]; constructor <;> (repeat' split) <;> omega
    omega
  have g2 : (epom M d) = (epom M (1 : Int32)) + ((d.toInt64) - (1 : Int64)) := by
    apply Int64.toInt_inj.mp
    have h1 : (1 : Int64).toInt = 1 := by decide
    have k1 := c_i2l d
    have k2 := c_lsub d.toInt64 1
    have k3 := rng64 (d.toInt64 - 1)
    have k4 := c_ladd (epom M 1) (d.toInt64 - 1)
    have k5 := rng64 (epom M 1 + (d.toInt64 - 1))
    have k6 : EP (M.toInt / 12 - ((M.toInt % 12 + 10) % 12) / 10) ((M.toInt % 12 + 10) % 12) d.toInt = EP (M.toInt / 12 - ((M.toInt % 12 + 10) % 12) / 10) ((M.toInt % 12 + 10) % 12) 1 + (d.toInt - 1) := by simp only [EP]; omega
    have k7 := rng64 (epom M d)
    omega
  have g3 : epom (23640 : Int64) (1 : Int32) = 0 := by decide +kernel
  simp only [law, ← eM]
  simp only [law_5, ← ed]
  simp only [law_10, law_17, law_26, law_34, law_43]
  rw [if_pos g3, if_pos g1, if_pos g2]
  decide
set_option maxRecDepth 65536 in
set_option maxHeartbeats 40000000 in
theorem comes_1 {Post : Tables → Env → Array Value → State → Outcome → State → Prop} (hpost : ∀ tb e args s v u, (limb_1_1.after args s (.returned v) u = true ∧ limb_1_2.after args s (.returned v) u = true ∧ True) → FrameEnd s (.returned v) u (Jvm.fieldLocs frame_1_writes args s ++ Jvm.arrayLocs frame_1_arrays args s ++ Jvm.staticLocs frame_1_statics s) 0 0 → Post tb e args s (.returned v) u) :
    ArmFor flags0 classFile x code maxLocals ret World_1 tables_1 room_1 Calls_1 rest_1 Pre_1 Post := by
  intro l hfl _ _ p e ha hc hk s m args below hf hA hF happ hP
  obtain ⟨hcalls, hrest, hpre⟩ := hP
  obtain ⟨-, -, -, hnamed, -, -, -, hat⟩ := (Spec.applies_iff hf).mp happ
  obtain ⟨hg, hn⟩ := and_e (Cond.before_iff.mp (show (Jvm.Cond.and given_1 narrow_1).before args s = true from hpre))
  obtain ⟨hct, hg0⟩ := and_e hg
  obtain ⟨ga0, hg1⟩ := and_e hg0
  have ga1 := hg1
  obtain ⟨w0, w1, rfl⟩ : ∃ w0 w1 : Value, args = #[w0, w1] := by
    have hs : args.size = 2 := by simpa [Cond.value, given_1] using hct
    obtain ⟨L⟩ := args
    match L, hs with
    | [w0, w1], _ => exact ⟨w0, w1, rfl⟩
  have hw := fun d (hd : d ∈ tables_1) => atoms_spec (ws := Jvm.Cond.code x code maxLocals ret :: tables_1) hat d (List.mem_cons_of_mem _ hd)
  obtain ⟨i0, ei0⟩ := isL_v ga0
  obtain rfl : w0 = (.long i0) := Option.some.inj ei0
  obtain ⟨i1, ei1⟩ := is_v ga1
  obtain rfl : w1 = (.int i1) := Option.some.inj ei1
  obtain ⟨n, o, h1, h2, h3, v, L, rfl, ⟨hv, rfl, hN⟩, hq⟩ := rm_law l s _ hw tables_1 i0 i1 s.heap p e ha hc hk s m _ below hf ((Spec.applies_iff_loose hf).mp happ).1 ⟨rfl, State.Warmed39.refl s, rfl⟩ trivial
  rw [plain_law i0 i1] at hv
  subst hv
  refine ⟨n, _, h1, h2, h3, hpost _ _ _ _ _ _ ⟨Cond.after_iff.mpr rfl, Cond.after_iff.mpr (eq_i res_at (Term.int_eval (1)) rfl), trivial⟩ ⟨hq.1, hq.2.1, (hq.2.2.sift fun y hy => absurd hy List.not_mem_nil).mono (by decide) (by decide)⟩⟩
theorem main_1_1 : Claimed_1_1 := comes_1 fun _ _ _ _ _ _ h hF => ⟨h.1, hF⟩
theorem main_1_2 : Claimed_1_2 := comes_1 fun _ _ _ _ _ _ h hF => ⟨h.2.1, hF⟩
end Jvm.Pilot.@@N@@
namespace Jvm.Pilot.@@N@@
open Jvm Jvm.ClassFile Sem Op Lib Jvm.Free Jvm.Stand Jvm.Pilot.@@N@@.Jvm.D
/-! MADE BY PROGRAM (witnessworld.py) out of the Statement's table words and the real class files: 10 classes; the members and pool entries that the words name. The judged class is class 1, her method 1. -/
namespace start1
open Jvm.ClassFile
def u (s : String) : CpInfo := .utf8 (stringToUtf16 s)
/-- a pool by its gaps: so many unusable entries, then the entry; so many at the end -/
def gap : Nat → List CpInfo → List CpInfo
  | 0, r => r
  | n + 1, r => .unusable :: gap n r
def poolList (es : List (Nat × CpInfo)) (last : Nat) : List CpInfo := es.foldr (fun e r => gap e.1 (e.2 :: r)) (gap last [])
def pool (es : List (Nat × CpInfo)) (last : Nat) : Array CpInfo := ⟨poolList es last⟩
def fileOf (pool : Array CpInfo) (this : Nat) (attrs : Array Attribute := #[]) (ms : Array MethodInfo := #[]) (fl : Nat := 33) (sup : Nat := 0) (ifs : Array Nat := #[]) (fds : Array FieldInfo := #[]) : ClassFile where
  minorVersion := 0
  majorVersion := 65
  constantPool := pool
  accessFlags := fl
  thisClass := this
  superClass := sup
  interfaces := ifs
  fields := fds
  methods := ms
  attributes := attrs
def plain (name : String) (sup : Option ClassId) : Class where
  name := name
  kind := .ordinary
  loader := none
  accessFlags := 33
  super := sup
  interfaces := #[]
  cf := none
  fields := #[]
  methods := #[]
  instanceTypes := #[]
  staticTypes := #[]
  resolved := #[]
  callSites := []
  init := .initialized
  statics := none
  mirror := none

def pool0 : Array CpInfo := pool [(5, u "<init>"), (0, u "()V"), (1, .class_ 10), (1, u "java/lang/Object")] 113

def k0m0 : Method := { name := "<init>", desc := "()V", sig := { parameters := [], returnType := none }, accessFlags := 1, code := none }
/-- java/lang/Object -/
def k0 : Class := { plain "java/lang/Object" none with
  accessFlags := 33
  interfaces := #[]
  cf := some (fileOf pool0 8 #[] #[{ accessFlags := 1, nameIndex := 5, descriptorIndex := 6, attributes := #[] }] 33 0 #[] #[])
  fields := #[]
  methods := #[k0m0]
  instanceTypes := #[]
  staticTypes := #[]
  resolved := Array.replicate 124 none
  statics := none }

def pool1 : Array CpInfo := pool [(2, .class_ 4), (1, u "java/lang/Object"), (0, u "<init>"), (0, u "()V"), (0, .methodref 8 9), (0, .class_ 10), (0, .nameAndType 11 12), (0, u "com/example/exact_membership/exactmembership/model/EpochDays"), (0, u "ofMonths"), (0, u "(JI)J"), (0, .long 23640), (1, .methodref 16 17), (0, .class_ 18), (0, .nameAndType 19 20), (0, u "com/example/exact_membership/exactmembership/model/EpochDaysOfMonthsPinLaw"), (0, u "lengthOf"), (0, u "(J)J"), (0, .long 12), (1, .long 2), (1, .long 4), (1, .long 100), (1, .long 400), (1, .long 29), (1, .long 28), (1, .long 6), (1, .long 9), (1, .long 11), (1, .long 30), (1, .long 31), (3, u "law"), (0, u "(JI)Z")] 3

def k1m0 : Method := { name := "<init>", desc := "()V", sig := { parameters := [], returnType := none }, accessFlags := 2, code := none }
def k1c1 : Code := { maxStack := 8, maxLocals := 14, code := code, exceptionTable := #[], attributes := #[] }
def k1m1 : Method := { name := "law", desc := "(JI)Z", sig := { parameters := [.long, .int], returnType := some .boolean }, accessFlags := 9, code := some k1c1 }
def k1c2 : Code := { maxStack := 4, maxLocals := 9, code := method_3_code, exceptionTable := #[], attributes := #[] }
def k1m2 : Method := { name := "lengthOf", desc := "(J)J", sig := { parameters := [.long], returnType := some .long }, accessFlags := 10, code := some k1c2 }
/-- com/example/exact_membership/exactmembership/model/EpochDaysOfMonthsPinLaw -/
def k1 : Class := { plain "com/example/exact_membership/exactmembership/model/EpochDaysOfMonthsPinLaw" (some 0) with
  accessFlags := 49
  interfaces := #[]
  cf := some (fileOf pool1 16 #[] #[{ accessFlags := 2, nameIndex := 5, descriptorIndex := 6, attributes := #[] }, { accessFlags := 9, nameIndex := 47, descriptorIndex := 48, attributes := #[] }, { accessFlags := 10, nameIndex := 19, descriptorIndex := 20, attributes := #[] }] 49 2 #[] #[])
  fields := #[]
  methods := #[k1m0, k1m1, k1m2]
  instanceTypes := #[]
  staticTypes := #[]
  resolved := Array.replicate 52 none
  statics := none }

def pool2 : Array CpInfo := pool [(2, .class_ 4), (1, u "java/lang/Object"), (0, u "<init>"), (0, u "()V"), (0, .class_ 8), (0, u "com/example/exact_membership/exactmembership/model/EpochDays"), (0, .methodref 10 11), (0, .class_ 12), (0, .nameAndType 13 14), (0, u "java/lang/Math"), (0, u "floorDiv"), (0, u "(JI)J"), (0, .long 400), (1, .long 365), (1, .long 4), (1, .long 100), (1, .long 146097), (1, .long 719468), (1, .methodref 10 28), (0, .nameAndType 29 30), (0, u "floorMod"), (0, u "(JI)I"), (0, .methodref 7 32), (0, .nameAndType 33 34), (0, u "of"), (0, u "(JII)J"), (17, u "MONTHS"), (0, u "I"), (2, u "YEARS_PER_ERA"), (1, u "DAYS_PER_ERA"), (0, u "DAYS_TO_EPOCH"), (3, u "ofMonths")] 5

def k2m0 : Method := { name := "<init>", desc := "()V", sig := { parameters := [], returnType := none }, accessFlags := 2, code := none }
def k2c1 : Code := { maxStack := 6, maxLocals := 14, code := prog_18_method_2_code, exceptionTable := #[], attributes := #[] }
def k2m1 : Method := { name := "of", desc := "(JII)J", sig := { parameters := [.long, .int, .int], returnType := some .long }, accessFlags := 9, code := some k2c1 }
def k2c2 : Code := { maxStack := 5, maxLocals := 3, code := prog_18_method_3_code, exceptionTable := #[], attributes := #[] }
def k2m2 : Method := { name := "ofMonths", desc := "(JI)J", sig := { parameters := [.long, .int], returnType := some .long }, accessFlags := 9, code := some k2c2 }
/-- com/example/exact_membership/exactmembership/model/EpochDays -/
def k2 : Class := { plain "com/example/exact_membership/exactmembership/model/EpochDays" (some 0) with
  accessFlags := 49
  interfaces := #[]
  cf := some (fileOf pool2 7 #[] #[{ accessFlags := 2, nameIndex := 5, descriptorIndex := 6, attributes := #[] }, { accessFlags := 9, nameIndex := 33, descriptorIndex := 34, attributes := #[] }, { accessFlags := 9, nameIndex := 63, descriptorIndex := 14, attributes := #[] }] 49 2 #[] #[{ accessFlags := 26, nameIndex := 52, descriptorIndex := 53, attributes := #[] }, { accessFlags := 26, nameIndex := 56, descriptorIndex := 53, attributes := #[] }, { accessFlags := 26, nameIndex := 58, descriptorIndex := 53, attributes := #[] }, { accessFlags := 26, nameIndex := 59, descriptorIndex := 53, attributes := #[] }])
  fields := #[{ name := "MONTHS", type := .int, accessFlags := 26, slot := 0, constantValue := 0 }, { name := "YEARS_PER_ERA", type := .int, accessFlags := 26, slot := 1, constantValue := 0 }, { name := "DAYS_PER_ERA", type := .int, accessFlags := 26, slot := 2, constantValue := 0 }, { name := "DAYS_TO_EPOCH", type := .int, accessFlags := 26, slot := 3, constantValue := 0 }]
  methods := #[k2m0, k2m1, k2m2]
  instanceTypes := #[]
  staticTypes := #[.int, .int, .int, .int]
  resolved := Array.replicate 69 none
  statics := none }

def pool3 : Array CpInfo := pool [(1, .class_ 2), (0, u "java/lang/Math"), (1, .class_ 6), (1, u "java/lang/Object"), (0, u "<init>"), (0, u "()V"), (89, .class_ 100), (1, u "java/lang/Math$RandomNumberGeneratorHolder"), (20, u "(JJ)J"), (21, .methodref 1 144), (0, .nameAndType 145 121), (0, u "floorDiv"), (0, .methodref 1 147), (0, .nameAndType 148 121), (0, u "floorMod"), (23, u "negativeZeroFloatBits"), (0, u "J"), (2, u "negativeZeroDoubleBits"), (68, u "$assertionsDisabled"), (0, u "Z"), (91, u "twoToTheDoubleScaleDown"), (0, u "D"), (4, u "twoToTheDoubleScaleUp"), (9, u "E"), (3, u "PI"), (2, u "TAU"), (2, u "DEGREES_TO_RADIANS"), (0, u "RADIANS_TO_DEGREES"), (29, u "(JI)J"), (24, u "(JI)I")] 39

def k3m0 : Method := { name := "<init>", desc := "()V", sig := { parameters := [], returnType := none }, accessFlags := 2, code := none }
def k3c1 : Code := { maxStack := 4, maxLocals := 3, code := jdk_29_method_48_code, exceptionTable := #[], attributes := #[] }
def k3m1 : Method := { name := "floorDiv", desc := "(JI)J", sig := { parameters := [.long, .int], returnType := some .long }, accessFlags := 9, code := some k3c1 }
def k3c2 : Code := { maxStack := 4, maxLocals := 6, code := jdk_29_method_49_code, exceptionTable := #[], attributes := #[] }
def k3m2 : Method := { name := "floorDiv", desc := "(JJ)J", sig := { parameters := [.long, .long], returnType := some .long }, accessFlags := 9, code := some k3c2 }
def k3c3 : Code := { maxStack := 4, maxLocals := 3, code := jdk_29_method_51_code, exceptionTable := #[], attributes := #[] }
def k3m3 : Method := { name := "floorMod", desc := "(JI)I", sig := { parameters := [.long, .int], returnType := some .int }, accessFlags := 9, code := some k3c3 }
def k3c4 : Code := { maxStack := 4, maxLocals := 6, code := jdk_29_method_52_code, exceptionTable := #[], attributes := #[] }
def k3m4 : Method := { name := "floorMod", desc := "(JJ)J", sig := { parameters := [.long, .long], returnType := some .long }, accessFlags := 9, code := some k3c4 }
/-- java/lang/Math -/
def k3 : Class := { plain "java/lang/Math" (some 0) with
  accessFlags := 49
  interfaces := #[]
  cf := some (fileOf pool3 1 #[.nestMembers #[98]] #[{ accessFlags := 2, nameIndex := 7, descriptorIndex := 8, attributes := #[] }, { accessFlags := 9, nameIndex := 145, descriptorIndex := 395, attributes := #[] }, { accessFlags := 9, nameIndex := 145, descriptorIndex := 121, attributes := #[] }, { accessFlags := 9, nameIndex := 148, descriptorIndex := 420, attributes := #[] }, { accessFlags := 9, nameIndex := 148, descriptorIndex := 121, attributes := #[] }] 49 4 #[] #[{ accessFlags := 25, nameIndex := 354, descriptorIndex := 339, attributes := #[] }, { accessFlags := 25, nameIndex := 358, descriptorIndex := 339, attributes := #[] }, { accessFlags := 25, nameIndex := 361, descriptorIndex := 339, attributes := #[] }, { accessFlags := 26, nameIndex := 364, descriptorIndex := 339, attributes := #[] }, { accessFlags := 26, nameIndex := 365, descriptorIndex := 339, attributes := #[] }, { accessFlags := 26, nameIndex := 172, descriptorIndex := 173, attributes := #[] }, { accessFlags := 26, nameIndex := 176, descriptorIndex := 173, attributes := #[] }, { accessFlags := 8, nameIndex := 344, descriptorIndex := 339, attributes := #[] }, { accessFlags := 8, nameIndex := 338, descriptorIndex := 339, attributes := #[] }, { accessFlags := 4120, nameIndex := 245, descriptorIndex := 246, attributes := #[] }])
  fields := #[{ name := "E", type := .double, accessFlags := 25, slot := 0, constantValue := 0 }, { name := "PI", type := .double, accessFlags := 25, slot := 1, constantValue := 0 }, { name := "TAU", type := .double, accessFlags := 25, slot := 2, constantValue := 0 }, { name := "DEGREES_TO_RADIANS", type := .double, accessFlags := 26, slot := 3, constantValue := 0 }, { name := "RADIANS_TO_DEGREES", type := .double, accessFlags := 26, slot := 4, constantValue := 0 }, { name := "negativeZeroFloatBits", type := .long, accessFlags := 26, slot := 5, constantValue := 0 }, { name := "negativeZeroDoubleBits", type := .long, accessFlags := 26, slot := 6, constantValue := 0 }, { name := "twoToTheDoubleScaleUp", type := .double, accessFlags := 8, slot := 7, constantValue := 0 }, { name := "twoToTheDoubleScaleDown", type := .double, accessFlags := 8, slot := 8, constantValue := 0 }, { name := "$assertionsDisabled", type := .boolean, accessFlags := 4120, slot := 9, constantValue := 0 }]
  methods := #[k3m0, k3m1, k3m2, k3m3, k3m4]
  instanceTypes := #[]
  staticTypes := #[.double, .double, .double, .double, .double, .long, .long, .double, .double, .boolean]
  resolved := Array.replicate 460 none
  statics := none }

def pool4 : Array CpInfo := pool [(1, u "java/lang/Cloneable"), (0, .class_ 1), (0, u "java/lang/Object"), (0, .class_ 3)] 3

/-- java/lang/Cloneable -/
def k4 : Class := { plain "java/lang/Cloneable" (some 0) with
  accessFlags := 1537
  interfaces := #[]
  cf := some (fileOf pool4 2 #[] #[] 1537 4 #[] #[])
  fields := #[]
  methods := #[]
  instanceTypes := #[]
  staticTypes := #[]
  resolved := Array.replicate 8 none
  statics := none }

def pool5 : Array CpInfo := pool [(1, u "java/io/Serializable"), (0, .class_ 1), (0, u "java/lang/Object"), (0, .class_ 3)] 3

/-- java/io/Serializable -/
def k5 : Class := { plain "java/io/Serializable" (some 0) with
  accessFlags := 1537
  interfaces := #[]
  cf := some (fileOf pool5 2 #[] #[] 1537 4 #[] #[])
  fields := #[]
  methods := #[]
  instanceTypes := #[]
  staticTypes := #[]
  resolved := Array.replicate 8 none
  statics := none }

/-- the primitive byte -/
def k6 : Class := { plain "byte" none with kind := .primitive 'B', accessFlags := 0x411 }
/-- [B -/
def k7 : Class := { plain "[B" (some 0) with kind := .array 6 .byte, interfaces := #[4, 5], accessFlags := 1041 }

/-- the primitive int -/
def k8 : Class := { plain "int" none with kind := .primitive 'I', accessFlags := 0x411 }
/-- [I -/
def k9 : Class := { plain "[I" (some 0) with kind := .array 8 .int, interfaces := #[4, 5], accessFlags := 1041 }

def heap : Heap := #[]
def classes : Array Class := #[k0, k1, k2, k3, k4, k5, k6, k7, k8, k9]
def interned : List (Array UInt16 × Addr) := []
def slotsUsed : Nat := 0
def theMethod : MethodId := ⟨1, 1⟩
def args0 : Array Value := #[.long 5, .int 3]
def aboutOver (below : List Frame) : State where
  vm := { classes := classes, interned := interned.toArray }
  heap := heap
  slotsUsed := slotsUsed
  threads := #[{ frames := .invoking theMethod args0 :: below }]
def below0 : List Frame := [.native { method := ⟨0, 0⟩, args := #[] }]
def about1 : State := aboutOver below0
def p0 : Program := .bare "" "" ""
def e0 : Env := launch0.env 0 0 0
theorem w_frames : about1.frames = Frame.invoking theMethod args0 :: below0 := rfl
set_option maxRecDepth 65536 in
theorem w_args : argsFit about1.vm theMethod args0 = true := by decide +kernel
set_option maxRecDepth 65536 in
theorem w_heap : heapFits about1 = true := by decide +kernel
set_option maxRecDepth 65536 in
theorem w_runnable : about1.curStatus? = some .runnable := by decide +kernel
set_option maxRecDepth 65536 in
theorem w_alone : about1.alone = true := by decide +kernel
set_option maxRecDepth 65536 in
theorem w_named : about1.methodNamed? x = some theMethod := by decide +kernel
set_option maxRecDepth 65536 in
theorem w_hears : about1.hears theMethod below0 = true := by decide +kernel
set_option maxRecDepth 65536 in
theorem w_ripe : about1.ripe theMethod args0 below0 = true := by decide +kernel
theorem w_running : about1.status = .running := rfl
set_option maxRecDepth 65536 in
theorem w_room : about1.hasRoom e0.platform room_1 = true :=
  launch0.hasRoom_least _ room_1 (by decide +kernel) (by decide +kernel) (by decide +kernel) (by decide +kernel) (by decide +kernel) (by decide +kernel)
theorem allAtoms_all (ts : List Jvm.Cond) (a : Array Jvm.Value) (st : Jvm.State) : (allAtoms ts).before a st = ts.all (fun c => c.before a st) := by
  induction ts with
  | nil => rfl
  | cons c t ih =>
    show (Jvm.Cond.and c (allAtoms t)).before a st = _
    rw [Jvm.Cond.before_and, ih, List.all_cons]
def words1 : List Jvm.Cond := Jvm.Cond.code x code maxLocals ret :: tables_1
/-- a 'code' word, met by the world's own term for the bytes: nothing is compared byte by byte -/
theorem code_word {y : MethodName} {bytes : ByteArray} {mx : Nat} {rt : Option FieldType} {a : Array Value} {s : State} {m : MethodId} {meth : Method} {c : Code} (h1 : s.methodNamed? y = some m) (h2 : s.vm.method? m = some meth) (h3 : meth.code = some c) (h4 : c.code = bytes)
    (h5 : (c.maxLocals == mx && c.exceptionTable.isEmpty && decide (c.maxStack ≤ mostOperands) && decide (meth.sig.returnType = rt) && !meth.locks && decide (parseMethodDescriptor y.desc = some meth.sig)) = true) : (Jvm.Cond.code y bytes mx rt).before a s = true := by
  simp only [Bool.and_eq_true, beq_iff_eq, Bool.not_eq_true', decide_eq_true_eq] at h5
  obtain ⟨⟨⟨⟨⟨g1, g2⟩, g3⟩, g4⟩, g5⟩, g6⟩ := h5
  simp [Cond.before, Cond.holds, Cond.value, h1, h2, h3, h4, g1, g2, g3, g4, g5, g6]
def isCode : Jvm.Cond → Bool
  | .code _ _ _ _ => true
  | _ => false
theorem all_split {L : List Jvm.Cond} {P : Jvm.Cond → Bool} (h1 : L.all (fun c => isCode c || P c) = true) (h2 : ∀ c ∈ L.filter isCode, P c = true) : L.all P = true := by
  refine List.all_eq_true.mpr fun c hc => ?_
  have h := List.all_eq_true.mp h1 c hc
  rcases Bool.eq_false_or_eq_true (isCode c) with hi | hi
  · exact h2 c (List.mem_filter.mpr ⟨hc, hi⟩)
  · simpa [hi] using h
set_option maxRecDepth 65536 in
theorem w_c0 : (Jvm.Cond.code x code maxLocals ret).before args0 about1 = true := code_word (m := ⟨1, 1⟩) (meth := k1m1) (c := k1c1) (by decide +kernel) rfl rfl rfl (by decide +kernel)
set_option maxRecDepth 65536 in
theorem w_c1 : (Jvm.Cond.code ({ cls := "com/example/exact_membership/exactmembership/model/EpochDays", name := "ofMonths", desc := "(JI)J" } : Jvm.MethodName) prog_18_method_3_code (3 : Nat) (Option.some Jvm.ClassFile.FieldType.long)).before args0 about1 = true := code_word (m := ⟨2, 2⟩) (meth := k2m2) (c := k2c2) (by decide +kernel) rfl rfl rfl (by decide +kernel)
set_option maxRecDepth 65536 in
theorem w_c2 : (Jvm.Cond.code ({ cls := "java/lang/Math", name := "floorDiv", desc := "(JI)J" } : Jvm.MethodName) jdk_29_method_48_code (3 : Nat) (Option.some Jvm.ClassFile.FieldType.long)).before args0 about1 = true := code_word (m := ⟨3, 1⟩) (meth := k3m1) (c := k3c1) (by decide +kernel) rfl rfl rfl (by decide +kernel)
set_option maxRecDepth 65536 in
theorem w_c3 : (Jvm.Cond.code ({ cls := "java/lang/Math", name := "floorDiv", desc := "(JJ)J" } : Jvm.MethodName) jdk_29_method_49_code (6 : Nat) (Option.some Jvm.ClassFile.FieldType.long)).before args0 about1 = true := code_word (m := ⟨3, 2⟩) (meth := k3m2) (c := k3c2) (by decide +kernel) rfl rfl rfl (by decide +kernel)
set_option maxRecDepth 65536 in
theorem w_c4 : (Jvm.Cond.code ({ cls := "java/lang/Math", name := "floorMod", desc := "(JI)I" } : Jvm.MethodName) jdk_29_method_51_code (3 : Nat) (Option.some Jvm.ClassFile.FieldType.int)).before args0 about1 = true := code_word (m := ⟨3, 3⟩) (meth := k3m3) (c := k3c3) (by decide +kernel) rfl rfl rfl (by decide +kernel)
set_option maxRecDepth 65536 in
theorem w_c5 : (Jvm.Cond.code ({ cls := "java/lang/Math", name := "floorMod", desc := "(JJ)J" } : Jvm.MethodName) jdk_29_method_52_code (6 : Nat) (Option.some Jvm.ClassFile.FieldType.long)).before args0 about1 = true := code_word (m := ⟨3, 4⟩) (meth := k3m4) (c := k3c4) (by decide +kernel) rfl rfl rfl (by decide +kernel)
set_option maxRecDepth 65536 in
theorem w_c6 : (Jvm.Cond.code ({ cls := "com/example/exact_membership/exactmembership/model/EpochDays", name := "of", desc := "(JII)J" } : Jvm.MethodName) prog_18_method_2_code (14 : Nat) (Option.some Jvm.ClassFile.FieldType.long)).before args0 about1 = true := code_word (m := ⟨2, 1⟩) (meth := k2m1) (c := k2c1) (by decide +kernel) rfl rfl rfl (by decide +kernel)
set_option maxRecDepth 65536 in
theorem w_c7 : (Jvm.Cond.code ({ cls := "com/example/exact_membership/exactmembership/model/EpochDaysOfMonthsPinLaw", name := "lengthOf", desc := "(J)J" } : Jvm.MethodName) method_3_code (9 : Nat) (Option.some Jvm.ClassFile.FieldType.long)).before args0 about1 = true := code_word (m := ⟨1, 2⟩) (meth := k1m2) (c := k1c2) (by decide +kernel) rfl rfl rfl (by decide +kernel)
def codes1 : List Jvm.Cond := [Jvm.Cond.code x code maxLocals ret, Jvm.Cond.code ({ cls := "com/example/exact_membership/exactmembership/model/EpochDays", name := "ofMonths", desc := "(JI)J" } : Jvm.MethodName) prog_18_method_3_code (3 : Nat) (Option.some Jvm.ClassFile.FieldType.long), Jvm.Cond.code ({ cls := "java/lang/Math", name := "floorDiv", desc := "(JI)J" } : Jvm.MethodName) jdk_29_method_48_code (3 : Nat) (Option.some Jvm.ClassFile.FieldType.long), Jvm.Cond.code ({ cls := "java/lang/Math", name := "floorDiv", desc := "(JJ)J" } : Jvm.MethodName) jdk_29_method_49_code (6 : Nat) (Option.some Jvm.ClassFile.FieldType.long), Jvm.Cond.code ({ cls := "java/lang/Math", name := "floorMod", desc := "(JI)I" } : Jvm.MethodName) jdk_29_method_51_code (3 : Nat) (Option.some Jvm.ClassFile.FieldType.int), Jvm.Cond.code ({ cls := "java/lang/Math", name := "floorMod", desc := "(JJ)J" } : Jvm.MethodName) jdk_29_method_52_code (6 : Nat) (Option.some Jvm.ClassFile.FieldType.long), Jvm.Cond.code ({ cls := "com/example/exact_membership/exactmembership/model/EpochDays", name := "of", desc := "(JII)J" } : Jvm.MethodName) prog_18_method_2_code (14 : Nat) (Option.some Jvm.ClassFile.FieldType.long), Jvm.Cond.code ({ cls := "com/example/exact_membership/exactmembership/model/EpochDaysOfMonthsPinLaw", name := "lengthOf", desc := "(J)J" } : Jvm.MethodName) method_3_code (9 : Nat) (Option.some Jvm.ClassFile.FieldType.long)]
set_option maxRecDepth 65536 in
theorem codes_eq : words1.filter isCode = codes1 := rfl
theorem w_codes : ∀ c ∈ words1.filter isCode, c.before args0 about1 = true := by
  rw [codes_eq]
  intro c hc
  simp only [codes1, List.mem_cons, List.not_mem_nil, or_false] at hc
  rcases hc with rfl | rfl | rfl | rfl | rfl | rfl | rfl | rfl
  · exact w_c0
  · exact w_c1
  · exact w_c2
  · exact w_c3
  · exact w_c4
  · exact w_c5
  · exact w_c6
  · exact w_c7
set_option maxRecDepth 65536 in
theorem w_t1 : (words1.take 24).all (fun c => isCode c || c.before args0 about1) = true := by decide +kernel
set_option maxRecDepth 65536 in
theorem w_t2 : (words1.drop 24).all (fun c => isCode c || c.before args0 about1) = true := by decide +kernel
theorem w_tables : (allAtoms (Jvm.Cond.code x code maxLocals ret :: tables_1)).before args0 about1 = true := by
  rw [allAtoms_all]
  show words1.all (fun c => c.before args0 about1) = true
  refine all_split ?_ w_codes
  rw [← List.take_append_drop 24 words1, List.all_append, w_t1, w_t2]
  rfl
set_option maxRecDepth 65536 in
theorem w_case : (Jvm.Cond.and given_1 narrow_1).before args0 about1 = true := by decide +kernel
theorem w_applies : (headSpec (Jvm.Cond.code x code maxLocals ret :: tables_1) room_1).applies x e0.platform about1 = true :=
  (Spec.applies_iff w_frames).mpr ⟨w_running, w_runnable, w_alone, w_named, w_hears, w_ripe, w_room, w_tables⟩
theorem atStart : AtStart classFile x code maxLocals ret World_1 tables_1 room_1 Calls_1 rest_1 Pre_1 launch0 p0 e0 about1 theMethod args0 below0 :=
  ⟨lists_1, trivial, launch0.admits_env _ _ _, launch0.least_env, fairChoices_fair.cas, fairChoices_fair.clock, w_frames, w_args, w_heap, w_applies, trivial, trivial, w_case⟩
end start1
theorem witness_1 : WitnessClaimed_1 := ⟨start1.p0, start1.e0, start1.about1, start1.theMethod, start1.args0, start1.below0, start1.atStart⟩
end Jvm.Pilot.@@N@@
