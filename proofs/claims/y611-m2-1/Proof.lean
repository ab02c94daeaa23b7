import JvmDerived
import JvmDerived.Pilot.@@N@@Statement
import JvmDerived.Pilot.@@N@@Code
set_option linter.unusedVariables false
set_option linter.unusedSimpArgs false
@@BLOCK:NumsL.lean.txt@@
namespace Jvm.Pilot.@@N@@
open Jvm Jvm.ClassFile Sem Op Lib Jvm.Free Jvm.Stand Jvm.LawKit Jvm.RoadKit Bundle Jvm.Pilot.@@N@@.Jvm.D
/-! The walk in the continuation's form: 'Goes' says of a place (state, frame) that from it the body ends as Q says. -/
def Goes (p : Program) (e : Env) (below : List Frame) (s : State) (Q : Option Value → Heap → List Loc → Prop) (k n : Nat) (T : State) (g : JFrame) : Prop :=
  ∃ s₂ o, Steps p.tables e below (T.setTop g) s₂ ∧ s₂.status = .running ∧ Ended s₂ below o ∧ ∃ v L, o = .returned v ∧ Q v s₂.heap L ∧ FrameEnd s o s₂ L k n
section OwnKit
variable {p : Program} {l : Launch} {e : Env} {R : Room} {s : State} {m : MethodId} {args : Array Value} {below : List Frame} {meth : Method} {c : Code} {T T' : State} {locs : List Loc} {cells slots : Nat} {Q : Option Value → Heap → List Loc → Prop} {k n : Nat} {g g' : JFrame}
theorem own_go (f : ∀ t, Steps p.tables e below (T'.setTop g') t → Steps p.tables e below (T.setTop g) t) (h : Goes p e below s Q k n T' g') : Goes p e below s Q k n T g := by
  obtain ⟨a, b, h1, r⟩ := h
  exact ⟨a, b, f _ h1, r⟩
theorem own_tr (f : Steps p.tables e below (T.setTop g) (T'.setTop g')) (h : Goes p e below s Q k n T' g') : Goes p e below s Q k n T g := by
  obtain ⟨a, b, h1, r⟩ := h
  exact ⟨a, b, f.trans h1, r⟩
theorem own_ret (X : Stand p l e R s m args below meth c T locs cells slots) (hx : p.tables.exec = Jvm.exec) {pc : Nat} {Ls : Array Slot} {w : Value} {t : FieldType} {i : Instr} {rest : List Value} (hret : meth.sig.returnType = some t) (hlocks : meth.locks = false) (hn : narrow t w = w)
    (hi : (i = .ireturn ∧ (t = .int ∨ t = .boolean ∨ t = .byte ∨ t = .char ∨ t = .short) ∧ ∃ z, w = .int z) ∨ (i = .lreturn ∧ t = .long ∧ ∃ z, w = .long z) ∨ (i = .dreturn ∧ t = .double ∧ ∃ z, w = .double z) ∨ (i = .freturn ∧ t = .float ∧ ∃ z, w = .float z) ∨ (i = .areturn ∧ t.isReference = true ∧ w.isRef = true))
    (hd : decode c.code pc = .ok (i, 1)) (hQ : Q (some w) T.heap locs) (hc : cells ≤ k) (hs : slots ≤ n) : Goes p e below s Q k n T (mkF m pc Ls (w :: rest)) := by
  obtain ⟨fs, hr, hrun, hended, hW, hsame⟩ := X.leave (v := some w) (fun h => by rw [hret] at h; cases h) hlocks
  exact ⟨_, _, retOut X hx hret hn hi hd hr, hrun, hended, _, _, rfl, hQ, ⟨_, rfl⟩, hW, hsame.mono hc hs⟩
theorem own_retI (X : Stand p l e R s m args below meth c T locs cells slots) (hx : p.tables.exec = Jvm.exec) {pc : Nat} {Ls : Array Slot} {z : Int32} {rest : List Value} (hret : meth.sig.returnType = some .int) (hlocks : meth.locks = false)
    (hd : decode c.code pc = .ok (.ireturn, 1)) (hQ : Q (some (.int z)) T.heap locs) (hc : cells ≤ k) (hs : slots ≤ n) : Goes p e below s Q k n T (mkF m pc Ls (.int z :: rest)) :=
  own_ret X hx hret hlocks rfl (Or.inl ⟨rfl, Or.inl rfl, z, rfl⟩) hd hQ hc hs
theorem own_retZ (X : Stand p l e R s m args below meth c T locs cells slots) (hx : p.tables.exec = Jvm.exec) {pc : Nat} {Ls : Array Slot} {z : Int32} {rest : List Value} (hret : meth.sig.returnType = some .boolean) (hlocks : meth.locks = false) (hz : z = 0 ∨ z = 1)
    (hd : decode c.code pc = .ok (.ireturn, 1)) (hQ : Q (some (.int z)) T.heap locs) (hc : cells ≤ k) (hs : slots ≤ n) : Goes p e below s Q k n T (mkF m pc Ls (.int z :: rest)) :=
  own_ret X hx hret hlocks (by rcases hz with rfl | rfl <;> rfl) (Or.inl ⟨rfl, Or.inr (Or.inl rfl), z, rfl⟩) hd hQ hc hs
theorem own_retJ (X : Stand p l e R s m args below meth c T locs cells slots) (hx : p.tables.exec = Jvm.exec) {pc : Nat} {Ls : Array Slot} {z : Int64} {rest : List Value} (hret : meth.sig.returnType = some .long) (hlocks : meth.locks = false)
    (hd : decode c.code pc = .ok (.lreturn, 1)) (hQ : Q (some (.long z)) T.heap locs) (hc : cells ≤ k) (hs : slots ≤ n) : Goes p e below s Q k n T (mkF m pc Ls (.long z :: rest)) :=
  own_ret X hx hret hlocks rfl (Or.inr (Or.inl ⟨rfl, rfl, z, rfl⟩)) hd hQ hc hs
theorem own_retA (X : Stand p l e R s m args below meth c T locs cells slots) (hx : p.tables.exec = Jvm.exec) {pc : Nat} {Ls : Array Slot} {w : Value} {t : FieldType} {rest : List Value} (hret : meth.sig.returnType = some t) (ht : t.isReference = true) (hlocks : meth.locks = false) (hw : w.isRef = true)
    (hd : decode c.code pc = .ok (.areturn, 1)) (hQ : Q (some w) T.heap locs) (hc : cells ≤ k) (hs : slots ≤ n) : Goes p e below s Q k n T (mkF m pc Ls (w :: rest)) :=
  own_ret X hx hret hlocks (by cases t <;> simp [FieldType.isReference] at ht <;> cases w <;> simp [Value.isRef] at hw <;> rfl) (Or.inr (Or.inr (Or.inr (Or.inr ⟨rfl, ht, hw⟩)))) hd hQ hc hs
theorem own_retV (X : Stand p l e R s m args below meth c T locs cells slots) (hx : p.tables.exec = Jvm.exec) {pc : Nat} {Ls : Array Slot} (hret : meth.sig.returnType = none) (hlocks : meth.locks = false)
    (hd : decode c.code pc = .ok (.return_, 1)) (hQ : Q none T.heap locs) (hc : cells ≤ k) (hs : slots ≤ n) : Goes p e below s Q k n T (mkF m pc Ls []) := by
  obtain ⟨fs, hr, hrun, hended, hW, hsame⟩ := X.leave (v := none) (fun _ => rfl) hlocks
  exact ⟨_, _, X.returnOut hx hret hd hr, hrun, hended, _, _, rfl, hQ, ⟨_, rfl⟩, hW, hsame.mono hc hs⟩
/-- what a callee that writes nothing leaves: its value r, the heap as it was -/
def own_pure (r : Option Value) (h0 : Heap) : Option Value → Heap → List Loc → Prop := fun v h L => v = r ∧ L = [] ∧ h = h0
/-- a callee's contract -/
abbrev Pays (l : Launch) (Z : State) (y : MethodName) (bytes : ByteArray) (maxL : Nat) (ret : Option FieldType) (rm : Room) (as' : Array Value) (h0 : Heap) (Q : Option Value → Heap → List Loc → Prop) : Prop :=
  MetFree l y (head1 [Jvm.Cond.code y bytes maxL ret] rm) (fun a U => a = as' ∧ Z.Warmed39 U.vm ∧ U.heap = h0) (fun _ _ _ _ _ => True) (fun _ U o U' => ∃ v L, o = .returned v ∧ Q v U'.heap L ∧ FrameEnd U o U' L rm.cells rm.slots)
theorem own_callS {Z : State} {a0 : Array Value} {h : Heap} {rm : Room} {W : Nat} {own : String} {index : Nat} {y : MethodName} {bytes : ByteArray} {maxL : Nat} {ret : Option FieldType} {argsL rest : List Value} {r : Option Value}
    (X : Stand p l e R s m args below meth c T locs cells slots) (hx : p.tables.exec = Jvm.exec) (hZ : Z.Warmed39 s.vm) (hown : s.vm.findClass own = some m.cls)
    (wl : (Jvm.Cond.methodLink own index y).before a0 Z = true) (wst : (Jvm.Cond.static y).before a0 Z = true) (wi : (Jvm.Cond.initialized y.cls).before a0 Z = true) (wc : (Jvm.Cond.code y bytes maxL ret).before a0 Z = true)
    (hy : y.cls ≠ "java/lang/invoke/MethodHandle" ∧ y.cls ≠ "java/lang/invoke/VarHandle") (eT : T.heap = h)
    (hM : Pays l Z y bytes maxL ret rm argsL.toArray h (own_pure r h)) (hrc : rm.cells = 0) (hrs : rm.slots = 0) (hcl : cells ≤ R.cells) (hsl : slots ≤ R.slots) (hf : rm.frames + 1 ≤ R.frames) (hl : W + (maxL + 11) + rm.locals ≤ R.locals)
    (hg : g.method = m) (hsize : g.locals.size = c.maxLocals) (hlen : ∀ sig, parseMethodDescriptor y.desc = some sig → argsL.length = sig.parameters.length)
    (hstack : g.stack = argsL.reverse ++ rest) (hW : 2 * g.monitorRoom + (rest.map fun v => v.category).sum ≤ W) (hdg : decode c.code g.pc = .ok (.invokestatic index, 3)) :
    ∃ T', Stand p l e R s m args below meth c T' locs cells slots ∧ T'.heap = h ∧ ∀ t, Steps p.tables e below (T'.setTop { g with pc := g.pc + 3, stack := r.toList ++ rest }) t → Steps p.tables e below (T.setTop g) t := by
  obtain ⟨v, vm₁, ⟨T1, L1, k1, n1⟩, hw1, X1, ⟨Lc, hQ, l1, y1, z1⟩, st⟩ := Jvm.LawKit.callS X hx (y := y) hown (mvT hZ wl) (mvT hZ wst) (mvT hZ wi) (mvT hZ wc) hy (backOf (W := W) hM hZ wc wi hf hl) hg hsize hlen hstack hW hdg (fun _ _ => ⟨rfl, eT, by rw [hrc]; exact hcl, by rw [hrs]; exact hsl⟩)
  dsimp only [Pt.U, Pt.locs, Pt.cells, Pt.slots] at X1 l1 y1 z1 st hQ
  obtain ⟨rfl, rfl, hh⟩ := hQ
  subst l1 y1 z1
  rw [List.append_nil, hrc, hrs, Nat.add_zero, Nat.add_zero] at X1
  exact ⟨T1, X1, hh, st⟩
theorem own_callV {Z : State} {a0 : Array Value} {h : Heap} {rm : Room} {W : Nat} {own C : String} {index : Nat} {y z : MethodName} {bytes : ByteArray} {maxL : Nat} {ret : Option FieldType} {argsL rest : List Value} {r : Option Value} {b : Addr}
    (X : Stand p l e R s m args below meth c T locs cells slots) (hx : p.tables.exec = Jvm.exec) (hZ : Z.Warmed39 s.vm) (hown : s.vm.findClass own = some m.cls)
    (wl : (Jvm.Cond.methodLink own index y).before a0 Z = true) (wd : (Jvm.Cond.declares y).before a0 Z = true) (wsel : (Jvm.Cond.selects C y z).before a0 Z = true) (hnf : NotFace s y) (win : (Jvm.Cond.instanceMethod z).before a0 Z = true) (wi : (Jvm.Cond.initialized z.cls).before a0 Z = true) (wc : (Jvm.Cond.code z bytes maxL ret).before a0 Z = true)
    (hy : y.cls ≠ "java/lang/invoke/MethodHandle" ∧ y.cls ≠ "java/lang/invoke/VarHandle") (eT : T.heap = h) (E : Exa Z h b C)
    (hM : Pays l Z z bytes maxL ret rm (.ref b :: argsL).toArray h (own_pure r h)) (hrc : rm.cells = 0) (hrs : rm.slots = 0) (hcl : cells ≤ R.cells) (hsl : slots ≤ R.slots) (hf : rm.frames + 1 ≤ R.frames) (hl : W + (maxL + 11) + rm.locals ≤ R.locals)
    (hg : g.method = m) (hsize : g.locals.size = c.maxLocals) (hlen : ∀ sig, parseMethodDescriptor y.desc = some sig → argsL.length = sig.parameters.length)
    (hstack : g.stack = argsL.reverse ++ .ref b :: rest) (hW : 2 * g.monitorRoom + (rest.map fun v => v.category).sum ≤ W) (hdg : decode c.code g.pc = .ok (.invokevirtual index, 3)) :
    ∃ T', Stand p l e R s m args below meth c T' locs cells slots ∧ T'.heap = h ∧ ∀ t, Steps p.tables e below (T'.setTop { g with pc := g.pc + 3, stack := r.toList ++ rest }) t → Steps p.tables e below (T.setTop g) t := by
  obtain ⟨cq, kq, qa, qb, qc⟩ := isOf hZ eT E
  obtain ⟨v, vm₁, ⟨T1, L1, k1, n1⟩, hw1, X1, ⟨Lc, hQ, l1, y1, z1⟩, st⟩ := X.virtualBack hx (y := y) (z := z) hown (mvT hZ wl) (mvT hZ wd) hnf (mvT hZ wsel) (mvT hZ win) hy (backOf (W := W) hM hZ wc wi hf hl) qa qc hg hsize (Steps.refl _) hlen hstack hW hdg (fun _ _ => ⟨rfl, eT, by rw [hrc]; exact hcl, by rw [hrs]; exact hsl⟩)
  dsimp only [Pt.U, Pt.locs, Pt.cells, Pt.slots] at X1 l1 y1 z1 st hQ
  obtain ⟨rfl, rfl, hh⟩ := hQ
  subst l1 y1 z1
  rw [List.append_nil, hrc, hrs, Nat.add_zero, Nat.add_zero] at X1
  exact ⟨T1, X1, hh, fun t k => st.trans k⟩
/-- what a law that makes objects leaves: true, and nothing old written -/
def own_one (n0 : Nat) : Option Value → Heap → List Loc → Prop := fun v h L => v = some (.int 1) ∧ Fr n0 L
theorem own_callI {Z : State} {a0 : Array Value} {h : Heap} {rm : Room} {W : Nat} {own : String} {index : Nat} {y : MethodName} {bytes : ByteArray} {maxL : Nat} {argsL rest : List Value} {a : Addr}
    (X : Stand p l e R s m args below meth c T locs cells slots) (hx : p.tables.exec = Jvm.exec) (hZ : Z.Warmed39 s.vm) (hown : s.vm.findClass own = some m.cls) (hy1 : y.name = "<init>")
    (wl : (Jvm.Cond.methodLink own index y).before a0 Z = true) (win : (Jvm.Cond.instanceMethod y).before a0 Z = true) (wi : (Jvm.Cond.initialized y.cls).before a0 Z = true) (wc : (Jvm.Cond.code y bytes maxL none).before a0 Z = true)
    (hy : y.cls ≠ "java/lang/invoke/MethodHandle" ∧ y.cls ≠ "java/lang/invoke/VarHandle") (eT : T.heap = h)
    (hM : Pays l Z y bytes maxL none rm (.ref a :: argsL).toArray h (own_pure none h)) (hrc : rm.cells = 0) (hrs : rm.slots = 0) (hcl : cells ≤ R.cells) (hsl : slots ≤ R.slots) (hf : rm.frames + 1 ≤ R.frames) (hl : W + (maxL + 11) + rm.locals ≤ R.locals)
    (hg : g.method = m) (hsize : g.locals.size = c.maxLocals) (hlen : ∀ sig, parseMethodDescriptor y.desc = some sig → argsL.length = sig.parameters.length)
    (hstack : g.stack = argsL.reverse ++ .ref a :: rest) (hW : 2 * g.monitorRoom + (rest.map fun v => v.category).sum ≤ W) (hdg : decode c.code g.pc = .ok (.invokespecial index, 3)) :
    ∃ T', Stand p l e R s m args below meth c T' locs cells slots ∧ T'.heap = h ∧ ∀ t, Steps p.tables e below (T'.setTop { g with pc := g.pc + 3, stack := rest }) t → Steps p.tables e below (T.setTop g) t := by
  obtain ⟨v, vm₁, ⟨T1, L1, k1, n1⟩, hw1, X1, ⟨Lc, hQ, l1, y1, z1⟩, st⟩ := X.specialBack hx (y := y) hy1 hown (mvT hZ wl) (mvT hZ win) (mvT hZ wc) hy (backOf (W := W) hM hZ wc wi hf hl) hg hsize (Steps.refl _) hlen hstack hW hdg (fun _ _ => ⟨rfl, eT, by rw [hrc]; exact hcl, by rw [hrs]; exact hsl⟩)
  dsimp only [Pt.U, Pt.locs, Pt.cells, Pt.slots] at X1 l1 y1 z1 st hQ
  obtain ⟨rfl, rfl, hh⟩ := hQ
  subst l1 y1 z1
  rw [List.append_nil, hrc, hrs, Nat.add_zero, Nat.add_zero] at X1
  exact ⟨T1, X1, hh, fun t k => st.trans k⟩
theorem own_eqi {args : Array Value} {first s : State} {o : Option Outcome} {idx : List Nat} {t : Term} {k : Int32} (h : (Jvm.Cond.eq t (Term.int k)).value args first o s idx = some true) : t.eval args first o idx s = some (.int k) := by
  obtain ⟨x, y, e1, e2, k1, k2⟩ := cmp_v (Or.inl h)
  rw [Term.int_eval] at e2
  cases e2
  obtain ⟨z, rfl⟩ := k2
  have h2 : (Jvm.Cond.eq t (Term.int k)).value args first o s idx = some (decide (z = k)) := by simp [Cond.value, e1, Term.int_eval]
  rw [gotT h2 h] at e1
  exact e1
theorem own_ord {args : Array Value} {s : State} {t : Term} {x : Addr} {C n : String} {k : Int32} (ev : t.eval args s none [] s = some (.ref x)) (h : (Jvm.Cond.eq (Term.field t C n "I") (Term.int k)).value args s none s [] = some true) : Fld s s.heap x C n "I" (.int k) :=
  Fld.start ((fld_at ev).symm.trans (own_eqi h))
theorem own_sta_keep {Z : State} {h h' : Heap} {C n d D : String} {v : Value} {a : Addr} (F : Sta Z h C n d v) (K : Keep h h' [a]) (E : Exa Z h a D) : Sta Z h' C n d v := by
  obtain ⟨cf, i, k, f, st, cell, h1, h2, h3, h4, h5, h6, h7⟩ := F
  refine ⟨cf, i, k, f, st, cell, h1, h2, h3, h4, K.2.1 st cell h5 (fun q => ?_), h6, h7⟩
  obtain ⟨cell', k', g1, -, -, g4, -⟩ := E
  cases List.mem_singleton.mp q
  rw [h5] at g1
  cases g1
  rw [h6] at g4
  cases g4
end OwnKit
theorem ef_rec (m : MethodId) (x0 : Addr) : entryFrame m #[(.ref x0)] 1 = mkF m 0 #[.val (.ref x0)] [] := by first | (simp [entryFrame, mkF, argsToLocals, Value.category]; done) | rfl
theorem pn_0 : plainName "java/lang/Record" = true := by first | (simp [plainName, overriddenIn]; done) | decide +kernel
theorem d_rec_0 : decode jdk_30_method_1_code 0 = .ok (.aload_n 0, 1) := by decide +kernel
theorem d_rec_1 : decode jdk_30_method_1_code 1 = .ok (.invokespecial 1, 3) := by decide +kernel
theorem d_rec_4 : decode jdk_30_method_1_code 4 = .ok (.return_, 1) := by decide +kernel
theorem ef_ini (m : MethodId) (x0 : Addr) (x1 : Int32) (x2 : Int32) (x3 : Int32) : entryFrame m #[(.ref x0), (.int x1), (.int x2), (.int x3)] 4 = mkF m 0 #[.val (.ref x0), .val (.int x1), .val (.int x2), .val (.int x3)] [] := by first | (simp [entryFrame, mkF, argsToLocals, Value.category]; done) | rfl
theorem pn_1 : plainName "com/example/store_and_forward/storeandforward/wire/BaseHeader" = true := by first | (simp [plainName, overriddenIn]; done) | decide +kernel
theorem d_ini_0 : decode prog_36_method_1_code 0 = .ok (.aload_n 0, 1) := by decide +kernel
theorem d_ini_1 : decode prog_36_method_1_code 1 = .ok (.invokespecial 1, 3) := by decide +kernel
theorem pd_0 : parseMethodDescriptor "()V" = some ⟨[], none⟩ := by decide +kernel
theorem d_ini_4 : decode prog_36_method_1_code 4 = .ok (.aload_n 0, 1) := by decide +kernel
theorem d_ini_5 : decode prog_36_method_1_code 5 = .ok (.iload_n 1, 1) := by decide +kernel
theorem d_ini_6 : decode prog_36_method_1_code 6 = .ok (.putfield 7, 3) := by decide +kernel
theorem d_ini_9 : decode prog_36_method_1_code 9 = .ok (.aload_n 0, 1) := by decide +kernel
theorem d_ini_10 : decode prog_36_method_1_code 10 = .ok (.iload_n 2, 1) := by decide +kernel
theorem d_ini_11 : decode prog_36_method_1_code 11 = .ok (.putfield 13, 3) := by decide +kernel
theorem d_ini_14 : decode prog_36_method_1_code 14 = .ok (.aload_n 0, 1) := by decide +kernel
theorem d_ini_15 : decode prog_36_method_1_code 15 = .ok (.iload_n 3, 1) := by decide +kernel
theorem d_ini_16 : decode prog_36_method_1_code 16 = .ok (.putfield 16, 3) := by decide +kernel
theorem d_ini_19 : decode prog_36_method_1_code 19 = .ok (.return_, 1) := by decide +kernel
theorem ef_tst (m : MethodId) (x0 : Addr) : entryFrame m #[(.ref x0)] 1 = mkF m 0 #[.val (.ref x0)] [] := by first | (simp [entryFrame, mkF, argsToLocals, Value.category]; done) | rfl
theorem d_tst_0 : decode prog_36_method_3_code 0 = .ok (.aload_n 0, 1) := by decide +kernel
theorem d_tst_1 : decode prog_36_method_3_code 1 = .ok (.getfield 7, 3) := by decide +kernel
theorem d_tst_4 : decode prog_36_method_3_code 4 = .ok (.bipush 16, 2) := by decide +kernel
theorem d_tst_6 : decode prog_36_method_3_code 6 = .ok (.iand, 1) := by decide +kernel
theorem d_tst_7 : decode prog_36_method_3_code 7 = .ok (.ifCond .eq 7, 3) := by decide +kernel
theorem d_tst_14 : decode prog_36_method_3_code 14 = .ok (.iconst 0, 1) := by decide +kernel
theorem d_tst_15 : decode prog_36_method_3_code 15 = .ok (.ireturn, 1) := by decide +kernel
theorem d_tst_10 : decode prog_36_method_3_code 10 = .ok (.iconst 1, 1) := by decide +kernel
theorem d_tst_11 : decode prog_36_method_3_code 11 = .ok (.goto 4, 3) := by decide +kernel
theorem ef_law (m : MethodId) (x0 : Int32) (x1 : Int32) (x2 : Int32) (x3 : Int32) : entryFrame m #[(.int x0), (.int x1), (.int x2), (.int x3)] maxLocals = mkF m 0 #[.val (.int x0), .val (.int x1), .val (.int x2), .val (.int x3), .unset, .unset, .unset, .unset] [] := by first | (simp [entryFrame, mkF, argsToLocals, Value.category, maxLocals]; done) | rfl
theorem pn_2 : plainName "com/example/store_and_forward/storeandforward/wire/BaseHeaderSessionHeaderPinLaw" = true := by first | (simp [plainName, overriddenIn]; done) | decide +kernel
theorem pd_1 : parseMethodDescriptor "(III)V" = some ⟨[.int, .int, .int], none⟩ := by decide +kernel
theorem pd_2 : parseMethodDescriptor "()Z" = some ⟨[], some .boolean⟩ := by decide +kernel
set_option maxRecDepth 65536 in
set_option maxHeartbeats 40000000 in
theorem rm_rec (l : Launch) (Z : State) (a0 : Array Value) (hw : ∀ d ∈ tables_1, d.before a0 Z = true) (a : Addr) (h0 : Heap)  :
    Pays l Z (⟨"java/lang/Record", "<init>", "()V"⟩ : MethodName) jdk_30_method_1_code 1 none ({ frames := 1, cells := 0, slots := 0, locals := 12 } : Room) #[(.ref a)] h0 (own_pure none h0) := by
  refine MetFree.of_bodySF (plainFor_of_name pn_0) hisR ?_
  intro p e s m args below meth c s₁ Bd hml0 hP hK
  obtain ⟨rfl, hZ, hh⟩ := hP
  have hx := Bd.exec
  have hby := Bd.bytes
  have hml : c.maxLocals = 1 := hml0
  have hown : s.vm.findClass "java/lang/Record" = some m.cls := findClass_of_methodNamed Bd.named
  have hnm := (name_of_methodNamed Bd.named Bd.method).1
  have hlk : meth.locks = false := BodyLoose.notSynchronized Bd
  have X0 : Stand p l e ({ frames := 1, cells := 0, slots := 0, locals := 12 } : Room) s m #[(.ref a)] below meth c s₁ [] 0 0 := Stand.of_body Bd
  have e0 : s₁.heap = h0 := by rw [← hh, Bd.state]; rfl
  show Goes p e below s (own_pure none h0) ({ frames := 1, cells := 0, slots := 0, locals := 12 } : Room).cells ({ frames := 1, cells := 0, slots := 0, locals := 12 } : Room).slots s₁ (entryFrame m #[(.ref a)] 1)
  rw [ef_rec m a]
  refine own_go (T' := s₁) (g' := (mkF m 1 #[.val (.ref a)] [(.ref a)])) (fun t_ K => XS.aloadN X0.here hx rfl (hb hby d_rec_0) rfl rfl K) ?_
  obtain ⟨T1, X1, e1, st1⟩ := initO X0 hx hZ hown (hw _ (List.mem_of_getElem? (i := 11) rfl)) (hw _ (List.mem_of_getElem? (i := 12) rfl)) (hw _ (List.mem_of_getElem? (i := 13) rfl)) e0 (g := (mkF m 1 #[.val (.ref a)] [(.ref a)])) rfl (by rw [hml]; rfl) rfl (hb hby d_rec_1) (by decide) (W := 0) (by show 2 * 0 + _ ≤ _; exact Nat.le_of_eq rfl) (by decide)
  refine own_go (T' := T1) (g' := (mkF m 4 #[.val (.ref a)] [])) (fun t_ K => st1 _ K) ?_
  exact own_retV X1 hx Bd.returns hlk (hb hby d_rec_4) ⟨rfl, rfl, e1⟩ (by decide) (by decide)
def own_iq (Z : State) (a : Addr) (fl : Int32) (h0 : Heap) (n0 : Nat) : Option Value → Heap → List Loc → Prop := fun v h L => v = none ∧ Fr n0 L ∧ Keep h0 h [a] ∧ Fld Z h a "com/example/store_and_forward/storeandforward/wire/BaseHeader" "flags" "I" (.int fl)
set_option maxRecDepth 65536 in
set_option maxHeartbeats 40000000 in
theorem rm_ini (l : Launch) (Z : State) (a0 : Array Value) (hw : ∀ d ∈ tables_1, d.before a0 Z = true) (a : Addr) (x1 x2 x3 : Int32) (n0 : Nat) (h0 : Heap) (ga : n0 ≤ a) (Ea : Exa Z h0 a "com/example/store_and_forward/storeandforward/wire/BaseHeader") (F0 : Fld Z h0 a "com/example/store_and_forward/storeandforward/wire/BaseHeader" "flags" "I" (.int (0 : Int32))) (F1 : Fld Z h0 a "com/example/store_and_forward/storeandforward/wire/BaseHeader" "packetSize" "I" (.int (0 : Int32))) (F2 : Fld Z h0 a "com/example/store_and_forward/storeandforward/wire/BaseHeader" "timeToReachQueue" "I" (.int (0 : Int32))) :
    Pays l Z (⟨"com/example/store_and_forward/storeandforward/wire/BaseHeader", "<init>", "(III)V"⟩ : MethodName) prog_36_method_1_code 4 none ({ frames := 2, cells := 0, slots := 0, locals := 24 } : Room) #[(.ref a), (.int x1), (.int x2), (.int x3)] h0 (own_iq Z a x1 h0 n0) := by
  refine MetFree.of_bodySF (plainFor_of_name pn_1) hisR ?_
  intro p e s m args below meth c s₁ Bd hml0 hP hK
  obtain ⟨rfl, hZ, hh⟩ := hP
  have hx := Bd.exec
  have hby := Bd.bytes
  have hml : c.maxLocals = 4 := hml0
  have hown : s.vm.findClass "com/example/store_and_forward/storeandforward/wire/BaseHeader" = some m.cls := findClass_of_methodNamed Bd.named
  have hnm := (name_of_methodNamed Bd.named Bd.method).1
  have hlk : meth.locks = false := BodyLoose.notSynchronized Bd
  have X0 : Stand p l e ({ frames := 2, cells := 0, slots := 0, locals := 24 } : Room) s m #[(.ref a), (.int x1), (.int x2), (.int x3)] below meth c s₁ [] 0 0 := Stand.of_body Bd
  have e0 : s₁.heap = h0 := by rw [← hh, Bd.state]; rfl
  have N0 := Fr.nil n0
  have K0 := Keep.refl h0 [a]
  show Goes p e below s (own_iq Z a x1 h0 n0) ({ frames := 2, cells := 0, slots := 0, locals := 24 } : Room).cells ({ frames := 2, cells := 0, slots := 0, locals := 24 } : Room).slots s₁ (entryFrame m #[(.ref a), (.int x1), (.int x2), (.int x3)] 4)
  rw [ef_ini m a x1 x2 x3]
  refine own_go (T' := s₁) (g' := (mkF m 1 #[.val (.ref a), .val (.int x1), .val (.int x2), .val (.int x3)] [(.ref a)])) (fun t_ K => XS.aloadN X0.here hx rfl (hb hby d_ini_0) rfl rfl K) ?_
  obtain ⟨T1, X1, e1, st1⟩ := own_callI (W := 0) (rm := { frames := 1, cells := 0, slots := 0, locals := 12 }) X0 hx hZ hown rfl (hw _ (List.mem_of_getElem? (i := 6) rfl)) (hw _ (List.mem_of_getElem? (i := 7) rfl)) (hw _ (List.mem_of_getElem? (i := 9) rfl)) (hw _ (List.mem_of_getElem? (i := 10) rfl)) (by decide) e0 (a := a) (argsL := []) (rest := []) (rm_rec l Z a0 hw a h0) rfl rfl (by decide) (by decide) (by decide) (by decide) (g := (mkF m 1 #[.val (.ref a), .val (.int x1), .val (.int x2), .val (.int x3)] [(.ref a)])) rfl (by rw [hml]; rfl) (lenOf pd_0 rfl) rfl (by show 2 * 0 + _ ≤ _; exact Nat.le_of_eq rfl) (hb hby d_ini_1)
  refine own_go (T' := T1) (g' := (mkF m 4 #[.val (.ref a), .val (.int x1), .val (.int x2), .val (.int x3)] [])) (fun t_ K => st1 _ K) ?_
  refine own_go (T' := T1) (g' := (mkF m 5 #[.val (.ref a), .val (.int x1), .val (.int x2), .val (.int x3)] [(.ref a)])) (fun t_ K => XS.aloadN X1.here hx rfl (hb hby d_ini_4) rfl rfl K) ?_
  refine own_go (T' := T1) (g' := (mkF m 6 #[.val (.ref a), .val (.int x1), .val (.int x2), .val (.int x3)] [(.int x1), (.ref a)])) (fun t_ K => XS.iloadN X1.here hx rfl (hb hby d_ini_5) rfl K) ?_
  obtain ⟨T2, h2, X2, e2, W2, st2⟩ := putF X1 hx hZ hown (host := "") (Or.inl (hw _ (List.mem_of_getElem? (i := 14) rfl))) Via.refl e1 F0 Ea (Or.inr ⟨(hw _ (List.mem_of_getElem? (i := 15) rfl)), rfl, hnm⟩) (hw _ (List.mem_of_getElem? (i := 1) rfl)) (ty := .int) (by decide) rfl rfl (g := (mkF m 6 #[.val (.ref a), .val (.int x1), .val (.int x2), .val (.int x3)] [(.int x1), (.ref a)])) rfl rfl (hb hby d_ini_6)
  have Ea_2 := Ea.wr W2
  have F0_2 := F0.same W2
  have F1_2 := F1.other W2 (Or.inr (slot_ne (Or.inr (hw _ (List.mem_of_getElem? (i := 17) rfl))) (Or.inr (hw _ (List.mem_of_getElem? (i := 15) rfl))) (by decide) (t := .int) (t' := .int) (by decide) (by decide)))
  have F2_2 := F2.other W2 (Or.inr (slot_ne (Or.inr (hw _ (List.mem_of_getElem? (i := 19) rfl))) (Or.inr (hw _ (List.mem_of_getElem? (i := 15) rfl))) (by decide) (t := .int) (t' := .int) (by decide) (by decide)))
  have N_2 := Fr.snoc X2 N0 ga
  have K_2 := Keep.wr K0 W2 (Or.inl (List.mem_of_getElem? (i := 0) rfl))
  refine own_go (T' := T2) (g' := (mkF m 9 #[.val (.ref a), .val (.int x1), .val (.int x2), .val (.int x3)] [])) (fun t_ K => st2 _ K) ?_
  refine own_go (T' := T2) (g' := (mkF m 10 #[.val (.ref a), .val (.int x1), .val (.int x2), .val (.int x3)] [(.ref a)])) (fun t_ K => XS.aloadN X2.here hx rfl (hb hby d_ini_9) rfl rfl K) ?_
  refine own_go (T' := T2) (g' := (mkF m 11 #[.val (.ref a), .val (.int x1), .val (.int x2), .val (.int x3)] [(.int x2), (.ref a)])) (fun t_ K => XS.iloadN X2.here hx rfl (hb hby d_ini_10) rfl K) ?_
  obtain ⟨T3, h3, X3, e3, W3, st3⟩ := putF X2 hx hZ hown (host := "") (Or.inl (hw _ (List.mem_of_getElem? (i := 16) rfl))) Via.refl e2 F1_2 Ea_2 (Or.inr ⟨(hw _ (List.mem_of_getElem? (i := 17) rfl)), rfl, hnm⟩) (hw _ (List.mem_of_getElem? (i := 1) rfl)) (ty := .int) (by decide) rfl rfl (g := (mkF m 11 #[.val (.ref a), .val (.int x1), .val (.int x2), .val (.int x3)] [(.int x2), (.ref a)])) rfl rfl (hb hby d_ini_11)
  have Ea_3 := Ea_2.wr W3
  have F0_3 := F0_2.other W3 (Or.inr (slot_ne (Or.inr (hw _ (List.mem_of_getElem? (i := 15) rfl))) (Or.inr (hw _ (List.mem_of_getElem? (i := 17) rfl))) (by decide) (t := .int) (t' := .int) (by decide) (by decide)))
  have F1_3 := F1_2.same W3
  have F2_3 := F2_2.other W3 (Or.inr (slot_ne (Or.inr (hw _ (List.mem_of_getElem? (i := 19) rfl))) (Or.inr (hw _ (List.mem_of_getElem? (i := 17) rfl))) (by decide) (t := .int) (t' := .int) (by decide) (by decide)))
  have N_3 := Fr.snoc X3 N_2 ga
  have K_3 := Keep.wr K_2 W3 (Or.inl (List.mem_of_getElem? (i := 0) rfl))
  refine own_go (T' := T3) (g' := (mkF m 14 #[.val (.ref a), .val (.int x1), .val (.int x2), .val (.int x3)] [])) (fun t_ K => st3 _ K) ?_
  refine own_go (T' := T3) (g' := (mkF m 15 #[.val (.ref a), .val (.int x1), .val (.int x2), .val (.int x3)] [(.ref a)])) (fun t_ K => XS.aloadN X3.here hx rfl (hb hby d_ini_14) rfl rfl K) ?_
  refine own_go (T' := T3) (g' := (mkF m 16 #[.val (.ref a), .val (.int x1), .val (.int x2), .val (.int x3)] [(.int x3), (.ref a)])) (fun t_ K => XS.iloadN X3.here hx rfl (hb hby d_ini_15) rfl K) ?_
  obtain ⟨T4, h4, X4, e4, W4, st4⟩ := putF X3 hx hZ hown (host := "") (Or.inl (hw _ (List.mem_of_getElem? (i := 18) rfl))) Via.refl e3 F2_3 Ea_3 (Or.inr ⟨(hw _ (List.mem_of_getElem? (i := 19) rfl)), rfl, hnm⟩) (hw _ (List.mem_of_getElem? (i := 1) rfl)) (ty := .int) (by decide) rfl rfl (g := (mkF m 16 #[.val (.ref a), .val (.int x1), .val (.int x2), .val (.int x3)] [(.int x3), (.ref a)])) rfl rfl (hb hby d_ini_16)
  have Ea_4 := Ea_3.wr W4
  have F0_4 := F0_3.other W4 (Or.inr (slot_ne (Or.inr (hw _ (List.mem_of_getElem? (i := 15) rfl))) (Or.inr (hw _ (List.mem_of_getElem? (i := 19) rfl))) (by decide) (t := .int) (t' := .int) (by decide) (by decide)))
  have F1_4 := F1_3.other W4 (Or.inr (slot_ne (Or.inr (hw _ (List.mem_of_getElem? (i := 17) rfl))) (Or.inr (hw _ (List.mem_of_getElem? (i := 19) rfl))) (by decide) (t := .int) (t' := .int) (by decide) (by decide)))
  have F2_4 := F2_3.same W4
  have N_4 := Fr.snoc X4 N_3 ga
  have K_4 := Keep.wr K_3 W4 (Or.inl (List.mem_of_getElem? (i := 0) rfl))
  refine own_go (T' := T4) (g' := (mkF m 19 #[.val (.ref a), .val (.int x1), .val (.int x2), .val (.int x3)] [])) (fun t_ K => st4 _ K) ?_
  exact own_retV X4 hx Bd.returns hlk (hb hby d_ini_19) ⟨rfl, N_4, (by rw [e4]; exact K_4), (by rw [e4]; exact F0_4)⟩ (by decide) (by decide)
def own_bit (fl : Int32) : Int32 := if (fl &&& (16 : Int32)) = (0 : Int32) then (0 : Int32) else (1 : Int32)
set_option maxRecDepth 65536 in
set_option maxHeartbeats 40000000 in
theorem rm_tst (l : Launch) (Z : State) (a0 : Array Value) (hw : ∀ d ∈ tables_1, d.before a0 Z = true) (a : Addr) (fl : Int32) (h0 : Heap) (F : Fld Z h0 a "com/example/store_and_forward/storeandforward/wire/BaseHeader" "flags" "I" (.int fl)) :
    Pays l Z (⟨"com/example/store_and_forward/storeandforward/wire/BaseHeader", "sessionHeader", "()Z"⟩ : MethodName) prog_36_method_3_code 1 (some .boolean) ({ frames := 0, cells := 0, slots := 0, locals := 0 } : Room) #[(.ref a)] h0 (own_pure (some (.int (own_bit fl))) h0) := by
  refine MetFree.of_bodySF (plainFor_of_name pn_1) hisR ?_
  intro p e s m args below meth c s₁ Bd hml0 hP hK
  obtain ⟨rfl, hZ, hh⟩ := hP
  have hx := Bd.exec
  have hby := Bd.bytes
  have hml : c.maxLocals = 1 := hml0
  have hown : s.vm.findClass "com/example/store_and_forward/storeandforward/wire/BaseHeader" = some m.cls := findClass_of_methodNamed Bd.named
  have hnm := (name_of_methodNamed Bd.named Bd.method).1
  have hlk : meth.locks = false := BodyLoose.notSynchronized Bd
  have X0 : Stand p l e ({ frames := 0, cells := 0, slots := 0, locals := 0 } : Room) s m #[(.ref a)] below meth c s₁ [] 0 0 := Stand.of_body Bd
  have e0 : s₁.heap = h0 := by rw [← hh, Bd.state]; rfl
  show Goes p e below s (own_pure (some (.int (own_bit fl))) h0) ({ frames := 0, cells := 0, slots := 0, locals := 0 } : Room).cells ({ frames := 0, cells := 0, slots := 0, locals := 0 } : Room).slots s₁ (entryFrame m #[(.ref a)] 1)
  rw [ef_tst m a]
  refine own_go (T' := s₁) (g' := (mkF m 1 #[.val (.ref a)] [(.ref a)])) (fun t_ K => XS.aloadN X0.here hx rfl (hb hby d_tst_0) rfl rfl K) ?_
  obtain ⟨T1, X1, e1, st1⟩ := getF X0 hx hZ hown (host := "") (Or.inl (hw _ (List.mem_of_getElem? (i := 14) rfl))) Via.refl e0 F (g := (mkF m 1 #[.val (.ref a)] [(.ref a)])) rfl rfl (hb hby d_tst_1)
  refine own_go (T' := T1) (g' := (mkF m 4 #[.val (.ref a)] [(.int fl)])) (fun t_ K => st1 _ K) ?_
  refine own_go (T' := T1) (g' := (mkF m 6 #[.val (.ref a)] [(.int (16 : Int32)), (.int fl)])) (fun t_ K => XS.bipush X1.here hx rfl (hb hby d_tst_4) K) ?_
  refine own_go (T' := T1) (g' := (mkF m 7 #[.val (.ref a)] [(.int (fl &&& (16 : Int32)))])) (fun t_ K => XS.iand X1.here hx rfl (hb hby d_tst_6) rfl K) ?_
  by_cases c7 : (fl &&& (16 : Int32)) = (0 : Int32)
  · refine own_go (T' := T1) (g' := (mkF m 14 #[.val (.ref a)] [])) (fun t_ K => XS.ifYes X1.here hx rfl (pc0 := 7) (pc' := 14) rfl (hb hby d_tst_7) rfl ((if0 _ _).trans (teq c7).1) (by decide) (by decide) K) ?_
    refine own_go (T' := T1) (g' := (mkF m 15 #[.val (.ref a)] [(.int (0 : Int32))])) (fun t_ K => XS.iconst X1.here hx rfl (hb hby d_tst_14) K) ?_
    exact own_retZ X1 hx Bd.returns hlk (Or.inl rfl) (hb hby d_tst_15) ⟨by rw [own_bit, if_pos c7], rfl, e1⟩ (by decide) (by decide)
  · refine own_go (T' := T1) (g' := (mkF m 10 #[.val (.ref a)] [])) (fun t_ K => XS.ifNo X1.here hx rfl (hb hby d_tst_7) rfl ((if0 _ _).trans (feq c7).1) K) ?_
    refine own_go (T' := T1) (g' := (mkF m 11 #[.val (.ref a)] [(.int (1 : Int32))])) (fun t_ K => XS.iconst X1.here hx rfl (hb hby d_tst_10) K) ?_
    refine own_go (T' := T1) (g' := (mkF m 15 #[.val (.ref a)] [(.int (1 : Int32))])) (fun t_ K => XS.goto X1.here hx rfl (pc0 := 11) (pc' := 15) rfl (hb hby d_tst_11) (by decide) (by decide) K) ?_
    exact own_retZ X1 hx Bd.returns hlk (Or.inr rfl) (hb hby d_tst_15) ⟨by rw [own_bit, if_neg c7], rfl, e1⟩ (by decide) (by decide)
theorem own_and (x y : Int32) (k : Nat) (hk : k < 32) (hy : y.toBitVec = BitVec.twoPow 32 k) : (x &&& y) = (0 : Int32) ↔ x.toBitVec.getLsbD k = false := by
  rw [← Int32.toBitVec_inj, Int32.toBitVec_and, hy, BitVec.and_twoPow]
  cases x.toBitVec.getLsbD k
  · simp
  · simp only [if_true, Bool.true_eq_false, iff_false]
    intro q
    have := congrArg (fun z => z.getLsbD k) q
    simp [hk] at this
theorem own_sh (x : Int32) (y : Int32) (k : Nat) (hk : k < 32) (hy : ((y &&& 31).toUInt32.toBitVec % 32#32).toNat = k) : ((XT.ushr x y) &&& (1 : Int32)) = (1 : Int32) ↔ x.toBitVec.getLsbD k = true := by
  have e : (XT.ushr x y).toBitVec = x.toBitVec >>> k := by
    show x.toBitVec >>> ((y &&& 31).toUInt32.toBitVec % 32#32) = _
    rw [BitVec.ushiftRight_eq', hy]
  have q1 := own_and (XT.ushr x y) 1 0 (by decide) (by decide)
  rw [e, BitVec.getLsbD_ushiftRight, Nat.add_zero] at q1
  have q2 : ((XT.ushr x y) &&& (1 : Int32)) = 0 ∨ ((XT.ushr x y) &&& (1 : Int32)) = 1 := and_one _
  constructor
  · intro r
    cases h : x.toBitVec.getLsbD k
    · rw [q1.mpr h] at r; exact absurd r (by decide)
    · rfl
  · intro r
    rcases q2 with q2 | q2
    · rw [q1.mp q2] at r; cases r
    · exact q2
theorem own_b16 (x : Int32) : (x &&& (16 : Int32)) = (0 : Int32) ↔ x.toBitVec.getLsbD 4 = false := own_and x 16 4 (by decide) (by decide)
theorem own_bv (x : Int32) : own_bit x = if x.toBitVec.getLsbD 4 = true then (1 : Int32) else (0 : Int32) := by
  rw [own_bit]
  cases h : x.toBitVec.getLsbD 4
  · rw [if_pos ((own_b16 x).mpr h)]; rfl
  · rw [if_neg (fun q => by rw [(own_b16 x).mp q] at h; cases h)]; rfl
theorem own_ref1 (x : Int32) (h : ((XT.ushr x (4 : Int32)) &&& (1 : Int32)) = (1 : Int32)) : own_bit x = (1 : Int32) := by
  rw [own_bv, if_pos ((own_sh x 4 4 (by decide) (by decide)).mp h)]
theorem own_ref0 (x : Int32) (h : ¬ ((XT.ushr x (4 : Int32)) &&& (1 : Int32)) = (1 : Int32)) : own_bit x = (0 : Int32) := by
  rw [own_bv, if_neg (fun q => h ((own_sh x 4 4 (by decide) (by decide)).mpr q))]
theorem own_flip (x : Int32) : ¬ own_bit x = own_bit (x ^^^ (16 : Int32)) := by
  rw [own_bv, own_bv, Int32.toBitVec_xor, BitVec.getLsbD_xor, show (16 : Int32).toBitVec.getLsbD 4 = true from by decide]
  cases x.toBitVec.getLsbD 4 <;> decide
theorem own_keep (x y : Int32) : own_bit x = own_bit (x ^^^ (y &&& (-17 : Int32))) := by
  rw [own_bv, own_bv, Int32.toBitVec_xor, BitVec.getLsbD_xor, Int32.toBitVec_and, BitVec.getLsbD_and, show (-17 : Int32).toBitVec.getLsbD 4 = false from by decide, Bool.and_false, Bool.xor_false]
set_option maxRecDepth 65536 in
set_option maxHeartbeats 40000000 in
theorem rm_law (l : Launch) (Z : State) (a0 : Array Value) (hw : ∀ d ∈ tables_1, d.before a0 Z = true) (ws : List Jvm.Cond) (flags ot ps tm : Int32) (n0 : Nat) (h0 : Heap) (Z0 : n0 ≤ h0.size) :
    MetFree l x (head1 (Jvm.Cond.code x code maxLocals ret :: ws) room_1) (fun a U => a = #[(.int flags), (.int ot), (.int ps), (.int tm)] ∧ Z.Warmed39 U.vm ∧ U.heap = h0) (fun _ _ _ _ _ => True) (fun _ U o U' => ∃ v L, o = .returned v ∧ (own_one n0) v U'.heap L ∧ FrameEnd U o U' L 3 9) := by
  refine MetFree.of_bodySF (plainFor_of_name pn_2) hisR ?_
  intro p e s m args below meth c s₁ Bd hml0 hP hK
  obtain ⟨rfl, hZ, hh⟩ := hP
  have hx := Bd.exec
  have hby := Bd.bytes
  have hml : c.maxLocals = 8 := hml0
  have hown : s.vm.findClass "com/example/store_and_forward/storeandforward/wire/BaseHeaderSessionHeaderPinLaw" = some m.cls := findClass_of_methodNamed Bd.named
  have hnm := (name_of_methodNamed Bd.named Bd.method).1
  have hlk : meth.locks = false := BodyLoose.notSynchronized Bd
  have X0 : Stand p l e room_1 s m #[(.int flags), (.int ot), (.int ps), (.int tm)] below meth c s₁ [] 0 0 := Stand.of_body Bd
  have e0 : s₁.heap = h0 := by rw [← hh, Bd.state]; rfl
  have N0 := Fr.nil n0
  show Goes p e below s (own_one n0) 3 9 s₁ (entryFrame m #[(.int flags), (.int ot), (.int ps), (.int tm)] maxLocals)
  rw [ef_law m flags ot ps tm]
  obtain ⟨T1, h1, X1, e1, E1, A1, D1, -, st1⟩ := newO X0 hx hZ hown (hw _ (List.mem_of_getElem? (i := 0) rfl)) (hw _ (List.mem_of_getElem? (i := 1) rfl)) (hw _ (List.mem_of_getElem? (i := 2) rfl)) e0 (g := (mkF m 0 #[.val (.int flags), .val (.int ot), .val (.int ps), .val (.int tm), .unset, .unset, .unset, .unset] [])) rfl (hb hby at_0) (by decide) (by decide)
  obtain ⟨ad1, g1⟩ : ∃ z, z = h0.size := ⟨_, rfl⟩
  rw [← g1] at A1 D1 st1
  have gn_ad1 : n0 ≤ ad1 := Nat.le_trans Z0 (Nat.le_of_eq g1.symm)
  have Z0_1 : n0 ≤ h1.size := Nat.le_trans Z0 E1.1
  have F_flags_ad1 : Fld Z h1 ad1 "com/example/store_and_forward/storeandforward/wire/BaseHeader" "flags" "I" (.int (0 : Int32)) := D1 (Or.inr (hw _ (List.mem_of_getElem? (i := 15) rfl))) (ty := .int) (by decide)
  have F_packetSize_ad1 : Fld Z h1 ad1 "com/example/store_and_forward/storeandforward/wire/BaseHeader" "packetSize" "I" (.int (0 : Int32)) := D1 (Or.inr (hw _ (List.mem_of_getElem? (i := 17) rfl))) (ty := .int) (by decide)
  have F_timeToReachQueue_ad1 : Fld Z h1 ad1 "com/example/store_and_forward/storeandforward/wire/BaseHeader" "timeToReachQueue" "I" (.int (0 : Int32)) := D1 (Or.inr (hw _ (List.mem_of_getElem? (i := 19) rfl))) (ty := .int) (by decide)
  refine own_go (T' := T1) (g' := (mkF m 3 #[.val (.int flags), .val (.int ot), .val (.int ps), .val (.int tm), .unset, .unset, .unset, .unset] [(.ref ad1)])) (fun t_ K => st1 _ K) ?_
  refine own_go (T' := T1) (g' := (mkF m 4 #[.val (.int flags), .val (.int ot), .val (.int ps), .val (.int tm), .unset, .unset, .unset, .unset] [(.ref ad1), (.ref ad1)])) (fun t_ K => XS.dup X1.here hx rfl (hb hby at_3) rfl rfl K) ?_
  refine own_go (T' := T1) (g' := (mkF m 5 #[.val (.int flags), .val (.int ot), .val (.int ps), .val (.int tm), .unset, .unset, .unset, .unset] [(.int flags), (.ref ad1), (.ref ad1)])) (fun t_ K => XS.iloadN X1.here hx rfl (hb hby at_4) rfl K) ?_
  refine own_go (T' := T1) (g' := (mkF m 6 #[.val (.int flags), .val (.int ot), .val (.int ps), .val (.int tm), .unset, .unset, .unset, .unset] [(.int ps), (.int flags), (.ref ad1), (.ref ad1)])) (fun t_ K => XS.iloadN X1.here hx rfl (hb hby at_5) rfl K) ?_
  refine own_go (T' := T1) (g' := (mkF m 7 #[.val (.int flags), .val (.int ot), .val (.int ps), .val (.int tm), .unset, .unset, .unset, .unset] [(.int tm), (.int ps), (.int flags), (.ref ad1), (.ref ad1)])) (fun t_ K => XS.iloadN X1.here hx rfl (hb hby at_6) rfl K) ?_
  obtain ⟨_, _, ⟨T2, L2, k2, n2⟩, -, X2, ⟨Lc2, hQ2, l2, y2, z2⟩, st2⟩ := X1.specialBack hx (y := (⟨"com/example/store_and_forward/storeandforward/wire/BaseHeader", "<init>", "(III)V"⟩ : MethodName)) rfl hown (mvT hZ (hw _ (List.mem_of_getElem? (i := 3) rfl))) (mvT hZ (hw _ (List.mem_of_getElem? (i := 4) rfl))) (mvT hZ (hw _ (List.mem_of_getElem? (i := 5) rfl))) (by decide) (backOf (W := 1) (rm_ini l Z a0 hw ad1 flags ps tm n0 h1 gn_ad1 A1 F_flags_ad1 F_packetSize_ad1 F_timeToReachQueue_ad1) hZ (hw _ (List.mem_of_getElem? (i := 5) rfl)) (hw _ (List.mem_of_getElem? (i := 2) rfl)) (by decide) (by decide)) (g := (mkF m 7 #[.val (.int flags), .val (.int ot), .val (.int ps), .val (.int tm), .unset, .unset, .unset, .unset] [(.int tm), (.int ps), (.int flags), (.ref ad1), (.ref ad1)])) rfl (by rw [hml]; rfl) (Steps.refl _) (a := ad1) (argsL := [(.int flags), (.int ps), (.int tm)]) (rest := [(.ref ad1)]) (lenOf pd_1 rfl) rfl (by show 2 * 0 + _ ≤ _; exact Nat.le_of_eq rfl) (hb hby at_7) (fun _ _ => ⟨rfl, e1, (by decide : 1 + 0 ≤ _), (by decide : 3 + 0 ≤ _)⟩)
  dsimp only [Pt.U, Pt.locs, Pt.cells, Pt.slots] at X2 l2 y2 z2 st2 hQ2
  subst l2 y2 z2
  obtain ⟨rfl, N2q, K2, Fl2⟩ := hQ2
  have e2 : T2.heap = T2.heap := rfl
  have A1_2 := A1.keep K2
  have Z0_2 : n0 ≤ T2.heap.size := Nat.le_trans Z0_1 K2.1
  have N_2 := Fr.app N0 N2q
  refine own_tr (T' := T2) (g' := (mkF m 10 #[.val (.int flags), .val (.int ot), .val (.int ps), .val (.int tm), .unset, .unset, .unset, .unset] [(.ref ad1)])) st2 ?_
  obtain ⟨T3, X3, e3, st3⟩ := own_callV (W := 0) (rm := { frames := 0, cells := 0, slots := 0, locals := 0 }) X2 hx hZ hown (hw _ (List.mem_of_getElem? (i := 20) rfl)) (hw _ (List.mem_of_getElem? (i := 21) rfl)) (hw _ (List.mem_of_getElem? (i := 23) rfl)) (notFace_of_selects (args := #[]) (mvT hZ (hw _ (List.mem_of_getElem? (i := 23) rfl)))) (hw _ (List.mem_of_getElem? (i := 22) rfl)) (hw _ (List.mem_of_getElem? (i := 2) rfl)) (hw _ (List.mem_of_getElem? (i := 24) rfl)) (by decide) e2 A1_2 (argsL := []) (rest := []) (r := some (.int (own_bit flags))) (rm_tst l Z a0 hw ad1 flags T2.heap Fl2) rfl rfl (by decide) (by decide) (by decide) (by decide) (g := (mkF m 10 #[.val (.int flags), .val (.int ot), .val (.int ps), .val (.int tm), .unset, .unset, .unset, .unset] [(.ref ad1)])) rfl (by rw [hml]; rfl) (lenOf pd_2 rfl) rfl (by show 2 * 0 + _ ≤ _; exact Nat.le_of_eq rfl) (hb hby at_10)
  refine own_go (T' := T3) (g' := (mkF m 13 #[.val (.int flags), .val (.int ot), .val (.int ps), .val (.int tm), .unset, .unset, .unset, .unset] [(.int (own_bit flags))])) (fun t_ K => st3 _ K) ?_
  refine own_go (T' := T3) (g' := (mkF m 15 #[.val (.int flags), .val (.int ot), .val (.int ps), .val (.int tm), .val (.int (own_bit flags)), .unset, .unset, .unset] [])) (fun t_ K => XS.istore X3.here hx rfl (hb hby at_13) rfl (l' := #[.val (.int flags), .val (.int ot), .val (.int ps), .val (.int tm), .val (.int (own_bit flags)), .unset, .unset, .unset]) rfl K) ?_
  obtain ⟨T4, h4, X4, e4, E4, A4, D4, -, st4⟩ := newO X3 hx hZ hown (hw _ (List.mem_of_getElem? (i := 0) rfl)) (hw _ (List.mem_of_getElem? (i := 1) rfl)) (hw _ (List.mem_of_getElem? (i := 2) rfl)) e3 (g := (mkF m 15 #[.val (.int flags), .val (.int ot), .val (.int ps), .val (.int tm), .val (.int (own_bit flags)), .unset, .unset, .unset] [])) rfl (hb hby at_15) (by decide) (by decide)
  obtain ⟨ad4, g4⟩ : ∃ z, z = T2.heap.size := ⟨_, rfl⟩
  rw [← g4] at A4 D4 st4
  have gn_ad4 : n0 ≤ ad4 := Nat.le_trans Z0_2 (Nat.le_of_eq g4.symm)
  have ne_ad1_ad4 : ad1 ≠ ad4 := Nat.ne_of_lt (Nat.lt_of_lt_of_le A1_2.lt (Nat.le_of_eq g4.symm))
  have A1_4 := A1_2.ext E4
  have Fl2_4 := Fl2.ext E4
  have Z0_4 : n0 ≤ h4.size := Nat.le_trans Z0_2 E4.1
  have F_flags_ad4 : Fld Z h4 ad4 "com/example/store_and_forward/storeandforward/wire/BaseHeader" "flags" "I" (.int (0 : Int32)) := D4 (Or.inr (hw _ (List.mem_of_getElem? (i := 15) rfl))) (ty := .int) (by decide)
  have F_packetSize_ad4 : Fld Z h4 ad4 "com/example/store_and_forward/storeandforward/wire/BaseHeader" "packetSize" "I" (.int (0 : Int32)) := D4 (Or.inr (hw _ (List.mem_of_getElem? (i := 17) rfl))) (ty := .int) (by decide)
  have F_timeToReachQueue_ad4 : Fld Z h4 ad4 "com/example/store_and_forward/storeandforward/wire/BaseHeader" "timeToReachQueue" "I" (.int (0 : Int32)) := D4 (Or.inr (hw _ (List.mem_of_getElem? (i := 19) rfl))) (ty := .int) (by decide)
  refine own_go (T' := T4) (g' := (mkF m 18 #[.val (.int flags), .val (.int ot), .val (.int ps), .val (.int tm), .val (.int (own_bit flags)), .unset, .unset, .unset] [(.ref ad4)])) (fun t_ K => st4 _ K) ?_
  refine own_go (T' := T4) (g' := (mkF m 19 #[.val (.int flags), .val (.int ot), .val (.int ps), .val (.int tm), .val (.int (own_bit flags)), .unset, .unset, .unset] [(.ref ad4), (.ref ad4)])) (fun t_ K => XS.dup X4.here hx rfl (hb hby at_18) rfl rfl K) ?_
  refine own_go (T' := T4) (g' := (mkF m 20 #[.val (.int flags), .val (.int ot), .val (.int ps), .val (.int tm), .val (.int (own_bit flags)), .unset, .unset, .unset] [(.int flags), (.ref ad4), (.ref ad4)])) (fun t_ K => XS.iloadN X4.here hx rfl (hb hby at_19) rfl K) ?_
  refine own_go (T' := T4) (g' := (mkF m 22 #[.val (.int flags), .val (.int ot), .val (.int ps), .val (.int tm), .val (.int (own_bit flags)), .unset, .unset, .unset] [(.int (16 : Int32)), (.int flags), (.ref ad4), (.ref ad4)])) (fun t_ K => XS.bipush X4.here hx rfl (hb hby at_20) K) ?_
  refine own_go (T' := T4) (g' := (mkF m 23 #[.val (.int flags), .val (.int ot), .val (.int ps), .val (.int tm), .val (.int (own_bit flags)), .unset, .unset, .unset] [(.int (flags ^^^ (16 : Int32))), (.ref ad4), (.ref ad4)])) (fun t_ K => XT.ixor X4.here hx rfl (hb hby at_22) rfl K) ?_
  refine own_go (T' := T4) (g' := (mkF m 24 #[.val (.int flags), .val (.int ot), .val (.int ps), .val (.int tm), .val (.int (own_bit flags)), .unset, .unset, .unset] [(.int ps), (.int (flags ^^^ (16 : Int32))), (.ref ad4), (.ref ad4)])) (fun t_ K => XS.iloadN X4.here hx rfl (hb hby at_23) rfl K) ?_
  refine own_go (T' := T4) (g' := (mkF m 25 #[.val (.int flags), .val (.int ot), .val (.int ps), .val (.int tm), .val (.int (own_bit flags)), .unset, .unset, .unset] [(.int tm), (.int ps), (.int (flags ^^^ (16 : Int32))), (.ref ad4), (.ref ad4)])) (fun t_ K => XS.iloadN X4.here hx rfl (hb hby at_24) rfl K) ?_
  obtain ⟨_, _, ⟨T5, L5, k5, n5⟩, -, X5, ⟨Lc5, hQ5, l5, y5, z5⟩, st5⟩ := X4.specialBack hx (y := (⟨"com/example/store_and_forward/storeandforward/wire/BaseHeader", "<init>", "(III)V"⟩ : MethodName)) rfl hown (mvT hZ (hw _ (List.mem_of_getElem? (i := 3) rfl))) (mvT hZ (hw _ (List.mem_of_getElem? (i := 4) rfl))) (mvT hZ (hw _ (List.mem_of_getElem? (i := 5) rfl))) (by decide) (backOf (W := 1) (rm_ini l Z a0 hw ad4 (flags ^^^ (16 : Int32)) ps tm n0 h4 gn_ad4 A4 F_flags_ad4 F_packetSize_ad4 F_timeToReachQueue_ad4) hZ (hw _ (List.mem_of_getElem? (i := 5) rfl)) (hw _ (List.mem_of_getElem? (i := 2) rfl)) (by decide) (by decide)) (g := (mkF m 25 #[.val (.int flags), .val (.int ot), .val (.int ps), .val (.int tm), .val (.int (own_bit flags)), .unset, .unset, .unset] [(.int tm), (.int ps), (.int (flags ^^^ (16 : Int32))), (.ref ad4), (.ref ad4)])) rfl (by rw [hml]; rfl) (Steps.refl _) (a := ad4) (argsL := [(.int (flags ^^^ (16 : Int32))), (.int ps), (.int tm)]) (rest := [(.ref ad4)]) (lenOf pd_1 rfl) rfl (by show 2 * 0 + _ ≤ _; exact Nat.le_of_eq rfl) (hb hby at_25) (fun _ _ => ⟨rfl, e4, (by decide : 2 + 0 ≤ _), (by decide : 6 + 0 ≤ _)⟩)
  dsimp only [Pt.U, Pt.locs, Pt.cells, Pt.slots] at X5 l5 y5 z5 st5 hQ5
  subst l5 y5 z5
  obtain ⟨rfl, N5q, K5, Fl5⟩ := hQ5
  have e5 : T5.heap = T5.heap := rfl
  have A1_5 := A1_4.keep K5
  have Fl2_5 := Fl2_4.keep K5 (ninS ne_ad1_ad4 nin0)
  have A4_5 := A4.keep K5
  have Z0_5 : n0 ≤ T5.heap.size := Nat.le_trans Z0_4 K5.1
  have N_5 := Fr.app N_2 N5q
  refine own_tr (T' := T5) (g' := (mkF m 28 #[.val (.int flags), .val (.int ot), .val (.int ps), .val (.int tm), .val (.int (own_bit flags)), .unset, .unset, .unset] [(.ref ad4)])) st5 ?_
  obtain ⟨T6, X6, e6, st6⟩ := own_callV (W := 0) (rm := { frames := 0, cells := 0, slots := 0, locals := 0 }) X5 hx hZ hown (hw _ (List.mem_of_getElem? (i := 20) rfl)) (hw _ (List.mem_of_getElem? (i := 21) rfl)) (hw _ (List.mem_of_getElem? (i := 23) rfl)) (notFace_of_selects (args := #[]) (mvT hZ (hw _ (List.mem_of_getElem? (i := 23) rfl)))) (hw _ (List.mem_of_getElem? (i := 22) rfl)) (hw _ (List.mem_of_getElem? (i := 2) rfl)) (hw _ (List.mem_of_getElem? (i := 24) rfl)) (by decide) e5 A4_5 (argsL := []) (rest := []) (r := some (.int (own_bit (flags ^^^ (16 : Int32))))) (rm_tst l Z a0 hw ad4 (flags ^^^ (16 : Int32)) T5.heap Fl5) rfl rfl (by decide) (by decide) (by decide) (by decide) (g := (mkF m 28 #[.val (.int flags), .val (.int ot), .val (.int ps), .val (.int tm), .val (.int (own_bit flags)), .unset, .unset, .unset] [(.ref ad4)])) rfl (by rw [hml]; rfl) (lenOf pd_2 rfl) rfl (by show 2 * 0 + _ ≤ _; exact Nat.le_of_eq rfl) (hb hby at_28)
  refine own_go (T' := T6) (g' := (mkF m 31 #[.val (.int flags), .val (.int ot), .val (.int ps), .val (.int tm), .val (.int (own_bit flags)), .unset, .unset, .unset] [(.int (own_bit (flags ^^^ (16 : Int32))))])) (fun t_ K => st6 _ K) ?_
  refine own_go (T' := T6) (g' := (mkF m 33 #[.val (.int flags), .val (.int ot), .val (.int ps), .val (.int tm), .val (.int (own_bit flags)), .val (.int (own_bit (flags ^^^ (16 : Int32)))), .unset, .unset] [])) (fun t_ K => XS.istore X6.here hx rfl (hb hby at_31) rfl (l' := #[.val (.int flags), .val (.int ot), .val (.int ps), .val (.int tm), .val (.int (own_bit flags)), .val (.int (own_bit (flags ^^^ (16 : Int32)))), .unset, .unset]) rfl K) ?_
  obtain ⟨T7, h7, X7, e7, E7, A7, D7, -, st7⟩ := newO X6 hx hZ hown (hw _ (List.mem_of_getElem? (i := 0) rfl)) (hw _ (List.mem_of_getElem? (i := 1) rfl)) (hw _ (List.mem_of_getElem? (i := 2) rfl)) e6 (g := (mkF m 33 #[.val (.int flags), .val (.int ot), .val (.int ps), .val (.int tm), .val (.int (own_bit flags)), .val (.int (own_bit (flags ^^^ (16 : Int32)))), .unset, .unset] [])) rfl (hb hby at_33) (by decide) (by decide)
  obtain ⟨ad7, g7⟩ : ∃ z, z = T5.heap.size := ⟨_, rfl⟩
  rw [← g7] at A7 D7 st7
  have gn_ad7 : n0 ≤ ad7 := Nat.le_trans Z0_5 (Nat.le_of_eq g7.symm)
  have ne_ad1_ad7 : ad1 ≠ ad7 := Nat.ne_of_lt (Nat.lt_of_lt_of_le A1_5.lt (Nat.le_of_eq g7.symm))
  have ne_ad4_ad7 : ad4 ≠ ad7 := Nat.ne_of_lt (Nat.lt_of_lt_of_le A4_5.lt (Nat.le_of_eq g7.symm))
  have A1_7 := A1_5.ext E7
  have Fl2_7 := Fl2_5.ext E7
  have A4_7 := A4_5.ext E7
  have Fl5_7 := Fl5.ext E7
  have Z0_7 : n0 ≤ h7.size := Nat.le_trans Z0_5 E7.1
  have F_flags_ad7 : Fld Z h7 ad7 "com/example/store_and_forward/storeandforward/wire/BaseHeader" "flags" "I" (.int (0 : Int32)) := D7 (Or.inr (hw _ (List.mem_of_getElem? (i := 15) rfl))) (ty := .int) (by decide)
  have F_packetSize_ad7 : Fld Z h7 ad7 "com/example/store_and_forward/storeandforward/wire/BaseHeader" "packetSize" "I" (.int (0 : Int32)) := D7 (Or.inr (hw _ (List.mem_of_getElem? (i := 17) rfl))) (ty := .int) (by decide)
  have F_timeToReachQueue_ad7 : Fld Z h7 ad7 "com/example/store_and_forward/storeandforward/wire/BaseHeader" "timeToReachQueue" "I" (.int (0 : Int32)) := D7 (Or.inr (hw _ (List.mem_of_getElem? (i := 19) rfl))) (ty := .int) (by decide)
  refine own_go (T' := T7) (g' := (mkF m 36 #[.val (.int flags), .val (.int ot), .val (.int ps), .val (.int tm), .val (.int (own_bit flags)), .val (.int (own_bit (flags ^^^ (16 : Int32)))), .unset, .unset] [(.ref ad7)])) (fun t_ K => st7 _ K) ?_
  refine own_go (T' := T7) (g' := (mkF m 37 #[.val (.int flags), .val (.int ot), .val (.int ps), .val (.int tm), .val (.int (own_bit flags)), .val (.int (own_bit (flags ^^^ (16 : Int32)))), .unset, .unset] [(.ref ad7), (.ref ad7)])) (fun t_ K => XS.dup X7.here hx rfl (hb hby at_36) rfl rfl K) ?_
  refine own_go (T' := T7) (g' := (mkF m 38 #[.val (.int flags), .val (.int ot), .val (.int ps), .val (.int tm), .val (.int (own_bit flags)), .val (.int (own_bit (flags ^^^ (16 : Int32)))), .unset, .unset] [(.int flags), (.ref ad7), (.ref ad7)])) (fun t_ K => XS.iloadN X7.here hx rfl (hb hby at_37) rfl K) ?_
  refine own_go (T' := T7) (g' := (mkF m 39 #[.val (.int flags), .val (.int ot), .val (.int ps), .val (.int tm), .val (.int (own_bit flags)), .val (.int (own_bit (flags ^^^ (16 : Int32)))), .unset, .unset] [(.int ot), (.int flags), (.ref ad7), (.ref ad7)])) (fun t_ K => XS.iloadN X7.here hx rfl (hb hby at_38) rfl K) ?_
  refine own_go (T' := T7) (g' := (mkF m 41 #[.val (.int flags), .val (.int ot), .val (.int ps), .val (.int tm), .val (.int (own_bit flags)), .val (.int (own_bit (flags ^^^ (16 : Int32)))), .unset, .unset] [(.int (-17 : Int32)), (.int ot), (.int flags), (.ref ad7), (.ref ad7)])) (fun t_ K => XS.bipush X7.here hx rfl (hb hby at_39) K) ?_
  refine own_go (T' := T7) (g' := (mkF m 42 #[.val (.int flags), .val (.int ot), .val (.int ps), .val (.int tm), .val (.int (own_bit flags)), .val (.int (own_bit (flags ^^^ (16 : Int32)))), .unset, .unset] [(.int (ot &&& (-17 : Int32))), (.int flags), (.ref ad7), (.ref ad7)])) (fun t_ K => XS.iand X7.here hx rfl (hb hby at_41) rfl K) ?_
  refine own_go (T' := T7) (g' := (mkF m 43 #[.val (.int flags), .val (.int ot), .val (.int ps), .val (.int tm), .val (.int (own_bit flags)), .val (.int (own_bit (flags ^^^ (16 : Int32)))), .unset, .unset] [(.int (flags ^^^ (ot &&& (-17 : Int32)))), (.ref ad7), (.ref ad7)])) (fun t_ K => XT.ixor X7.here hx rfl (hb hby at_42) rfl K) ?_
  refine own_go (T' := T7) (g' := (mkF m 44 #[.val (.int flags), .val (.int ot), .val (.int ps), .val (.int tm), .val (.int (own_bit flags)), .val (.int (own_bit (flags ^^^ (16 : Int32)))), .unset, .unset] [(.int tm), (.int (flags ^^^ (ot &&& (-17 : Int32)))), (.ref ad7), (.ref ad7)])) (fun t_ K => XS.iloadN X7.here hx rfl (hb hby at_43) rfl K) ?_
  refine own_go (T' := T7) (g' := (mkF m 45 #[.val (.int flags), .val (.int ot), .val (.int ps), .val (.int tm), .val (.int (own_bit flags)), .val (.int (own_bit (flags ^^^ (16 : Int32)))), .unset, .unset] [(.int ps), (.int tm), (.int (flags ^^^ (ot &&& (-17 : Int32)))), (.ref ad7), (.ref ad7)])) (fun t_ K => XS.iloadN X7.here hx rfl (hb hby at_44) rfl K) ?_
  obtain ⟨_, _, ⟨T8, L8, k8, n8⟩, -, X8, ⟨Lc8, hQ8, l8, y8, z8⟩, st8⟩ := X7.specialBack hx (y := (⟨"com/example/store_and_forward/storeandforward/wire/BaseHeader", "<init>", "(III)V"⟩ : MethodName)) rfl hown (mvT hZ (hw _ (List.mem_of_getElem? (i := 3) rfl))) (mvT hZ (hw _ (List.mem_of_getElem? (i := 4) rfl))) (mvT hZ (hw _ (List.mem_of_getElem? (i := 5) rfl))) (by decide) (backOf (W := 1) (rm_ini l Z a0 hw ad7 (flags ^^^ (ot &&& (-17 : Int32))) tm ps n0 h7 gn_ad7 A7 F_flags_ad7 F_packetSize_ad7 F_timeToReachQueue_ad7) hZ (hw _ (List.mem_of_getElem? (i := 5) rfl)) (hw _ (List.mem_of_getElem? (i := 2) rfl)) (by decide) (by decide)) (g := (mkF m 45 #[.val (.int flags), .val (.int ot), .val (.int ps), .val (.int tm), .val (.int (own_bit flags)), .val (.int (own_bit (flags ^^^ (16 : Int32)))), .unset, .unset] [(.int ps), (.int tm), (.int (flags ^^^ (ot &&& (-17 : Int32)))), (.ref ad7), (.ref ad7)])) rfl (by rw [hml]; rfl) (Steps.refl _) (a := ad7) (argsL := [(.int (flags ^^^ (ot &&& (-17 : Int32)))), (.int tm), (.int ps)]) (rest := [(.ref ad7)]) (lenOf pd_1 rfl) rfl (by show 2 * 0 + _ ≤ _; exact Nat.le_of_eq rfl) (hb hby at_45) (fun _ _ => ⟨rfl, e7, (by decide : 3 + 0 ≤ _), (by decide : 9 + 0 ≤ _)⟩)
  dsimp only [Pt.U, Pt.locs, Pt.cells, Pt.slots] at X8 l8 y8 z8 st8 hQ8
  subst l8 y8 z8
  obtain ⟨rfl, N8q, K8, Fl8⟩ := hQ8
  have e8 : T8.heap = T8.heap := rfl
  have A1_8 := A1_7.keep K8
  have Fl2_8 := Fl2_7.keep K8 (ninS ne_ad1_ad7 nin0)
  have A4_8 := A4_7.keep K8
  have Fl5_8 := Fl5_7.keep K8 (ninS ne_ad4_ad7 nin0)
  have A7_8 := A7.keep K8
  have Z0_8 : n0 ≤ T8.heap.size := Nat.le_trans Z0_7 K8.1
  have N_8 := Fr.app N_5 N8q
  refine own_tr (T' := T8) (g' := (mkF m 48 #[.val (.int flags), .val (.int ot), .val (.int ps), .val (.int tm), .val (.int (own_bit flags)), .val (.int (own_bit (flags ^^^ (16 : Int32)))), .unset, .unset] [(.ref ad7)])) st8 ?_
  obtain ⟨T9, X9, e9, st9⟩ := own_callV (W := 0) (rm := { frames := 0, cells := 0, slots := 0, locals := 0 }) X8 hx hZ hown (hw _ (List.mem_of_getElem? (i := 20) rfl)) (hw _ (List.mem_of_getElem? (i := 21) rfl)) (hw _ (List.mem_of_getElem? (i := 23) rfl)) (notFace_of_selects (args := #[]) (mvT hZ (hw _ (List.mem_of_getElem? (i := 23) rfl)))) (hw _ (List.mem_of_getElem? (i := 22) rfl)) (hw _ (List.mem_of_getElem? (i := 2) rfl)) (hw _ (List.mem_of_getElem? (i := 24) rfl)) (by decide) e8 A7_8 (argsL := []) (rest := []) (r := some (.int (own_bit (flags ^^^ (ot &&& (-17 : Int32)))))) (rm_tst l Z a0 hw ad7 (flags ^^^ (ot &&& (-17 : Int32))) T8.heap Fl8) rfl rfl (by decide) (by decide) (by decide) (by decide) (g := (mkF m 48 #[.val (.int flags), .val (.int ot), .val (.int ps), .val (.int tm), .val (.int (own_bit flags)), .val (.int (own_bit (flags ^^^ (16 : Int32)))), .unset, .unset] [(.ref ad7)])) rfl (by rw [hml]; rfl) (lenOf pd_2 rfl) rfl (by show 2 * 0 + _ ≤ _; exact Nat.le_of_eq rfl) (hb hby at_48)
  refine own_go (T' := T9) (g' := (mkF m 51 #[.val (.int flags), .val (.int ot), .val (.int ps), .val (.int tm), .val (.int (own_bit flags)), .val (.int (own_bit (flags ^^^ (16 : Int32)))), .unset, .unset] [(.int (own_bit (flags ^^^ (ot &&& (-17 : Int32)))))])) (fun t_ K => st9 _ K) ?_
  refine own_go (T' := T9) (g' := (mkF m 53 #[.val (.int flags), .val (.int ot), .val (.int ps), .val (.int tm), .val (.int (own_bit flags)), .val (.int (own_bit (flags ^^^ (16 : Int32)))), .val (.int (own_bit (flags ^^^ (ot &&& (-17 : Int32))))), .unset] [])) (fun t_ K => XS.istore X9.here hx rfl (hb hby at_51) rfl (l' := #[.val (.int flags), .val (.int ot), .val (.int ps), .val (.int tm), .val (.int (own_bit flags)), .val (.int (own_bit (flags ^^^ (16 : Int32)))), .val (.int (own_bit (flags ^^^ (ot &&& (-17 : Int32))))), .unset]) rfl K) ?_
  refine own_go (T' := T9) (g' := (mkF m 54 #[.val (.int flags), .val (.int ot), .val (.int ps), .val (.int tm), .val (.int (own_bit flags)), .val (.int (own_bit (flags ^^^ (16 : Int32)))), .val (.int (own_bit (flags ^^^ (ot &&& (-17 : Int32))))), .unset] [(.int flags)])) (fun t_ K => XS.iloadN X9.here hx rfl (hb hby at_53) rfl K) ?_
  refine own_go (T' := T9) (g' := (mkF m 55 #[.val (.int flags), .val (.int ot), .val (.int ps), .val (.int tm), .val (.int (own_bit flags)), .val (.int (own_bit (flags ^^^ (16 : Int32)))), .val (.int (own_bit (flags ^^^ (ot &&& (-17 : Int32))))), .unset] [(.int (4 : Int32)), (.int flags)])) (fun t_ K => XS.iconst X9.here hx rfl (hb hby at_54) K) ?_
  refine own_go (T' := T9) (g' := (mkF m 56 #[.val (.int flags), .val (.int ot), .val (.int ps), .val (.int tm), .val (.int (own_bit flags)), .val (.int (own_bit (flags ^^^ (16 : Int32)))), .val (.int (own_bit (flags ^^^ (ot &&& (-17 : Int32))))), .unset] [(.int (XT.ushr flags (4 : Int32)))])) (fun t_ K => XT.iushr X9.here hx rfl (hb hby at_55) rfl K) ?_
  refine own_go (T' := T9) (g' := (mkF m 57 #[.val (.int flags), .val (.int ot), .val (.int ps), .val (.int tm), .val (.int (own_bit flags)), .val (.int (own_bit (flags ^^^ (16 : Int32)))), .val (.int (own_bit (flags ^^^ (ot &&& (-17 : Int32))))), .unset] [(.int (1 : Int32)), (.int (XT.ushr flags (4 : Int32)))])) (fun t_ K => XS.iconst X9.here hx rfl (hb hby at_56) K) ?_
  refine own_go (T' := T9) (g' := (mkF m 58 #[.val (.int flags), .val (.int ot), .val (.int ps), .val (.int tm), .val (.int (own_bit flags)), .val (.int (own_bit (flags ^^^ (16 : Int32)))), .val (.int (own_bit (flags ^^^ (ot &&& (-17 : Int32))))), .unset] [(.int ((XT.ushr flags (4 : Int32)) &&& (1 : Int32)))])) (fun t_ K => XS.iand X9.here hx rfl (hb hby at_57) rfl K) ?_
  refine own_go (T' := T9) (g' := (mkF m 59 #[.val (.int flags), .val (.int ot), .val (.int ps), .val (.int tm), .val (.int (own_bit flags)), .val (.int (own_bit (flags ^^^ (16 : Int32)))), .val (.int (own_bit (flags ^^^ (ot &&& (-17 : Int32))))), .unset] [(.int (1 : Int32)), (.int ((XT.ushr flags (4 : Int32)) &&& (1 : Int32)))])) (fun t_ K => XS.iconst X9.here hx rfl (hb hby at_58) K) ?_
  by_cases c59 : ((XT.ushr flags (4 : Int32)) &&& (1 : Int32)) = (1 : Int32)
  · refine own_go (T' := T9) (g' := (mkF m 62 #[.val (.int flags), .val (.int ot), .val (.int ps), .val (.int tm), .val (.int (own_bit flags)), .val (.int (own_bit (flags ^^^ (16 : Int32)))), .val (.int (own_bit (flags ^^^ (ot &&& (-17 : Int32))))), .unset] [])) (fun t_ K => XS.icmpNo X9.here hx rfl (hb hby at_59) rfl (teq c59).2 K) ?_
    refine own_go (T' := T9) (g' := (mkF m 63 #[.val (.int flags), .val (.int ot), .val (.int ps), .val (.int tm), .val (.int (own_bit flags)), .val (.int (own_bit (flags ^^^ (16 : Int32)))), .val (.int (own_bit (flags ^^^ (ot &&& (-17 : Int32))))), .unset] [(.int (1 : Int32))])) (fun t_ K => XS.iconst X9.here hx rfl (hb hby at_62) K) ?_
    refine own_go (T' := T9) (g' := (mkF m 67 #[.val (.int flags), .val (.int ot), .val (.int ps), .val (.int tm), .val (.int (own_bit flags)), .val (.int (own_bit (flags ^^^ (16 : Int32)))), .val (.int (own_bit (flags ^^^ (ot &&& (-17 : Int32))))), .unset] [(.int (1 : Int32))])) (fun t_ K => XS.goto X9.here hx rfl (pc0 := 63) (pc' := 67) rfl (hb hby at_63) (by decide) (by decide) K) ?_
    refine own_go (T' := T9) (g' := (mkF m 69 #[.val (.int flags), .val (.int ot), .val (.int ps), .val (.int tm), .val (.int (own_bit flags)), .val (.int (own_bit (flags ^^^ (16 : Int32)))), .val (.int (own_bit (flags ^^^ (ot &&& (-17 : Int32))))), .val (.int (1 : Int32))] [])) (fun t_ K => XS.istore X9.here hx rfl (hb hby at_67) rfl (l' := #[.val (.int flags), .val (.int ot), .val (.int ps), .val (.int tm), .val (.int (own_bit flags)), .val (.int (own_bit (flags ^^^ (16 : Int32)))), .val (.int (own_bit (flags ^^^ (ot &&& (-17 : Int32))))), .val (.int (1 : Int32))]) rfl K) ?_
    refine own_go (T' := T9) (g' := (mkF m 71 #[.val (.int flags), .val (.int ot), .val (.int ps), .val (.int tm), .val (.int (own_bit flags)), .val (.int (own_bit (flags ^^^ (16 : Int32)))), .val (.int (own_bit (flags ^^^ (ot &&& (-17 : Int32))))), .val (.int (1 : Int32))] [(.int (own_bit flags))])) (fun t_ K => XS.iload X9.here hx rfl (hb hby at_69) rfl K) ?_
    refine own_go (T' := T9) (g' := (mkF m 73 #[.val (.int flags), .val (.int ot), .val (.int ps), .val (.int tm), .val (.int (own_bit flags)), .val (.int (own_bit (flags ^^^ (16 : Int32)))), .val (.int (own_bit (flags ^^^ (ot &&& (-17 : Int32))))), .val (.int (1 : Int32))] [(.int (1 : Int32)), (.int (own_bit flags))])) (fun t_ K => XS.iload X9.here hx rfl (hb hby at_71) rfl K) ?_
    refine own_go (T' := T9) (g' := (mkF m 76 #[.val (.int flags), .val (.int ot), .val (.int ps), .val (.int tm), .val (.int (own_bit flags)), .val (.int (own_bit (flags ^^^ (16 : Int32)))), .val (.int (own_bit (flags ^^^ (ot &&& (-17 : Int32))))), .val (.int (1 : Int32))] [])) (fun t_ K => XS.icmpNo X9.here hx rfl (hb hby at_73) rfl (teq (own_ref1 flags c59)).2 K) ?_
    refine own_go (T' := T9) (g' := (mkF m 78 #[.val (.int flags), .val (.int ot), .val (.int ps), .val (.int tm), .val (.int (own_bit flags)), .val (.int (own_bit (flags ^^^ (16 : Int32)))), .val (.int (own_bit (flags ^^^ (ot &&& (-17 : Int32))))), .val (.int (1 : Int32))] [(.int (own_bit flags))])) (fun t_ K => XS.iload X9.here hx rfl (hb hby at_76) rfl K) ?_
    refine own_go (T' := T9) (g' := (mkF m 80 #[.val (.int flags), .val (.int ot), .val (.int ps), .val (.int tm), .val (.int (own_bit flags)), .val (.int (own_bit (flags ^^^ (16 : Int32)))), .val (.int (own_bit (flags ^^^ (ot &&& (-17 : Int32))))), .val (.int (1 : Int32))] [(.int (own_bit (flags ^^^ (16 : Int32)))), (.int (own_bit flags))])) (fun t_ K => XS.iload X9.here hx rfl (hb hby at_78) rfl K) ?_
    refine own_go (T' := T9) (g' := (mkF m 83 #[.val (.int flags), .val (.int ot), .val (.int ps), .val (.int tm), .val (.int (own_bit flags)), .val (.int (own_bit (flags ^^^ (16 : Int32)))), .val (.int (own_bit (flags ^^^ (ot &&& (-17 : Int32))))), .val (.int (1 : Int32))] [])) (fun t_ K => XS.icmpNo X9.here hx rfl (hb hby at_80) rfl (feq (own_flip flags)).1 K) ?_
    refine own_go (T' := T9) (g' := (mkF m 85 #[.val (.int flags), .val (.int ot), .val (.int ps), .val (.int tm), .val (.int (own_bit flags)), .val (.int (own_bit (flags ^^^ (16 : Int32)))), .val (.int (own_bit (flags ^^^ (ot &&& (-17 : Int32))))), .val (.int (1 : Int32))] [(.int (own_bit flags))])) (fun t_ K => XS.iload X9.here hx rfl (hb hby at_83) rfl K) ?_
    refine own_go (T' := T9) (g' := (mkF m 87 #[.val (.int flags), .val (.int ot), .val (.int ps), .val (.int tm), .val (.int (own_bit flags)), .val (.int (own_bit (flags ^^^ (16 : Int32)))), .val (.int (own_bit (flags ^^^ (ot &&& (-17 : Int32))))), .val (.int (1 : Int32))] [(.int (own_bit (flags ^^^ (ot &&& (-17 : Int32))))), (.int (own_bit flags))])) (fun t_ K => XS.iload X9.here hx rfl (hb hby at_85) rfl K) ?_
    refine own_go (T' := T9) (g' := (mkF m 90 #[.val (.int flags), .val (.int ot), .val (.int ps), .val (.int tm), .val (.int (own_bit flags)), .val (.int (own_bit (flags ^^^ (16 : Int32)))), .val (.int (own_bit (flags ^^^ (ot &&& (-17 : Int32))))), .val (.int (1 : Int32))] [])) (fun t_ K => XS.icmpNo X9.here hx rfl (hb hby at_87) rfl (teq (own_keep flags ot)).2 K) ?_
    refine own_go (T' := T9) (g' := (mkF m 91 #[.val (.int flags), .val (.int ot), .val (.int ps), .val (.int tm), .val (.int (own_bit flags)), .val (.int (own_bit (flags ^^^ (16 : Int32)))), .val (.int (own_bit (flags ^^^ (ot &&& (-17 : Int32))))), .val (.int (1 : Int32))] [(.int (1 : Int32))])) (fun t_ K => XS.iconst X9.here hx rfl (hb hby at_90) K) ?_
    refine own_go (T' := T9) (g' := (mkF m 95 #[.val (.int flags), .val (.int ot), .val (.int ps), .val (.int tm), .val (.int (own_bit flags)), .val (.int (own_bit (flags ^^^ (16 : Int32)))), .val (.int (own_bit (flags ^^^ (ot &&& (-17 : Int32))))), .val (.int (1 : Int32))] [(.int (1 : Int32))])) (fun t_ K => XS.goto X9.here hx rfl (pc0 := 91) (pc' := 95) rfl (hb hby at_91) (by decide) (by decide) K) ?_
    exact own_retZ X9 hx Bd.returns hlk (Or.inr rfl) (hb hby at_95) ⟨rfl, N_8⟩ (by decide) (by decide)
  · refine own_go (T' := T9) (g' := (mkF m 66 #[.val (.int flags), .val (.int ot), .val (.int ps), .val (.int tm), .val (.int (own_bit flags)), .val (.int (own_bit (flags ^^^ (16 : Int32)))), .val (.int (own_bit (flags ^^^ (ot &&& (-17 : Int32))))), .unset] [])) (fun t_ K => XS.icmpYes X9.here hx rfl (pc0 := 59) (pc' := 66) rfl (hb hby at_59) rfl (feq c59).2 (by decide) (by decide) K) ?_
    refine own_go (T' := T9) (g' := (mkF m 67 #[.val (.int flags), .val (.int ot), .val (.int ps), .val (.int tm), .val (.int (own_bit flags)), .val (.int (own_bit (flags ^^^ (16 : Int32)))), .val (.int (own_bit (flags ^^^ (ot &&& (-17 : Int32))))), .unset] [(.int (0 : Int32))])) (fun t_ K => XS.iconst X9.here hx rfl (hb hby at_66) K) ?_
    refine own_go (T' := T9) (g' := (mkF m 69 #[.val (.int flags), .val (.int ot), .val (.int ps), .val (.int tm), .val (.int (own_bit flags)), .val (.int (own_bit (flags ^^^ (16 : Int32)))), .val (.int (own_bit (flags ^^^ (ot &&& (-17 : Int32))))), .val (.int (0 : Int32))] [])) (fun t_ K => XS.istore X9.here hx rfl (hb hby at_67) rfl (l' := #[.val (.int flags), .val (.int ot), .val (.int ps), .val (.int tm), .val (.int (own_bit flags)), .val (.int (own_bit (flags ^^^ (16 : Int32)))), .val (.int (own_bit (flags ^^^ (ot &&& (-17 : Int32))))), .val (.int (0 : Int32))]) rfl K) ?_
    refine own_go (T' := T9) (g' := (mkF m 71 #[.val (.int flags), .val (.int ot), .val (.int ps), .val (.int tm), .val (.int (own_bit flags)), .val (.int (own_bit (flags ^^^ (16 : Int32)))), .val (.int (own_bit (flags ^^^ (ot &&& (-17 : Int32))))), .val (.int (0 : Int32))] [(.int (own_bit flags))])) (fun t_ K => XS.iload X9.here hx rfl (hb hby at_69) rfl K) ?_
    refine own_go (T' := T9) (g' := (mkF m 73 #[.val (.int flags), .val (.int ot), .val (.int ps), .val (.int tm), .val (.int (own_bit flags)), .val (.int (own_bit (flags ^^^ (16 : Int32)))), .val (.int (own_bit (flags ^^^ (ot &&& (-17 : Int32))))), .val (.int (0 : Int32))] [(.int (0 : Int32)), (.int (own_bit flags))])) (fun t_ K => XS.iload X9.here hx rfl (hb hby at_71) rfl K) ?_
    refine own_go (T' := T9) (g' := (mkF m 76 #[.val (.int flags), .val (.int ot), .val (.int ps), .val (.int tm), .val (.int (own_bit flags)), .val (.int (own_bit (flags ^^^ (16 : Int32)))), .val (.int (own_bit (flags ^^^ (ot &&& (-17 : Int32))))), .val (.int (0 : Int32))] [])) (fun t_ K => XS.icmpNo X9.here hx rfl (hb hby at_73) rfl (teq (own_ref0 flags c59)).2 K) ?_
    refine own_go (T' := T9) (g' := (mkF m 78 #[.val (.int flags), .val (.int ot), .val (.int ps), .val (.int tm), .val (.int (own_bit flags)), .val (.int (own_bit (flags ^^^ (16 : Int32)))), .val (.int (own_bit (flags ^^^ (ot &&& (-17 : Int32))))), .val (.int (0 : Int32))] [(.int (own_bit flags))])) (fun t_ K => XS.iload X9.here hx rfl (hb hby at_76) rfl K) ?_
    refine own_go (T' := T9) (g' := (mkF m 80 #[.val (.int flags), .val (.int ot), .val (.int ps), .val (.int tm), .val (.int (own_bit flags)), .val (.int (own_bit (flags ^^^ (16 : Int32)))), .val (.int (own_bit (flags ^^^ (ot &&& (-17 : Int32))))), .val (.int (0 : Int32))] [(.int (own_bit (flags ^^^ (16 : Int32)))), (.int (own_bit flags))])) (fun t_ K => XS.iload X9.here hx rfl (hb hby at_78) rfl K) ?_
    refine own_go (T' := T9) (g' := (mkF m 83 #[.val (.int flags), .val (.int ot), .val (.int ps), .val (.int tm), .val (.int (own_bit flags)), .val (.int (own_bit (flags ^^^ (16 : Int32)))), .val (.int (own_bit (flags ^^^ (ot &&& (-17 : Int32))))), .val (.int (0 : Int32))] [])) (fun t_ K => XS.icmpNo X9.here hx rfl (hb hby at_80) rfl (feq (own_flip flags)).1 K) ?_
    refine own_go (T' := T9) (g' := (mkF m 85 #[.val (.int flags), .val (.int ot), .val (.int ps), .val (.int tm), .val (.int (own_bit flags)), .val (.int (own_bit (flags ^^^ (16 : Int32)))), .val (.int (own_bit (flags ^^^ (ot &&& (-17 : Int32))))), .val (.int (0 : Int32))] [(.int (own_bit flags))])) (fun t_ K => XS.iload X9.here hx rfl (hb hby at_83) rfl K) ?_
    refine own_go (T' := T9) (g' := (mkF m 87 #[.val (.int flags), .val (.int ot), .val (.int ps), .val (.int tm), .val (.int (own_bit flags)), .val (.int (own_bit (flags ^^^ (16 : Int32)))), .val (.int (own_bit (flags ^^^ (ot &&& (-17 : Int32))))), .val (.int (0 : Int32))] [(.int (own_bit (flags ^^^ (ot &&& (-17 : Int32))))), (.int (own_bit flags))])) (fun t_ K => XS.iload X9.here hx rfl (hb hby at_85) rfl K) ?_
    refine own_go (T' := T9) (g' := (mkF m 90 #[.val (.int flags), .val (.int ot), .val (.int ps), .val (.int tm), .val (.int (own_bit flags)), .val (.int (own_bit (flags ^^^ (16 : Int32)))), .val (.int (own_bit (flags ^^^ (ot &&& (-17 : Int32))))), .val (.int (0 : Int32))] [])) (fun t_ K => XS.icmpNo X9.here hx rfl (hb hby at_87) rfl (teq (own_keep flags ot)).2 K) ?_
    refine own_go (T' := T9) (g' := (mkF m 91 #[.val (.int flags), .val (.int ot), .val (.int ps), .val (.int tm), .val (.int (own_bit flags)), .val (.int (own_bit (flags ^^^ (16 : Int32)))), .val (.int (own_bit (flags ^^^ (ot &&& (-17 : Int32))))), .val (.int (0 : Int32))] [(.int (1 : Int32))])) (fun t_ K => XS.iconst X9.here hx rfl (hb hby at_90) K) ?_
    refine own_go (T' := T9) (g' := (mkF m 95 #[.val (.int flags), .val (.int ot), .val (.int ps), .val (.int tm), .val (.int (own_bit flags)), .val (.int (own_bit (flags ^^^ (16 : Int32)))), .val (.int (own_bit (flags ^^^ (ot &&& (-17 : Int32))))), .val (.int (0 : Int32))] [(.int (1 : Int32))])) (fun t_ K => XS.goto X9.here hx rfl (pc0 := 91) (pc' := 95) rfl (hb hby at_91) (by decide) (by decide) K) ?_
    exact own_retZ X9 hx Bd.returns hlk (Or.inr rfl) (hb hby at_95) ⟨rfl, N_8⟩ (by decide) (by decide)
set_option maxRecDepth 65536 in
set_option maxHeartbeats 40000000 in
theorem comes_1 {Post : Tables → Env → Array Value → State → Outcome → State → Prop} (hpost : ∀ tb e args s v u, (limb_1_1.after args s (.returned v) u = true ∧ limb_1_2.after args s (.returned v) u = true ∧ True) → FrameEnd s (.returned v) u (Jvm.fieldLocs frame_1_writes args s ++ Jvm.arrayLocs frame_1_arrays args s ++ Jvm.staticLocs frame_1_statics s) 16 128 → Post tb e args s (.returned v) u) :
    ArmFor flags0 classFile x code maxLocals ret World_1 tables_1 room_1 Calls_1 rest_1 Pre_1 Post := by
  intro l hfl _ _ p e ha hc hk s m args below hf hA hF happ hP
  obtain ⟨hcalls, hrest, hpre⟩ := hP
  obtain ⟨-, -, -, hnamed, -, -, -, hat⟩ := (Spec.applies_iff hf).mp happ
  obtain ⟨hg, hn⟩ := and_e (Cond.before_iff.mp (show (Jvm.Cond.and given_1 narrow_1).before args s = true from hpre))
  obtain ⟨hcount, hk0⟩ := and_e hg
  obtain ⟨w0, w1, w2, w3, rfl⟩ : ∃ w0 w1 w2 w3 : Value, args = #[w0, w1, w2, w3] := by
    have hs : args.size = 4 := by simpa [Cond.value, given_1] using hcount
    obtain ⟨L⟩ := args
    match L, hs with
    | [w0, w1, w2, w3], _ => exact ⟨w0, w1, w2, w3, rfl⟩
  have hw := fun d (hd : d ∈ tables_1) => atoms_spec (ws := Jvm.Cond.code x code maxLocals ret :: tables_1) hat d (List.mem_cons_of_mem _ hd)
  have hfit : Fit s := fun {y c} hc i hi => by
    obtain ⟨ha, rfl⟩ := Array.getElem?_eq_some_iff.mp hc
    have q := List.all_eq_true.mp ((Array.all_eq_true_iff_forall_mem.mp hF) _ (Array.getElem_mem ha)) i (List.mem_range.mpr hi)
    simpa [Array.getElem?_eq_getElem hi] using q
  obtain ⟨ka0, hk1⟩ := and_e hk0
  obtain ⟨q0, f0⟩ := is_v ka0
  obtain rfl : w0 = (.int q0) := Option.some.inj f0
  obtain ⟨ka1, hk2⟩ := and_e hk1
  obtain ⟨q1, f1⟩ := is_v ka1
  obtain rfl : w1 = (.int q1) := Option.some.inj f1
  obtain ⟨ka2, hk3⟩ := and_e hk2
  obtain ⟨q2, f2⟩ := is_v ka2
  obtain rfl : w2 = (.int q2) := Option.some.inj f2
  obtain ⟨q3, f3⟩ := is_v hk3
  obtain rfl : w3 = (.int q3) := Option.some.inj f3
  obtain ⟨n, o, h1, h2, h3, _, L, rfl, hQ, hq⟩ := rm_law l s _ hw tables_1 q0 q1 q2 q3 s.heap.size s.heap (Nat.le_refl _) p e ha hc hk s m _ below hf ((Spec.applies_iff_loose hf).mp happ).1 ⟨rfl, State.Warmed39.refl s, rfl⟩ trivial
  obtain ⟨rfl, N⟩ := hQ
  refine ⟨n, _, h1, h2, h3, hpost _ _ _ _ _ _ ⟨Cond.after_iff.mpr rfl, Cond.after_iff.mpr (eq_i res_at (Term.int_eval (1)) rfl), trivial⟩ ⟨hq.1, hq.2.1, (hq.2.2.sift fun y hy => Or.inr (N y hy)).mono (by decide) (by decide)⟩⟩
theorem main_1_1 : Claimed_1_1 := comes_1 fun _ _ _ _ _ _ h hF => ⟨h.1, hF⟩
theorem main_1_2 : Claimed_1_2 := comes_1 fun _ _ _ _ _ _ h hF => ⟨h.2.1, hF⟩
end Jvm.Pilot.@@N@@
namespace Jvm.Pilot.@@N@@
open Jvm Jvm.ClassFile Sem Op Lib Jvm.Free Jvm.Stand Jvm.Pilot.@@N@@.Jvm.D
/-! MADE BY PROGRAM (witnessworld.py) out of the Statement's table words and the real class files: 10 classes; the members and pool entries that the words name. The judged class is class 1, her method 1. -/
namespace start1
open Jvm.ClassFile
def u (s : String) : CpInfo := .utf8 (stringToUtf16 s)
/-- a pool by its gaps: so many unusable entries, then the entry; so many at the end -/
def gap : Nat → List CpInfo → List CpInfo
  | 0, r => r
  | n + 1, r => .unusable :: gap n r
def poolList (es : List (Nat × CpInfo)) (last : Nat) : List CpInfo := es.foldr (fun e r => gap e.1 (e.2 :: r)) (gap last [])
def pool (es : List (Nat × CpInfo)) (last : Nat) : Array CpInfo := ⟨poolList es last⟩
def fileOf (pool : Array CpInfo) (this : Nat) (attrs : Array Attribute := #[]) (ms : Array MethodInfo := #[]) (fl : Nat := 33) (sup : Nat := 0) (ifs : Array Nat := #[]) (fds : Array FieldInfo := #[]) : ClassFile where
  minorVersion := 0
  majorVersion := 65
  constantPool := pool
  accessFlags := fl
  thisClass := this
  superClass := sup
  interfaces := ifs
  fields := fds
  methods := ms
  attributes := attrs
def plain (name : String) (sup : Option ClassId) : Class where
  name := name
  kind := .ordinary
  loader := none
  accessFlags := 33
  super := sup
  interfaces := #[]
  cf := none
  fields := #[]
  methods := #[]
  instanceTypes := #[]
  staticTypes := #[]
  resolved := #[]
  callSites := []
  init := .initialized
  statics := none
  mirror := none

def pool0 : Array CpInfo := pool [(5, u "<init>"), (0, u "()V"), (1, .class_ 10), (1, u "java/lang/Object")] 113

def k0c0 : Code := { maxStack := 0, maxLocals := 1, code := object_method_1_code, exceptionTable := #[], attributes := #[] }
def k0m0 : Method := { name := "<init>", desc := "()V", sig := { parameters := [], returnType := none }, accessFlags := 1, code := some k0c0 }
/-- java/lang/Object -/
def k0 : Class := { plain "java/lang/Object" none with
  accessFlags := 33
  interfaces := #[]
  cf := some (fileOf pool0 8 #[] #[{ accessFlags := 1, nameIndex := 5, descriptorIndex := 6, attributes := #[] }] 33 0 #[] #[])
  fields := #[]
  methods := #[k0m0]
  instanceTypes := #[]
  staticTypes := #[]
  resolved := Array.replicate 124 none
  statics := none }

def pool1 : Array CpInfo := pool [(2, .class_ 4), (1, u "java/lang/Object"), (0, u "<init>"), (0, u "()V"), (0, .class_ 8), (0, u "com/example/store_and_forward/storeandforward/wire/BaseHeader"), (0, .methodref 7 10), (0, .nameAndType 5 11), (0, u "(III)V"), (0, .methodref 7 13), (0, .nameAndType 14 15), (0, u "sessionHeader"), (0, u "()Z"), (0, .class_ 17), (0, u "com/example/store_and_forward/storeandforward/wire/BaseHeaderSessionHeaderPinLaw"), (2, u "law"), (0, u "(IIII)Z")] 3

def k1m0 : Method := { name := "<init>", desc := "()V", sig := { parameters := [], returnType := none }, accessFlags := 1, code := none }
def k1c1 : Code := { maxStack := 5, maxLocals := 8, code := code, exceptionTable := #[], attributes := #[] }
def k1m1 : Method := { name := "law", desc := "(IIII)Z", sig := { parameters := [.int, .int, .int, .int], returnType := some .boolean }, accessFlags := 9, code := some k1c1 }
/-- com/example/store_and_forward/storeandforward/wire/BaseHeaderSessionHeaderPinLaw -/
def k1 : Class := { plain "com/example/store_and_forward/storeandforward/wire/BaseHeaderSessionHeaderPinLaw" (some 0) with
  accessFlags := 49
  interfaces := #[]
  cf := some (fileOf pool1 16 #[] #[{ accessFlags := 1, nameIndex := 5, descriptorIndex := 6, attributes := #[] }, { accessFlags := 9, nameIndex := 20, descriptorIndex := 21, attributes := #[] }] 49 2 #[] #[])
  fields := #[]
  methods := #[k1m0, k1m1]
  instanceTypes := #[]
  staticTypes := #[]
  resolved := Array.replicate 25 none
  statics := none }

def pool2 : Array CpInfo := pool [(1, .methodref 2 3), (0, .class_ 4), (0, .nameAndType 5 6), (0, u "java/lang/Object"), (0, u "<init>"), (0, u "()V"), (0, .class_ 8), (0, u "java/lang/Record")] 13

def k2c0 : Code := { maxStack := 1, maxLocals := 1, code := jdk_30_method_1_code, exceptionTable := #[], attributes := #[] }
def k2m0 : Method := { name := "<init>", desc := "()V", sig := { parameters := [], returnType := none }, accessFlags := 4, code := some k2c0 }
/-- java/lang/Record -/
def k2 : Class := { plain "java/lang/Record" (some 0) with
  accessFlags := 1057
  interfaces := #[]
  cf := some (fileOf pool2 7 #[] #[{ accessFlags := 4, nameIndex := 5, descriptorIndex := 6, attributes := #[] }] 1057 2 #[] #[])
  fields := #[]
  methods := #[k2m0]
  instanceTypes := #[]
  staticTypes := #[]
  resolved := Array.replicate 22 none
  statics := none }

def pool3 : Array CpInfo := pool [(1, .methodref 2 3), (0, .class_ 4), (0, .nameAndType 5 6), (0, u "java/lang/Record"), (0, u "<init>"), (0, u "()V"), (0, .fieldref 8 9), (0, .class_ 10), (0, .nameAndType 11 12), (0, u "com/example/store_and_forward/storeandforward/wire/BaseHeader"), (0, u "flags"), (0, u "I"), (0, .fieldref 8 14), (0, .nameAndType 15 12), (0, u "packetSize"), (0, .fieldref 8 17), (0, .nameAndType 18 12), (0, u "timeToReachQueue"), (3, u "()Z"), (2, u "sessionHeader"), (65, u "(III)V"), (24, u "SIZE"), (2, u "MAX_PACKET_SIZE"), (1, u "PRIORITY"), (1, u "INTERNAL"), (1, u "SESSION_HEADER"), (0, u "DEBUG_HEADER"), (1, u "INFINITE"), (1, u "VERSION"), (0, u "SIGNATURE")] 44

def k3c0 : Code := { maxStack := 2, maxLocals := 4, code := prog_36_method_1_code, exceptionTable := #[], attributes := #[] }
def k3m0 : Method := { name := "<init>", desc := "(III)V", sig := { parameters := [.int, .int, .int], returnType := none }, accessFlags := 0, code := some k3c0 }
def k3c1 : Code := { maxStack := 2, maxLocals := 1, code := prog_36_method_3_code, exceptionTable := #[], attributes := #[] }
def k3m1 : Method := { name := "sessionHeader", desc := "()Z", sig := { parameters := [], returnType := some .boolean }, accessFlags := 0, code := some k3c1 }
/-- com/example/store_and_forward/storeandforward/wire/BaseHeader -/
def k3 : Class := { plain "com/example/store_and_forward/storeandforward/wire/BaseHeader" (some 2) with
  accessFlags := 48
  interfaces := #[]
  cf := some (fileOf pool3 8 #[] #[{ accessFlags := 0, nameIndex := 5, descriptorIndex := 91, attributes := #[] }, { accessFlags := 0, nameIndex := 25, descriptorIndex := 22, attributes := #[] }] 48 2 #[] #[{ accessFlags := 18, nameIndex := 11, descriptorIndex := 12, attributes := #[] }, { accessFlags := 18, nameIndex := 15, descriptorIndex := 12, attributes := #[] }, { accessFlags := 18, nameIndex := 18, descriptorIndex := 12, attributes := #[] }, { accessFlags := 24, nameIndex := 116, descriptorIndex := 12, attributes := #[] }, { accessFlags := 24, nameIndex := 119, descriptorIndex := 12, attributes := #[] }, { accessFlags := 24, nameIndex := 121, descriptorIndex := 12, attributes := #[] }, { accessFlags := 24, nameIndex := 123, descriptorIndex := 12, attributes := #[] }, { accessFlags := 24, nameIndex := 125, descriptorIndex := 12, attributes := #[] }, { accessFlags := 24, nameIndex := 126, descriptorIndex := 12, attributes := #[] }, { accessFlags := 24, nameIndex := 128, descriptorIndex := 12, attributes := #[] }, { accessFlags := 26, nameIndex := 130, descriptorIndex := 12, attributes := #[] }, { accessFlags := 26, nameIndex := 131, descriptorIndex := 12, attributes := #[] }])
  fields := #[{ name := "flags", type := .int, accessFlags := 18, slot := 0, constantValue := 0 }, { name := "packetSize", type := .int, accessFlags := 18, slot := 1, constantValue := 0 }, { name := "timeToReachQueue", type := .int, accessFlags := 18, slot := 2, constantValue := 0 }, { name := "SIZE", type := .int, accessFlags := 24, slot := 0, constantValue := 0 }, { name := "MAX_PACKET_SIZE", type := .int, accessFlags := 24, slot := 1, constantValue := 0 }, { name := "PRIORITY", type := .int, accessFlags := 24, slot := 2, constantValue := 0 }, { name := "INTERNAL", type := .int, accessFlags := 24, slot := 3, constantValue := 0 }, { name := "SESSION_HEADER", type := .int, accessFlags := 24, slot := 4, constantValue := 0 }, { name := "DEBUG_HEADER", type := .int, accessFlags := 24, slot := 5, constantValue := 0 }, { name := "INFINITE", type := .int, accessFlags := 24, slot := 6, constantValue := 0 }, { name := "VERSION", type := .int, accessFlags := 26, slot := 7, constantValue := 0 }, { name := "SIGNATURE", type := .int, accessFlags := 26, slot := 8, constantValue := 0 }]
  methods := #[k3m0, k3m1]
  instanceTypes := #[.int, .int, .int]
  staticTypes := #[.int, .int, .int, .int, .int, .int, .int, .int, .int]
  resolved := Array.replicate 176 none
  statics := none }

def pool4 : Array CpInfo := pool [(1, u "java/lang/Cloneable"), (0, .class_ 1), (0, u "java/lang/Object"), (0, .class_ 3)] 3

/-- java/lang/Cloneable -/
def k4 : Class := { plain "java/lang/Cloneable" (some 0) with
  accessFlags := 1537
  interfaces := #[]
  cf := some (fileOf pool4 2 #[] #[] 1537 4 #[] #[])
  fields := #[]
  methods := #[]
  instanceTypes := #[]
  staticTypes := #[]
  resolved := Array.replicate 8 none
  statics := none }

def pool5 : Array CpInfo := pool [(1, u "java/io/Serializable"), (0, .class_ 1), (0, u "java/lang/Object"), (0, .class_ 3)] 3

/-- java/io/Serializable -/
def k5 : Class := { plain "java/io/Serializable" (some 0) with
  accessFlags := 1537
  interfaces := #[]
  cf := some (fileOf pool5 2 #[] #[] 1537 4 #[] #[])
  fields := #[]
  methods := #[]
  instanceTypes := #[]
  staticTypes := #[]
  resolved := Array.replicate 8 none
  statics := none }

/-- the primitive byte -/
def k6 : Class := { plain "byte" none with kind := .primitive 'B', accessFlags := 0x411 }
/-- [B -/
def k7 : Class := { plain "[B" (some 0) with kind := .array 6 .byte, interfaces := #[4, 5], accessFlags := 1041 }

/-- the primitive int -/
def k8 : Class := { plain "int" none with kind := .primitive 'I', accessFlags := 0x411 }
/-- [I -/
def k9 : Class := { plain "[I" (some 0) with kind := .array 8 .int, interfaces := #[4, 5], accessFlags := 1041 }

def heap : Heap := #[]
def classes : Array Class := #[k0, k1, k2, k3, k4, k5, k6, k7, k8, k9]
def interned : List (Array UInt16 × Addr) := []
def slotsUsed : Nat := 0
def theMethod : MethodId := ⟨1, 1⟩
def args0 : Array Value := #[.int 5, .int 7, .int 3, .int 9]
def aboutOver (below : List Frame) : State where
  vm := { classes := classes, interned := interned.toArray }
  heap := heap
  slotsUsed := slotsUsed
  threads := #[{ frames := .invoking theMethod args0 :: below }]
def below0 : List Frame := [.native { method := ⟨0, 0⟩, args := #[] }]
def about1 : State := aboutOver below0
def p0 : Program := .bare "" "" ""
def e0 : Env := launch0.env 0 0 0
theorem w_frames : about1.frames = Frame.invoking theMethod args0 :: below0 := rfl
set_option maxRecDepth 65536 in
theorem w_args : argsFit about1.vm theMethod args0 = true := by decide +kernel
set_option maxRecDepth 65536 in
theorem w_heap : heapFits about1 = true := by decide +kernel
set_option maxRecDepth 65536 in
theorem w_runnable : about1.curStatus? = some .runnable := by decide +kernel
set_option maxRecDepth 65536 in
theorem w_alone : about1.alone = true := by decide +kernel
set_option maxRecDepth 65536 in
theorem w_named : about1.methodNamed? x = some theMethod := by decide +kernel
set_option maxRecDepth 65536 in
theorem w_hears : about1.hears theMethod below0 = true := by decide +kernel
set_option maxRecDepth 65536 in
theorem w_ripe : about1.ripe theMethod args0 below0 = true := by decide +kernel
theorem w_running : about1.status = .running := rfl
set_option maxRecDepth 65536 in
theorem w_room : about1.hasRoom e0.platform room_1 = true :=
  launch0.hasRoom_least _ room_1 (by decide +kernel) (by decide +kernel) (by decide +kernel) (by decide +kernel) (by decide +kernel) (by decide +kernel)
theorem allAtoms_all (ts : List Jvm.Cond) (a : Array Jvm.Value) (st : Jvm.State) : (allAtoms ts).before a st = ts.all (fun c => c.before a st) := by
  induction ts with
  | nil => rfl
  | cons c t ih =>
    show (Jvm.Cond.and c (allAtoms t)).before a st = _
    rw [Jvm.Cond.before_and, ih, List.all_cons]
def words1 : List Jvm.Cond := Jvm.Cond.code x code maxLocals ret :: tables_1
/-- a 'code' word, met by the world's own term for the bytes: nothing is compared byte by byte -/
theorem code_word {y : MethodName} {bytes : ByteArray} {mx : Nat} {rt : Option FieldType} {a : Array Value} {s : State} {m : MethodId} {meth : Method} {c : Code} (h1 : s.methodNamed? y = some m) (h2 : s.vm.method? m = some meth) (h3 : meth.code = some c) (h4 : c.code = bytes)
    (h5 : (c.maxLocals == mx && c.exceptionTable.isEmpty && decide (c.maxStack ≤ mostOperands) && decide (meth.sig.returnType = rt) && !meth.locks && decide (parseMethodDescriptor y.desc = some meth.sig)) = true) : (Jvm.Cond.code y bytes mx rt).before a s = true := by
  simp only [Bool.and_eq_true, beq_iff_eq, Bool.not_eq_true', decide_eq_true_eq] at h5
  obtain ⟨⟨⟨⟨⟨g1, g2⟩, g3⟩, g4⟩, g5⟩, g6⟩ := h5
  simp [Cond.before, Cond.holds, Cond.value, h1, h2, h3, h4, g1, g2, g3, g4, g5, g6]
def isCode : Jvm.Cond → Bool
  | .code _ _ _ _ => true
  | _ => false
theorem all_split {L : List Jvm.Cond} {P : Jvm.Cond → Bool} (h1 : L.all (fun c => isCode c || P c) = true) (h2 : ∀ c ∈ L.filter isCode, P c = true) : L.all P = true := by
  refine List.all_eq_true.mpr fun c hc => ?_
  have h := List.all_eq_true.mp h1 c hc
  rcases Bool.eq_false_or_eq_true (isCode c) with hi | hi
  · exact h2 c (List.mem_filter.mpr ⟨hc, hi⟩)
  · simpa [hi] using h
set_option maxRecDepth 65536 in
theorem w_c0 : (Jvm.Cond.code x code maxLocals ret).before args0 about1 = true := code_word (m := ⟨1, 1⟩) (meth := k1m1) (c := k1c1) (by decide +kernel) rfl rfl rfl (by decide +kernel)
set_option maxRecDepth 65536 in
theorem w_c1 : (Jvm.Cond.code ({ cls := "com/example/store_and_forward/storeandforward/wire/BaseHeader", name := "<init>", desc := "(III)V" } : Jvm.MethodName) prog_36_method_1_code (4 : Nat) (Option.none : Option Jvm.ClassFile.FieldType)).before args0 about1 = true := code_word (m := ⟨3, 0⟩) (meth := k3m0) (c := k3c0) (by decide +kernel) rfl rfl rfl (by decide +kernel)
set_option maxRecDepth 65536 in
theorem w_c2 : (Jvm.Cond.code ({ cls := "java/lang/Record", name := "<init>", desc := "()V" } : Jvm.MethodName) jdk_30_method_1_code (1 : Nat) (Option.none : Option Jvm.ClassFile.FieldType)).before args0 about1 = true := code_word (m := ⟨2, 0⟩) (meth := k2m0) (c := k2c0) (by decide +kernel) rfl rfl rfl (by decide +kernel)
set_option maxRecDepth 65536 in
theorem w_c3 : (Jvm.Cond.code ({ cls := "java/lang/Object", name := "<init>", desc := "()V" } : Jvm.MethodName) object_method_1_code (1 : Nat) (Option.none : Option Jvm.ClassFile.FieldType)).before args0 about1 = true := code_word (m := ⟨0, 0⟩) (meth := k0m0) (c := k0c0) (by decide +kernel) rfl rfl rfl (by decide +kernel)
set_option maxRecDepth 65536 in
theorem w_c4 : (Jvm.Cond.code ({ cls := "com/example/store_and_forward/storeandforward/wire/BaseHeader", name := "sessionHeader", desc := "()Z" } : Jvm.MethodName) prog_36_method_3_code (1 : Nat) (Option.some Jvm.ClassFile.FieldType.boolean)).before args0 about1 = true := code_word (m := ⟨3, 1⟩) (meth := k3m1) (c := k3c1) (by decide +kernel) rfl rfl rfl (by decide +kernel)
def codes1 : List Jvm.Cond := [Jvm.Cond.code x code maxLocals ret, Jvm.Cond.code ({ cls := "com/example/store_and_forward/storeandforward/wire/BaseHeader", name := "<init>", desc := "(III)V" } : Jvm.MethodName) prog_36_method_1_code (4 : Nat) (Option.none : Option Jvm.ClassFile.FieldType), Jvm.Cond.code ({ cls := "java/lang/Record", name := "<init>", desc := "()V" } : Jvm.MethodName) jdk_30_method_1_code (1 : Nat) (Option.none : Option Jvm.ClassFile.FieldType), Jvm.Cond.code ({ cls := "java/lang/Object", name := "<init>", desc := "()V" } : Jvm.MethodName) object_method_1_code (1 : Nat) (Option.none : Option Jvm.ClassFile.FieldType), Jvm.Cond.code ({ cls := "com/example/store_and_forward/storeandforward/wire/BaseHeader", name := "sessionHeader", desc := "()Z" } : Jvm.MethodName) prog_36_method_3_code (1 : Nat) (Option.some Jvm.ClassFile.FieldType.boolean)]
set_option maxRecDepth 65536 in
theorem codes_eq : words1.filter isCode = codes1 := rfl
theorem w_codes : ∀ c ∈ words1.filter isCode, c.before args0 about1 = true := by
  rw [codes_eq]
  intro c hc
  simp only [codes1, List.mem_cons, List.not_mem_nil, or_false] at hc
  rcases hc with rfl | rfl | rfl | rfl | rfl
  · exact w_c0
  · exact w_c1
  · exact w_c2
  · exact w_c3
  · exact w_c4
set_option maxRecDepth 65536 in
theorem w_t1 : (words1.take 24).all (fun c => isCode c || c.before args0 about1) = true := by decide +kernel
set_option maxRecDepth 65536 in
theorem w_t2 : (words1.drop 24).all (fun c => isCode c || c.before args0 about1) = true := by decide +kernel
theorem w_tables : (allAtoms (Jvm.Cond.code x code maxLocals ret :: tables_1)).before args0 about1 = true := by
  rw [allAtoms_all]
  show words1.all (fun c => c.before args0 about1) = true
  refine all_split ?_ w_codes
  rw [← List.take_append_drop 24 words1, List.all_append, w_t1, w_t2]
  rfl
set_option maxRecDepth 65536 in
theorem w_case : (Jvm.Cond.and given_1 narrow_1).before args0 about1 = true := by decide +kernel
theorem w_applies : (headSpec (Jvm.Cond.code x code maxLocals ret :: tables_1) room_1).applies x e0.platform about1 = true :=
  (Spec.applies_iff w_frames).mpr ⟨w_running, w_runnable, w_alone, w_named, w_hears, w_ripe, w_room, w_tables⟩
theorem atStart : AtStart classFile x code maxLocals ret World_1 tables_1 room_1 Calls_1 rest_1 Pre_1 launch0 p0 e0 about1 theMethod args0 below0 :=
  ⟨lists_1, trivial, launch0.admits_env _ _ _, launch0.least_env, fairChoices_fair.cas, fairChoices_fair.clock, w_frames, w_args, w_heap, w_applies, trivial, trivial, w_case⟩
end start1
theorem witness_1 : WitnessClaimed_1 := ⟨start1.p0, start1.e0, start1.about1, start1.theMethod, start1.args0, start1.below0, start1.atStart⟩
end Jvm.Pilot.@@N@@
