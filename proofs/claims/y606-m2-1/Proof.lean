import JvmDerived
import JvmDerived.Pilot.@@N@@Statement
import JvmDerived.Pilot.@@N@@Code
set_option linter.unusedVariables false
set_option linter.unusedSimpArgs false
@@BLOCK:NumsL.lean.txt@@
namespace Jvm.Pilot.@@N@@
open Jvm Jvm.ClassFile Sem Op Lib Jvm.Free Jvm.Stand Jvm.LawKit Jvm.RoadKit Bundle Jvm.Pilot.@@N@@.Jvm.D
/-! The walk in the continuation's form: 'Goes' says of a place (state, frame) that from it the body ends as Q says. -/
def Goes (p : Program) (e : Env) (below : List Frame) (s : State) (Q : Option Value → Heap → List Loc → Prop) (k n : Nat) (T : State) (g : JFrame) : Prop :=
  ∃ s₂ o, Steps p.tables e below (T.setTop g) s₂ ∧ s₂.status = .running ∧ Ended s₂ below o ∧ ∃ v L, o = .returned v ∧ Q v s₂.heap L ∧ FrameEnd s o s₂ L k n
section OwnKit
variable {p : Program} {l : Launch} {e : Env} {R : Room} {s : State} {m : MethodId} {args : Array Value} {below : List Frame} {meth : Method} {c : Code} {T T' : State} {locs : List Loc} {cells slots : Nat} {Q : Option Value → Heap → List Loc → Prop} {k n : Nat} {g g' : JFrame}
theorem own_go (f : ∀ t, Steps p.tables e below (T'.setTop g') t → Steps p.tables e below (T.setTop g) t) (h : Goes p e below s Q k n T' g') : Goes p e below s Q k n T g := by
  obtain ⟨a, b, h1, r⟩ := h
  exact ⟨a, b, f _ h1, r⟩
theorem own_tr (f : Steps p.tables e below (T.setTop g) (T'.setTop g')) (h : Goes p e below s Q k n T' g') : Goes p e below s Q k n T g := by
  obtain ⟨a, b, h1, r⟩ := h
  exact ⟨a, b, f.trans h1, r⟩
theorem own_ret (X : Stand p l e R s m args below meth c T locs cells slots) (hx : p.tables.exec = Jvm.exec) {pc : Nat} {Ls : Array Slot} {w : Value} {t : FieldType} {i : Instr} {rest : List Value} (hret : meth.sig.returnType = some t) (hlocks : meth.locks = false) (hn : narrow t w = w)
    (hi : (i = .ireturn ∧ (t = .int ∨ t = .boolean ∨ t = .byte ∨ t = .char ∨ t = .short) ∧ ∃ z, w = .int z) ∨ (i = .lreturn ∧ t = .long ∧ ∃ z, w = .long z) ∨ (i = .dreturn ∧ t = .double ∧ ∃ z, w = .double z) ∨ (i = .freturn ∧ t = .float ∧ ∃ z, w = .float z) ∨ (i = .areturn ∧ t.isReference = true ∧ w.isRef = true))
    (hd : decode c.code pc = .ok (i, 1)) (hQ : Q (some w) T.heap locs) (hc : cells ≤ k) (hs : slots ≤ n) : Goes p e below s Q k n T (mkF m pc Ls (w :: rest)) := by
  obtain ⟨fs, hr, hrun, hended, hW, hsame⟩ := X.leave (v := some w) (fun h => by rw [hret] at h; cases h) hlocks
  exact ⟨_, _, retOut X hx hret hn hi hd hr, hrun, hended, _, _, rfl, hQ, ⟨_, rfl⟩, hW, hsame.mono hc hs⟩
theorem own_retI (X : Stand p l e R s m args below meth c T locs cells slots) (hx : p.tables.exec = Jvm.exec) {pc : Nat} {Ls : Array Slot} {z : Int32} {rest : List Value} (hret : meth.sig.returnType = some .int) (hlocks : meth.locks = false)
    (hd : decode c.code pc = .ok (.ireturn, 1)) (hQ : Q (some (.int z)) T.heap locs) (hc : cells ≤ k) (hs : slots ≤ n) : Goes p e below s Q k n T (mkF m pc Ls (.int z :: rest)) :=
  own_ret X hx hret hlocks rfl (Or.inl ⟨rfl, Or.inl rfl, z, rfl⟩) hd hQ hc hs
theorem own_retZ (X : Stand p l e R s m args below meth c T locs cells slots) (hx : p.tables.exec = Jvm.exec) {pc : Nat} {Ls : Array Slot} {z : Int32} {rest : List Value} (hret : meth.sig.returnType = some .boolean) (hlocks : meth.locks = false) (hz : z = 0 ∨ z = 1)
    (hd : decode c.code pc = .ok (.ireturn, 1)) (hQ : Q (some (.int z)) T.heap locs) (hc : cells ≤ k) (hs : slots ≤ n) : Goes p e below s Q k n T (mkF m pc Ls (.int z :: rest)) :=
  own_ret X hx hret hlocks (by rcases hz with rfl | rfl <;> rfl) (Or.inl ⟨rfl, Or.inr (Or.inl rfl), z, rfl⟩) hd hQ hc hs
theorem own_retJ (X : Stand p l e R s m args below meth c T locs cells slots) (hx : p.tables.exec = Jvm.exec) {pc : Nat} {Ls : Array Slot} {z : Int64} {rest : List Value} (hret : meth.sig.returnType = some .long) (hlocks : meth.locks = false)
    (hd : decode c.code pc = .ok (.lreturn, 1)) (hQ : Q (some (.long z)) T.heap locs) (hc : cells ≤ k) (hs : slots ≤ n) : Goes p e below s Q k n T (mkF m pc Ls (.long z :: rest)) :=
  own_ret X hx hret hlocks rfl (Or.inr (Or.inl ⟨rfl, rfl, z, rfl⟩)) hd hQ hc hs
theorem own_retA (X : Stand p l e R s m args below meth c T locs cells slots) (hx : p.tables.exec = Jvm.exec) {pc : Nat} {Ls : Array Slot} {w : Value} {t : FieldType} {rest : List Value} (hret : meth.sig.returnType = some t) (ht : t.isReference = true) (hlocks : meth.locks = false) (hw : w.isRef = true)
    (hd : decode c.code pc = .ok (.areturn, 1)) (hQ : Q (some w) T.heap locs) (hc : cells ≤ k) (hs : slots ≤ n) : Goes p e below s Q k n T (mkF m pc Ls (w :: rest)) :=
  own_ret X hx hret hlocks (by cases t <;> simp [FieldType.isReference] at ht <;> cases w <;> simp [Value.isRef] at hw <;> rfl) (Or.inr (Or.inr (Or.inr (Or.inr ⟨rfl, ht, hw⟩)))) hd hQ hc hs
theorem own_retV (X : Stand p l e R s m args below meth c T locs cells slots) (hx : p.tables.exec = Jvm.exec) {pc : Nat} {Ls : Array Slot} (hret : meth.sig.returnType = none) (hlocks : meth.locks = false)
    (hd : decode c.code pc = .ok (.return_, 1)) (hQ : Q none T.heap locs) (hc : cells ≤ k) (hs : slots ≤ n) : Goes p e below s Q k n T (mkF m pc Ls []) := by
  obtain ⟨fs, hr, hrun, hended, hW, hsame⟩ := X.leave (v := none) (fun _ => rfl) hlocks
  exact ⟨_, _, X.returnOut hx hret hd hr, hrun, hended, _, _, rfl, hQ, ⟨_, rfl⟩, hW, hsame.mono hc hs⟩
/-- what a callee that writes nothing leaves: its value r, the heap as it was -/
def own_pure (r : Option Value) (h0 : Heap) : Option Value → Heap → List Loc → Prop := fun v h L => v = r ∧ L = [] ∧ h = h0
/-- a callee's contract -/
abbrev Pays (l : Launch) (Z : State) (y : MethodName) (bytes : ByteArray) (maxL : Nat) (ret : Option FieldType) (rm : Room) (as' : Array Value) (h0 : Heap) (Q : Option Value → Heap → List Loc → Prop) : Prop :=
  MetFree l y (head1 [Jvm.Cond.code y bytes maxL ret] rm) (fun a U => a = as' ∧ Z.Warmed39 U.vm ∧ U.heap = h0) (fun _ _ _ _ _ => True) (fun _ U o U' => ∃ v L, o = .returned v ∧ Q v U'.heap L ∧ FrameEnd U o U' L rm.cells rm.slots)
theorem own_callS {Z : State} {a0 : Array Value} {h : Heap} {rm : Room} {W : Nat} {own : String} {index : Nat} {y : MethodName} {bytes : ByteArray} {maxL : Nat} {ret : Option FieldType} {argsL rest : List Value} {r : Option Value}
    (X : Stand p l e R s m args below meth c T locs cells slots) (hx : p.tables.exec = Jvm.exec) (hZ : Z.Warmed39 s.vm) (hown : s.vm.findClass own = some m.cls)
    (wl : (Jvm.Cond.methodLink own index y).before a0 Z = true) (wst : (Jvm.Cond.static y).before a0 Z = true) (wi : (Jvm.Cond.initialized y.cls).before a0 Z = true) (wc : (Jvm.Cond.code y bytes maxL ret).before a0 Z = true)
    (hy : y.cls ≠ "java/lang/invoke/MethodHandle" ∧ y.cls ≠ "java/lang/invoke/VarHandle") (eT : T.heap = h)
    (hM : Pays l Z y bytes maxL ret rm argsL.toArray h (own_pure r h)) (hrc : rm.cells = 0) (hrs : rm.slots = 0) (hcl : cells ≤ R.cells) (hsl : slots ≤ R.slots) (hf : rm.frames + 1 ≤ R.frames) (hl : W + (maxL + 11) + rm.locals ≤ R.locals)
    (hg : g.method = m) (hsize : g.locals.size = c.maxLocals) (hlen : ∀ sig, parseMethodDescriptor y.desc = some sig → argsL.length = sig.parameters.length)
    (hstack : g.stack = argsL.reverse ++ rest) (hW : 2 * g.monitorRoom + (rest.map fun v => v.category).sum ≤ W) (hdg : decode c.code g.pc = .ok (.invokestatic index, 3)) :
    ∃ T', Stand p l e R s m args below meth c T' locs cells slots ∧ T'.heap = h ∧ ∀ t, Steps p.tables e below (T'.setTop { g with pc := g.pc + 3, stack := r.toList ++ rest }) t → Steps p.tables e below (T.setTop g) t := by
  obtain ⟨v, vm₁, ⟨T1, L1, k1, n1⟩, hw1, X1, ⟨Lc, hQ, l1, y1, z1⟩, st⟩ := Jvm.LawKit.callS X hx (y := y) hown (mvT hZ wl) (mvT hZ wst) (mvT hZ wi) (mvT hZ wc) hy (backOf (W := W) hM hZ wc wi hf hl) hg hsize hlen hstack hW hdg (fun _ _ => ⟨rfl, eT, by rw [hrc]; exact hcl, by rw [hrs]; exact hsl⟩)
  dsimp only [Pt.U, Pt.locs, Pt.cells, Pt.slots] at X1 l1 y1 z1 st hQ
  obtain ⟨rfl, rfl, hh⟩ := hQ
  subst l1 y1 z1
  rw [List.append_nil, hrc, hrs, Nat.add_zero, Nat.add_zero] at X1
  exact ⟨T1, X1, hh, st⟩
theorem own_callV {Z : State} {a0 : Array Value} {h : Heap} {rm : Room} {W : Nat} {own C : String} {index : Nat} {y z : MethodName} {bytes : ByteArray} {maxL : Nat} {ret : Option FieldType} {argsL rest : List Value} {r : Option Value} {b : Addr}
    (X : Stand p l e R s m args below meth c T locs cells slots) (hx : p.tables.exec = Jvm.exec) (hZ : Z.Warmed39 s.vm) (hown : s.vm.findClass own = some m.cls)
    (wl : (Jvm.Cond.methodLink own index y).before a0 Z = true) (wd : (Jvm.Cond.declares y).before a0 Z = true) (wsel : (Jvm.Cond.selects C y z).before a0 Z = true) (hnf : NotFace s y) (win : (Jvm.Cond.instanceMethod z).before a0 Z = true) (wi : (Jvm.Cond.initialized z.cls).before a0 Z = true) (wc : (Jvm.Cond.code z bytes maxL ret).before a0 Z = true)
    (hy : y.cls ≠ "java/lang/invoke/MethodHandle" ∧ y.cls ≠ "java/lang/invoke/VarHandle") (eT : T.heap = h) (E : Exa Z h b C)
    (hM : Pays l Z z bytes maxL ret rm (.ref b :: argsL).toArray h (own_pure r h)) (hrc : rm.cells = 0) (hrs : rm.slots = 0) (hcl : cells ≤ R.cells) (hsl : slots ≤ R.slots) (hf : rm.frames + 1 ≤ R.frames) (hl : W + (maxL + 11) + rm.locals ≤ R.locals)
    (hg : g.method = m) (hsize : g.locals.size = c.maxLocals) (hlen : ∀ sig, parseMethodDescriptor y.desc = some sig → argsL.length = sig.parameters.length)
    (hstack : g.stack = argsL.reverse ++ .ref b :: rest) (hW : 2 * g.monitorRoom + (rest.map fun v => v.category).sum ≤ W) (hdg : decode c.code g.pc = .ok (.invokevirtual index, 3)) :
    ∃ T', Stand p l e R s m args below meth c T' locs cells slots ∧ T'.heap = h ∧ ∀ t, Steps p.tables e below (T'.setTop { g with pc := g.pc + 3, stack := r.toList ++ rest }) t → Steps p.tables e below (T.setTop g) t := by
  obtain ⟨cq, kq, qa, qb, qc⟩ := isOf hZ eT E
  obtain ⟨v, vm₁, ⟨T1, L1, k1, n1⟩, hw1, X1, ⟨Lc, hQ, l1, y1, z1⟩, st⟩ := X.virtualBack hx (y := y) (z := z) hown (mvT hZ wl) (mvT hZ wd) hnf (mvT hZ wsel) (mvT hZ win) hy (backOf (W := W) hM hZ wc wi hf hl) qa qc hg hsize (Steps.refl _) hlen hstack hW hdg (fun _ _ => ⟨rfl, eT, by rw [hrc]; exact hcl, by rw [hrs]; exact hsl⟩)
  dsimp only [Pt.U, Pt.locs, Pt.cells, Pt.slots] at X1 l1 y1 z1 st hQ
  obtain ⟨rfl, rfl, hh⟩ := hQ
  subst l1 y1 z1
  rw [List.append_nil, hrc, hrs, Nat.add_zero, Nat.add_zero] at X1
  exact ⟨T1, X1, hh, fun t k => st.trans k⟩
/-- what a law that makes objects leaves: true, and nothing old written -/
def own_one (n0 : Nat) : Option Value → Heap → List Loc → Prop := fun v h L => v = some (.int 1) ∧ Fr n0 L
theorem own_callI {Z : State} {a0 : Array Value} {h : Heap} {rm : Room} {W : Nat} {own : String} {index : Nat} {y : MethodName} {bytes : ByteArray} {maxL : Nat} {argsL rest : List Value} {a : Addr}
    (X : Stand p l e R s m args below meth c T locs cells slots) (hx : p.tables.exec = Jvm.exec) (hZ : Z.Warmed39 s.vm) (hown : s.vm.findClass own = some m.cls) (hy1 : y.name = "<init>")
    (wl : (Jvm.Cond.methodLink own index y).before a0 Z = true) (win : (Jvm.Cond.instanceMethod y).before a0 Z = true) (wi : (Jvm.Cond.initialized y.cls).before a0 Z = true) (wc : (Jvm.Cond.code y bytes maxL none).before a0 Z = true)
    (hy : y.cls ≠ "java/lang/invoke/MethodHandle" ∧ y.cls ≠ "java/lang/invoke/VarHandle") (eT : T.heap = h)
    (hM : Pays l Z y bytes maxL none rm (.ref a :: argsL).toArray h (own_pure none h)) (hrc : rm.cells = 0) (hrs : rm.slots = 0) (hcl : cells ≤ R.cells) (hsl : slots ≤ R.slots) (hf : rm.frames + 1 ≤ R.frames) (hl : W + (maxL + 11) + rm.locals ≤ R.locals)
    (hg : g.method = m) (hsize : g.locals.size = c.maxLocals) (hlen : ∀ sig, parseMethodDescriptor y.desc = some sig → argsL.length = sig.parameters.length)
    (hstack : g.stack = argsL.reverse ++ .ref a :: rest) (hW : 2 * g.monitorRoom + (rest.map fun v => v.category).sum ≤ W) (hdg : decode c.code g.pc = .ok (.invokespecial index, 3)) :
    ∃ T', Stand p l e R s m args below meth c T' locs cells slots ∧ T'.heap = h ∧ ∀ t, Steps p.tables e below (T'.setTop { g with pc := g.pc + 3, stack := rest }) t → Steps p.tables e below (T.setTop g) t := by
  obtain ⟨v, vm₁, ⟨T1, L1, k1, n1⟩, hw1, X1, ⟨Lc, hQ, l1, y1, z1⟩, st⟩ := X.specialBack hx (y := y) hy1 hown (mvT hZ wl) (mvT hZ win) (mvT hZ wc) hy (backOf (W := W) hM hZ wc wi hf hl) hg hsize (Steps.refl _) hlen hstack hW hdg (fun _ _ => ⟨rfl, eT, by rw [hrc]; exact hcl, by rw [hrs]; exact hsl⟩)
  dsimp only [Pt.U, Pt.locs, Pt.cells, Pt.slots] at X1 l1 y1 z1 st hQ
  obtain ⟨rfl, rfl, hh⟩ := hQ
  subst l1 y1 z1
  rw [List.append_nil, hrc, hrs, Nat.add_zero, Nat.add_zero] at X1
  exact ⟨T1, X1, hh, fun t k => st.trans k⟩
theorem own_eqi {args : Array Value} {first s : State} {o : Option Outcome} {idx : List Nat} {t : Term} {k : Int32} (h : (Jvm.Cond.eq t (Term.int k)).value args first o s idx = some true) : t.eval args first o idx s = some (.int k) := by
  obtain ⟨x, y, e1, e2, k1, k2⟩ := cmp_v (Or.inl h)
  rw [Term.int_eval] at e2
  cases e2
  obtain ⟨z, rfl⟩ := k2
  have h2 : (Jvm.Cond.eq t (Term.int k)).value args first o s idx = some (decide (z = k)) := by simp [Cond.value, e1, Term.int_eval]
  rw [gotT h2 h] at e1
  exact e1
theorem own_ord {args : Array Value} {s : State} {t : Term} {x : Addr} {C n : String} {k : Int32} (ev : t.eval args s none [] s = some (.ref x)) (h : (Jvm.Cond.eq (Term.field t C n "I") (Term.int k)).value args s none s [] = some true) : Fld s s.heap x C n "I" (.int k) :=
  Fld.start ((fld_at ev).symm.trans (own_eqi h))
theorem own_sta_keep {Z : State} {h h' : Heap} {C n d D : String} {v : Value} {a : Addr} (F : Sta Z h C n d v) (K : Keep h h' [a]) (E : Exa Z h a D) : Sta Z h' C n d v := by
  obtain ⟨cf, i, k, f, st, cell, h1, h2, h3, h4, h5, h6, h7⟩ := F
  refine ⟨cf, i, k, f, st, cell, h1, h2, h3, h4, K.2.1 st cell h5 (fun q => ?_), h6, h7⟩
  obtain ⟨cell', k', g1, -, -, g4, -⟩ := E
  cases List.mem_singleton.mp q
  rw [h5] at g1
  cases g1
  rw [h6] at g4
  cases g4
end OwnKit
theorem ef_dg (m : MethodId) (x0 : Int32) (x1 : Int32) : entryFrame m #[(.int x0), (.int x1)] 4 = mkF m 0 #[.val (.int x0), .val (.int x1), .unset, .unset] [] := by first | (simp [entryFrame, mkF, argsToLocals, Value.category]; done) | rfl
theorem pn_0 : plainName "com/example/ledgerwalk/ledgerwalk/load/EightBytesValueOfDigitsPinLaw" = true := by first | (simp [plainName, overriddenIn]; done) | decide +kernel
theorem d_dg_0 : decode method_3_code 0 = .ok (.bipush 48, 2) := by decide +kernel
theorem d_dg_2 : decode method_3_code 2 = .ok (.iload_n 0, 1) := by decide +kernel
theorem d_dg_3 : decode method_3_code 3 = .ok (.bipush 10, 2) := by decide +kernel
theorem d_dg_5 : decode method_3_code 5 = .ok (.irem, 1) := by decide +kernel
theorem d_dg_6 : decode method_3_code 6 = .ok (.iadd, 1) := by decide +kernel
theorem d_dg_7 : decode method_3_code 7 = .ok (.i2l, 1) := by decide +kernel
theorem d_dg_8 : decode method_3_code 8 = .ok (.lstore_n 2, 1) := by decide +kernel
theorem d_dg_9 : decode method_3_code 9 = .ok (.lload_n 2, 1) := by decide +kernel
theorem d_dg_10 : decode method_3_code 10 = .ok (.bipush 8, 2) := by decide +kernel
theorem d_dg_12 : decode method_3_code 12 = .ok (.iload_n 1, 1) := by decide +kernel
theorem d_dg_13 : decode method_3_code 13 = .ok (.imul, 1) := by decide +kernel
theorem d_dg_14 : decode method_3_code 14 = .ok (.lshl, 1) := by decide +kernel
theorem d_dg_15 : decode method_3_code 15 = .ok (.lreturn, 1) := by decide +kernel
theorem ef_vl (m : MethodId) (x0 : Int64) : entryFrame m #[(.long x0)] 6 = mkF m 0 #[.val (.long x0), .second, .unset, .unset, .unset, .unset] [] := by first | (simp [entryFrame, mkF, argsToLocals, Value.category]; done) | rfl
theorem pn_1 : plainName "com/example/ledgerwalk/ledgerwalk/load/EightBytes" = true := by first | (simp [plainName, overriddenIn]; done) | decide +kernel
theorem d_vl_0 : decode prog_180_method_5_code 0 = .ok (.lload_n 0, 1) := by decide +kernel
theorem d_vl_1 : decode prog_180_method_5_code 1 = .ok (.ldc2_w 33, 3) := by decide +kernel
theorem d_vl_4 : decode prog_180_method_5_code 4 = .ok (.land, 1) := by decide +kernel
theorem d_vl_5 : decode prog_180_method_5_code 5 = .ok (.ldc2_w 35, 3) := by decide +kernel
theorem d_vl_8 : decode prog_180_method_5_code 8 = .ok (.lmul, 1) := by decide +kernel
theorem d_vl_9 : decode prog_180_method_5_code 9 = .ok (.bipush 8, 2) := by decide +kernel
theorem d_vl_11 : decode prog_180_method_5_code 11 = .ok (.lushr, 1) := by decide +kernel
theorem d_vl_12 : decode prog_180_method_5_code 12 = .ok (.lstore_n 2, 1) := by decide +kernel
theorem d_vl_13 : decode prog_180_method_5_code 13 = .ok (.lload_n 2, 1) := by decide +kernel
theorem d_vl_14 : decode prog_180_method_5_code 14 = .ok (.ldc2_w 37, 3) := by decide +kernel
theorem d_vl_17 : decode prog_180_method_5_code 17 = .ok (.land, 1) := by decide +kernel
theorem d_vl_18 : decode prog_180_method_5_code 18 = .ok (.ldc2_w 39, 3) := by decide +kernel
theorem d_vl_21 : decode prog_180_method_5_code 21 = .ok (.lmul, 1) := by decide +kernel
theorem d_vl_22 : decode prog_180_method_5_code 22 = .ok (.bipush 16, 2) := by decide +kernel
theorem d_vl_24 : decode prog_180_method_5_code 24 = .ok (.lushr, 1) := by decide +kernel
theorem d_vl_25 : decode prog_180_method_5_code 25 = .ok (.lstore 4, 2) := by decide +kernel
theorem d_vl_27 : decode prog_180_method_5_code 27 = .ok (.lload 4, 2) := by decide +kernel
theorem d_vl_29 : decode prog_180_method_5_code 29 = .ok (.ldc2_w 41, 3) := by decide +kernel
theorem d_vl_32 : decode prog_180_method_5_code 32 = .ok (.land, 1) := by decide +kernel
theorem d_vl_33 : decode prog_180_method_5_code 33 = .ok (.ldc2_w 43, 3) := by decide +kernel
theorem d_vl_36 : decode prog_180_method_5_code 36 = .ok (.lmul, 1) := by decide +kernel
theorem d_vl_37 : decode prog_180_method_5_code 37 = .ok (.bipush 32, 2) := by decide +kernel
theorem d_vl_39 : decode prog_180_method_5_code 39 = .ok (.lushr, 1) := by decide +kernel
theorem d_vl_40 : decode prog_180_method_5_code 40 = .ok (.lreturn, 1) := by decide +kernel
theorem ef_law (m : MethodId) (x0 : Int32) : entryFrame m #[(.int x0)] maxLocals = mkF m 0 #[.val (.int x0), .unset, .unset, .unset] [] := by first | (simp [entryFrame, mkF, argsToLocals, Value.category, maxLocals]; done) | rfl
theorem pd_0 : parseMethodDescriptor "(II)J" = some ⟨[.int, .int], some .long⟩ := by decide +kernel
theorem pd_1 : parseMethodDescriptor "(J)J" = some ⟨[.long], some .long⟩ := by decide +kernel
def own_dig (q i : Int32) : Int64 := ((48 : Int32) + q % (10 : Int32)).toInt64 <<< (((8 : Int32) * i).toInt64 &&& 63)
def own_v1 (z : Int64) : Int64 := XT.ushrL ((z &&& (1085102592571150095 : Int64)) * (2561 : Int64)) (8 : Int32)
def own_v2 (z : Int64) : Int64 := XT.ushrL ((z &&& (71777214294589695 : Int64)) * (6553601 : Int64)) (16 : Int32)
def own_v3 (z : Int64) : Int64 := XT.ushrL ((z &&& (281470681808895 : Int64)) * (42949672960001 : Int64)) (32 : Int32)
def own_val (z : Int64) : Int64 := own_v3 (own_v2 (own_v1 z))
set_option maxRecDepth 65536 in
set_option maxHeartbeats 40000000 in
theorem rm_dg (l : Launch) (Z : State) (a0 : Array Value) (hw : ∀ d ∈ tables_1, d.before a0 Z = true) (q i : Int32) (h0 : Heap)  :
    Pays l Z (⟨"com/example/ledgerwalk/ledgerwalk/load/EightBytesValueOfDigitsPinLaw", "digitByte", "(II)J"⟩ : MethodName) method_3_code 4 (some .long) ({ frames := 0, cells := 0, slots := 0, locals := 0 } : Room) #[(.int q), (.int i)] h0 (own_pure (some (.long (own_dig q i))) h0) := by
  refine MetFree.of_bodySF (plainFor_of_name pn_0) hisR ?_
  intro p e s m args below meth c s₁ Bd hml0 hP hK
  obtain ⟨rfl, hZ, hh⟩ := hP
  have hx := Bd.exec
  have hby := Bd.bytes
  have hml : c.maxLocals = 4 := hml0
  have hown : s.vm.findClass "com/example/ledgerwalk/ledgerwalk/load/EightBytesValueOfDigitsPinLaw" = some m.cls := findClass_of_methodNamed Bd.named
  have hnm := (name_of_methodNamed Bd.named Bd.method).1
  have hlk : meth.locks = false := BodyLoose.notSynchronized Bd
  have X0 : Stand p l e ({ frames := 0, cells := 0, slots := 0, locals := 0 } : Room) s m #[(.int q), (.int i)] below meth c s₁ [] 0 0 := Stand.of_body Bd
  have e0 : s₁.heap = h0 := by rw [← hh, Bd.state]; rfl
  show Goes p e below s (own_pure (some (.long (own_dig q i))) h0) ({ frames := 0, cells := 0, slots := 0, locals := 0 } : Room).cells ({ frames := 0, cells := 0, slots := 0, locals := 0 } : Room).slots s₁ (entryFrame m #[(.int q), (.int i)] 4)
  rw [ef_dg m q i]
  refine own_go (T' := s₁) (g' := (mkF m 2 #[.val (.int q), .val (.int i), .unset, .unset] [(.int (48 : Int32))])) (fun t_ K => XS.bipush X0.here hx rfl (hb hby d_dg_0) K) ?_
  refine own_go (T' := s₁) (g' := (mkF m 3 #[.val (.int q), .val (.int i), .unset, .unset] [(.int q), (.int (48 : Int32))])) (fun t_ K => XS.iloadN X0.here hx rfl (hb hby d_dg_2) rfl K) ?_
  refine own_go (T' := s₁) (g' := (mkF m 5 #[.val (.int q), .val (.int i), .unset, .unset] [(.int (10 : Int32)), (.int q), (.int (48 : Int32))])) (fun t_ K => XS.bipush X0.here hx rfl (hb hby d_dg_3) K) ?_
  refine own_go (T' := s₁) (g' := (mkF m 6 #[.val (.int q), .val (.int i), .unset, .unset] [(.int (q % (10 : Int32))), (.int (48 : Int32))])) (fun t_ K => iremM X0 hx rfl (hb hby d_dg_5) rfl (by decide) K) ?_
  refine own_go (T' := s₁) (g' := (mkF m 7 #[.val (.int q), .val (.int i), .unset, .unset] [(.int ((48 : Int32) + (q % (10 : Int32))))])) (fun t_ K => XS.iadd X0.here hx rfl (hb hby d_dg_6) rfl K) ?_
  refine own_go (T' := s₁) (g' := (mkF m 8 #[.val (.int q), .val (.int i), .unset, .unset] [(.long (((48 : Int32) + (q % (10 : Int32))).toInt64))])) (fun t_ K => XT.i2l X0.here hx rfl (hb hby d_dg_7) rfl K) ?_
  refine own_go (T' := s₁) (g' := (mkF m 9 #[.val (.int q), .val (.int i), .val (.long (((48 : Int32) + (q % (10 : Int32))).toInt64)), .second] [])) (fun t_ K => XS.lstoreN X0.here hx rfl (hb hby d_dg_8) rfl (l' := #[.val (.int q), .val (.int i), .val (.long (((48 : Int32) + (q % (10 : Int32))).toInt64)), .second]) rfl K) ?_
  refine own_go (T' := s₁) (g' := (mkF m 10 #[.val (.int q), .val (.int i), .val (.long (((48 : Int32) + (q % (10 : Int32))).toInt64)), .second] [(.long (((48 : Int32) + (q % (10 : Int32))).toInt64))])) (fun t_ K => XS.lloadN X0.here hx rfl (hb hby d_dg_9) rfl K) ?_
  refine own_go (T' := s₁) (g' := (mkF m 12 #[.val (.int q), .val (.int i), .val (.long (((48 : Int32) + (q % (10 : Int32))).toInt64)), .second] [(.int (8 : Int32)), (.long (((48 : Int32) + (q % (10 : Int32))).toInt64))])) (fun t_ K => XS.bipush X0.here hx rfl (hb hby d_dg_10) K) ?_
  refine own_go (T' := s₁) (g' := (mkF m 13 #[.val (.int q), .val (.int i), .val (.long (((48 : Int32) + (q % (10 : Int32))).toInt64)), .second] [(.int i), (.int (8 : Int32)), (.long (((48 : Int32) + (q % (10 : Int32))).toInt64))])) (fun t_ K => XS.iloadN X0.here hx rfl (hb hby d_dg_12) rfl K) ?_
  refine own_go (T' := s₁) (g' := (mkF m 14 #[.val (.int q), .val (.int i), .val (.long (((48 : Int32) + (q % (10 : Int32))).toInt64)), .second] [(.int ((8 : Int32) * i)), (.long (((48 : Int32) + (q % (10 : Int32))).toInt64))])) (fun t_ K => XS.imul X0.here hx rfl (hb hby d_dg_13) rfl K) ?_
  refine own_go (T' := s₁) (g' := (mkF m 15 #[.val (.int q), .val (.int i), .val (.long (((48 : Int32) + (q % (10 : Int32))).toInt64)), .second] [(.long ((((48 : Int32) + (q % (10 : Int32))).toInt64) <<< (((8 : Int32) * i).toInt64 &&& 63)))])) (fun t_ K => XT.lshl X0.here hx rfl (hb hby d_dg_14) rfl K) ?_
  exact own_retJ X0 hx Bd.returns hlk (hb hby d_dg_15) ⟨rfl, rfl, e0⟩ (by decide) (by decide)
set_option maxRecDepth 65536 in
set_option maxHeartbeats 40000000 in
theorem rm_vl (l : Launch) (Z : State) (a0 : Array Value) (hw : ∀ d ∈ tables_1, d.before a0 Z = true) (z : Int64) (h0 : Heap)  :
    Pays l Z (⟨"com/example/ledgerwalk/ledgerwalk/load/EightBytes", "valueOfDigits", "(J)J"⟩ : MethodName) prog_180_method_5_code 6 (some .long) ({ frames := 0, cells := 0, slots := 0, locals := 0 } : Room) #[(.long z)] h0 (own_pure (some (.long (own_val z))) h0) := by
  refine MetFree.of_bodySF (plainFor_of_name pn_1) hisR ?_
  intro p e s m args below meth c s₁ Bd hml0 hP hK
  obtain ⟨rfl, hZ, hh⟩ := hP
  have hx := Bd.exec
  have hby := Bd.bytes
  have hml : c.maxLocals = 6 := hml0
  have hown : s.vm.findClass "com/example/ledgerwalk/ledgerwalk/load/EightBytes" = some m.cls := findClass_of_methodNamed Bd.named
  have hnm := (name_of_methodNamed Bd.named Bd.method).1
  have hlk : meth.locks = false := BodyLoose.notSynchronized Bd
  have X0 : Stand p l e ({ frames := 0, cells := 0, slots := 0, locals := 0 } : Room) s m #[(.long z)] below meth c s₁ [] 0 0 := Stand.of_body Bd
  have e0 : s₁.heap = h0 := by rw [← hh, Bd.state]; rfl
  show Goes p e below s (own_pure (some (.long (own_val z))) h0) ({ frames := 0, cells := 0, slots := 0, locals := 0 } : Room).cells ({ frames := 0, cells := 0, slots := 0, locals := 0 } : Room).slots s₁ (entryFrame m #[(.long z)] 6)
  rw [ef_vl m z]
  refine own_go (T' := s₁) (g' := (mkF m 1 #[.val (.long z), .second, .unset, .unset, .unset, .unset] [(.long z)])) (fun t_ K => XS.lloadN X0.here hx rfl (hb hby d_vl_0) rfl K) ?_
  refine own_go (T' := s₁) (g' := (mkF m 4 #[.val (.long z), .second, .unset, .unset, .unset, .unset] [(.long (1085102592571150095 : Int64)), (.long z)])) (fun t_ K => X0.ldc2Long hx hown (mvT hZ (hw _ (List.mem_of_getElem? (i := 13) rfl))) (g := (mkF m 1 #[.val (.long z), .second, .unset, .unset, .unset, .unset] [(.long z)])) rfl (hb hby d_vl_1) _ K) ?_
  refine own_go (T' := s₁) (g' := (mkF m 5 #[.val (.long z), .second, .unset, .unset, .unset, .unset] [(.long (z &&& (1085102592571150095 : Int64)))])) (fun t_ K => XT.land X0.here hx rfl (hb hby d_vl_4) rfl K) ?_
  refine own_go (T' := s₁) (g' := (mkF m 8 #[.val (.long z), .second, .unset, .unset, .unset, .unset] [(.long (2561 : Int64)), (.long (z &&& (1085102592571150095 : Int64)))])) (fun t_ K => X0.ldc2Long hx hown (mvT hZ (hw _ (List.mem_of_getElem? (i := 14) rfl))) (g := (mkF m 5 #[.val (.long z), .second, .unset, .unset, .unset, .unset] [(.long (z &&& (1085102592571150095 : Int64)))])) rfl (hb hby d_vl_5) _ K) ?_
  refine own_go (T' := s₁) (g' := (mkF m 9 #[.val (.long z), .second, .unset, .unset, .unset, .unset] [(.long ((z &&& (1085102592571150095 : Int64)) * (2561 : Int64)))])) (fun t_ K => XT.lmul X0.here hx rfl (hb hby d_vl_8) rfl K) ?_
  refine own_go (T' := s₁) (g' := (mkF m 11 #[.val (.long z), .second, .unset, .unset, .unset, .unset] [(.int (8 : Int32)), (.long ((z &&& (1085102592571150095 : Int64)) * (2561 : Int64)))])) (fun t_ K => XS.bipush X0.here hx rfl (hb hby d_vl_9) K) ?_
  refine own_go (T' := s₁) (g' := (mkF m 12 #[.val (.long z), .second, .unset, .unset, .unset, .unset] [(.long (XT.ushrL ((z &&& (1085102592571150095 : Int64)) * (2561 : Int64)) (8 : Int32)))])) (fun t_ K => XT.lushr X0.here hx rfl (hb hby d_vl_11) rfl K) ?_
  show Goes p e below s (own_pure (some (.long (own_val z))) h0) ({ frames := 0, cells := 0, slots := 0, locals := 0 } : Room).cells ({ frames := 0, cells := 0, slots := 0, locals := 0 } : Room).slots s₁ (mkF m 12 #[.val (.long z), .second, .unset, .unset, .unset, .unset] [(.long (own_v1 z))])
  refine own_go (T' := s₁) (g' := (mkF m 13 #[.val (.long z), .second, .val (.long (own_v1 z)), .second, .unset, .unset] [])) (fun t_ K => XS.lstoreN X0.here hx rfl (hb hby d_vl_12) rfl (l' := #[.val (.long z), .second, .val (.long (own_v1 z)), .second, .unset, .unset]) rfl K) ?_
  refine own_go (T' := s₁) (g' := (mkF m 14 #[.val (.long z), .second, .val (.long (own_v1 z)), .second, .unset, .unset] [(.long (own_v1 z))])) (fun t_ K => XS.lloadN X0.here hx rfl (hb hby d_vl_13) rfl K) ?_
  refine own_go (T' := s₁) (g' := (mkF m 17 #[.val (.long z), .second, .val (.long (own_v1 z)), .second, .unset, .unset] [(.long (71777214294589695 : Int64)), (.long (own_v1 z))])) (fun t_ K => X0.ldc2Long hx hown (mvT hZ (hw _ (List.mem_of_getElem? (i := 15) rfl))) (g := (mkF m 14 #[.val (.long z), .second, .val (.long (own_v1 z)), .second, .unset, .unset] [(.long (own_v1 z))])) rfl (hb hby d_vl_14) _ K) ?_
  refine own_go (T' := s₁) (g' := (mkF m 18 #[.val (.long z), .second, .val (.long (own_v1 z)), .second, .unset, .unset] [(.long ((own_v1 z) &&& (71777214294589695 : Int64)))])) (fun t_ K => XT.land X0.here hx rfl (hb hby d_vl_17) rfl K) ?_
  refine own_go (T' := s₁) (g' := (mkF m 21 #[.val (.long z), .second, .val (.long (own_v1 z)), .second, .unset, .unset] [(.long (6553601 : Int64)), (.long ((own_v1 z) &&& (71777214294589695 : Int64)))])) (fun t_ K => X0.ldc2Long hx hown (mvT hZ (hw _ (List.mem_of_getElem? (i := 16) rfl))) (g := (mkF m 18 #[.val (.long z), .second, .val (.long (own_v1 z)), .second, .unset, .unset] [(.long ((own_v1 z) &&& (71777214294589695 : Int64)))])) rfl (hb hby d_vl_18) _ K) ?_
  refine own_go (T' := s₁) (g' := (mkF m 22 #[.val (.long z), .second, .val (.long (own_v1 z)), .second, .unset, .unset] [(.long (((own_v1 z) &&& (71777214294589695 : Int64)) * (6553601 : Int64)))])) (fun t_ K => XT.lmul X0.here hx rfl (hb hby d_vl_21) rfl K) ?_
  refine own_go (T' := s₁) (g' := (mkF m 24 #[.val (.long z), .second, .val (.long (own_v1 z)), .second, .unset, .unset] [(.int (16 : Int32)), (.long (((own_v1 z) &&& (71777214294589695 : Int64)) * (6553601 : Int64)))])) (fun t_ K => XS.bipush X0.here hx rfl (hb hby d_vl_22) K) ?_
  refine own_go (T' := s₁) (g' := (mkF m 25 #[.val (.long z), .second, .val (.long (own_v1 z)), .second, .unset, .unset] [(.long (XT.ushrL (((own_v1 z) &&& (71777214294589695 : Int64)) * (6553601 : Int64)) (16 : Int32)))])) (fun t_ K => XT.lushr X0.here hx rfl (hb hby d_vl_24) rfl K) ?_
  show Goes p e below s (own_pure (some (.long (own_val z))) h0) ({ frames := 0, cells := 0, slots := 0, locals := 0 } : Room).cells ({ frames := 0, cells := 0, slots := 0, locals := 0 } : Room).slots s₁ (mkF m 25 #[.val (.long z), .second, .val (.long (own_v1 z)), .second, .unset, .unset] [(.long (own_v2 (own_v1 z)))])
  refine own_go (T' := s₁) (g' := (mkF m 27 #[.val (.long z), .second, .val (.long (own_v1 z)), .second, .val (.long (own_v2 (own_v1 z))), .second] [])) (fun t_ K => XS.lstore X0.here hx rfl (hb hby d_vl_25) rfl (l' := #[.val (.long z), .second, .val (.long (own_v1 z)), .second, .val (.long (own_v2 (own_v1 z))), .second]) rfl K) ?_
  refine own_go (T' := s₁) (g' := (mkF m 29 #[.val (.long z), .second, .val (.long (own_v1 z)), .second, .val (.long (own_v2 (own_v1 z))), .second] [(.long (own_v2 (own_v1 z)))])) (fun t_ K => XS.lload X0.here hx rfl (hb hby d_vl_27) rfl K) ?_
  refine own_go (T' := s₁) (g' := (mkF m 32 #[.val (.long z), .second, .val (.long (own_v1 z)), .second, .val (.long (own_v2 (own_v1 z))), .second] [(.long (281470681808895 : Int64)), (.long (own_v2 (own_v1 z)))])) (fun t_ K => X0.ldc2Long hx hown (mvT hZ (hw _ (List.mem_of_getElem? (i := 17) rfl))) (g := (mkF m 29 #[.val (.long z), .second, .val (.long (own_v1 z)), .second, .val (.long (own_v2 (own_v1 z))), .second] [(.long (own_v2 (own_v1 z)))])) rfl (hb hby d_vl_29) _ K) ?_
  refine own_go (T' := s₁) (g' := (mkF m 33 #[.val (.long z), .second, .val (.long (own_v1 z)), .second, .val (.long (own_v2 (own_v1 z))), .second] [(.long ((own_v2 (own_v1 z)) &&& (281470681808895 : Int64)))])) (fun t_ K => XT.land X0.here hx rfl (hb hby d_vl_32) rfl K) ?_
  refine own_go (T' := s₁) (g' := (mkF m 36 #[.val (.long z), .second, .val (.long (own_v1 z)), .second, .val (.long (own_v2 (own_v1 z))), .second] [(.long (42949672960001 : Int64)), (.long ((own_v2 (own_v1 z)) &&& (281470681808895 : Int64)))])) (fun t_ K => X0.ldc2Long hx hown (mvT hZ (hw _ (List.mem_of_getElem? (i := 18) rfl))) (g := (mkF m 33 #[.val (.long z), .second, .val (.long (own_v1 z)), .second, .val (.long (own_v2 (own_v1 z))), .second] [(.long ((own_v2 (own_v1 z)) &&& (281470681808895 : Int64)))])) rfl (hb hby d_vl_33) _ K) ?_
  refine own_go (T' := s₁) (g' := (mkF m 37 #[.val (.long z), .second, .val (.long (own_v1 z)), .second, .val (.long (own_v2 (own_v1 z))), .second] [(.long (((own_v2 (own_v1 z)) &&& (281470681808895 : Int64)) * (42949672960001 : Int64)))])) (fun t_ K => XT.lmul X0.here hx rfl (hb hby d_vl_36) rfl K) ?_
  refine own_go (T' := s₁) (g' := (mkF m 39 #[.val (.long z), .second, .val (.long (own_v1 z)), .second, .val (.long (own_v2 (own_v1 z))), .second] [(.int (32 : Int32)), (.long (((own_v2 (own_v1 z)) &&& (281470681808895 : Int64)) * (42949672960001 : Int64)))])) (fun t_ K => XS.bipush X0.here hx rfl (hb hby d_vl_37) K) ?_
  refine own_go (T' := s₁) (g' := (mkF m 40 #[.val (.long z), .second, .val (.long (own_v1 z)), .second, .val (.long (own_v2 (own_v1 z))), .second] [(.long (XT.ushrL (((own_v2 (own_v1 z)) &&& (281470681808895 : Int64)) * (42949672960001 : Int64)) (32 : Int32)))])) (fun t_ K => XT.lushr X0.here hx rfl (hb hby d_vl_39) rfl K) ?_
  show Goes p e below s (own_pure (some (.long (own_val z))) h0) ({ frames := 0, cells := 0, slots := 0, locals := 0 } : Room).cells ({ frames := 0, cells := 0, slots := 0, locals := 0 } : Room).slots s₁ (mkF m 40 #[.val (.long z), .second, .val (.long (own_v1 z)), .second, .val (.long (own_v2 (own_v1 z))), .second] [(.long (own_val z))])
  exact own_retJ X0 hx Bd.returns hlk (hb hby d_vl_40) ⟨rfl, rfl, e0⟩ (by decide) (by decide)
def own_n (x : Int32) : Int32 := (x &&& (2147483647 : Int32)) % (100000000 : Int32)
def own_eight (n : Int32) : Int64 := (((((((own_dig (n / (10000000 : Int32)) (0 : Int32)) ||| own_dig (n / (1000000 : Int32)) (1 : Int32)) ||| own_dig (n / (100000 : Int32)) (2 : Int32)) ||| own_dig (n / (10000 : Int32)) (3 : Int32)) ||| own_dig (n / (1000 : Int32)) (4 : Int32)) ||| own_dig (n / (100 : Int32)) (5 : Int32)) ||| own_dig (n / (10 : Int32)) (6 : Int32)) ||| own_dig n (7 : Int32)
theorem own_lane (k a b c d : Nat) (ha : a < 2 ^ k) (hc : c < 2 ^ k) : (2 ^ k * b + a) &&& (2 ^ k * d + c) = 2 ^ k * (b &&& d) + (a &&& c) := by
  have hac : a &&& c < 2 ^ k := Nat.and_lt_two_pow a hc
  refine Nat.eq_of_testBit_eq fun j => ?_
  rw [Nat.testBit_and, Nat.testBit_two_pow_mul_add b ha, Nat.testBit_two_pow_mul_add d hc, Nat.testBit_two_pow_mul_add _ hac]
  split
  · rw [Nat.testBit_and]
  · rw [Nat.testBit_and]
theorem own_orl (k s c : Nat) (hs : s < 2 ^ k) : s ||| 2 ^ k * c = 2 ^ k * c + s := by
  rw [Nat.or_comm, Nat.two_pow_add_eq_or_of_lt hs]
theorem own_ushr (x : Int64) (y : Int32) (k : Nat) (hy : ((y.toInt64.toUInt64 &&& Int64.toUInt64 63).toBitVec % 64#64).toNat = k) : (XT.ushrL x y).toBitVec.toNat = x.toBitVec.toNat / 2 ^ k := by
  have e : (XT.ushrL x y).toBitVec = x.toBitVec >>> k := by
    show x.toBitVec >>> ((y.toInt64.toUInt64 &&& Int64.toUInt64 63).toBitVec % 64#64) = _
    rw [BitVec.ushiftRight_eq', hy]
  rw [e, BitVec.toNat_ushiftRight, Nat.shiftRight_eq_div_pow]
theorem own_nn (z : Int64) (h : 0 ≤ z.toInt) : z.toBitVec.toNat = z.toInt.toNat := by
  have e : z.toInt = z.toBitVec.toInt := rfl
  rw [e] at h ⊢
  rw [BitVec.toInt_eq_toNat_cond] at h ⊢
  have := z.toBitVec.isLt
  split
  · rfl
  · split at h
    · contradiction
    · omega
theorem own_digv (q i : Int32) (k : Nat) (hq : 0 ≤ q.toInt) (hk : ((((8 : Int32) * i).toInt64 &&& 63).toBitVec.smod 64).toNat = k) (hk2 : k ≤ 56) : (own_dig q i).toBitVec.toNat = 2 ^ k * (48 + q.toInt.toNat % 10) := by
  have c10 : (10 : Int32).toInt = 10 := by decide
  have c48 : (48 : Int32).toInt = 48 := by decide
  have e1 : (q % (10 : Int32)).toInt = q.toInt % 10 := by rw [Jvm.Kit.i32_rem_nonneg hq, c10]
  have e2 : ((48 : Int32) + q % (10 : Int32)).toInt = 48 + q.toInt % 10 := by rw [Jvm.Kit.i32_add (by rw [c48, e1]; omega) (by rw [c48, e1]; omega), c48, e1]
  have e3 : (((48 : Int32) + q % (10 : Int32)).toInt64).toBitVec.toNat = 48 + q.toInt.toNat % 10 := by
    rw [own_nn _ (by rw [Jvm.Kit.i64_of_i32, e2]; omega), Jvm.Kit.i64_of_i32, e2]; omega
  have e4 : (own_dig q i).toBitVec = (((48 : Int32) + q % (10 : Int32)).toInt64).toBitVec <<< k := by
    show (((48 : Int32) + q % (10 : Int32)).toInt64 <<< (((8 : Int32) * i).toInt64 &&& 63)).toBitVec = _
    rw [Int64.toBitVec_shiftLeft, BitVec.shiftLeft_eq', hk]
  rw [e4, BitVec.toNat_shiftLeft, e3, Nat.shiftLeft_eq, Nat.mul_comm]
  refine Nat.mod_eq_of_lt ?_
  have h1 : 2 ^ k ≤ 2 ^ 56 := Nat.pow_le_pow_right (by decide) hk2
  have h2 : 48 + q.toInt.toNat % 10 < 58 := by omega
  calc 2 ^ k * (48 + q.toInt.toNat % 10) ≤ 2 ^ 56 * 58 := Nat.mul_le_mul h1 (Nat.le_of_lt h2)
    _ < 2 ^ 64 := by decide
theorem own_and15 (d : Nat) (h : d < 10) : (48 + d) &&& 15 = d := by
  rw [show (15 : Nat) = 2 ^ 4 - 1 from rfl, Nat.and_two_pow_sub_one_eq_mod]; omega
theorem own_and255 (d : Nat) (h : d < 256) : d &&& 255 = d := by
  rw [show (255 : Nat) = 2 ^ 8 - 1 from rfl, Nat.and_two_pow_sub_one_eq_mod]; omega
theorem own_and65535 (d : Nat) (h : d < 65536) : d &&& 65535 = d := by
  rw [show (65535 : Nat) = 2 ^ 16 - 1 from rfl, Nat.and_two_pow_sub_one_eq_mod]; omega
/-- the eight bytes as one number -/
theorem own_bytes (d0 d1 d2 d3 d4 d5 d6 d7 : Nat) (h0 : d0 < 10) (h1 : d1 < 10) (h2 : d2 < 10) (h3 : d3 < 10) (h4 : d4 < 10) (h5 : d5 < 10) (h6 : d6 < 10) (h7 : d7 < 10) :
    (2 ^ 0 * (48 + d0) ||| 2 ^ 8 * (48 + d1) ||| 2 ^ 16 * (48 + d2) ||| 2 ^ 24 * (48 + d3) ||| 2 ^ 32 * (48 + d4) ||| 2 ^ 40 * (48 + d5) ||| 2 ^ 48 * (48 + d6) ||| 2 ^ 56 * (48 + d7))
      = 2 ^ 8 * (2 ^ 8 * (2 ^ 8 * (2 ^ 8 * (2 ^ 8 * (2 ^ 8 * (2 ^ 8 * (48 + d7) + (48 + d6)) + (48 + d5)) + (48 + d4)) + (48 + d3)) + (48 + d2)) + (48 + d1)) + (48 + d0) := by
  rw [own_orl 8 _ _ (by omega), own_orl 16 _ _ (by omega), own_orl 24 _ _ (by omega), own_orl 32 _ _ (by omega), own_orl 40 _ _ (by omega), own_orl 48 _ _ (by omega), own_orl 56 _ _ (by omega)]
  omega
theorem own_mask1 (d0 d1 d2 d3 d4 d5 d6 d7 : Nat) (h0 : d0 < 10) (h1 : d1 < 10) (h2 : d2 < 10) (h3 : d3 < 10) (h4 : d4 < 10) (h5 : d5 < 10) (h6 : d6 < 10) (h7 : d7 < 10) :
    (2 ^ 8 * (2 ^ 8 * (2 ^ 8 * (2 ^ 8 * (2 ^ 8 * (2 ^ 8 * (2 ^ 8 * (48 + d7) + (48 + d6)) + (48 + d5)) + (48 + d4)) + (48 + d3)) + (48 + d2)) + (48 + d1)) + (48 + d0)) &&& 1085102592571150095
      = 2 ^ 8 * (2 ^ 8 * (2 ^ 8 * (2 ^ 8 * (2 ^ 8 * (2 ^ 8 * (2 ^ 8 * d7 + d6) + d5) + d4) + d3) + d2) + d1) + d0 := by
  rw [show (1085102592571150095 : Nat) = 2 ^ 8 * (2 ^ 8 * (2 ^ 8 * (2 ^ 8 * (2 ^ 8 * (2 ^ 8 * (2 ^ 8 * 15 + 15) + 15) + 15) + 15) + 15) + 15) + 15 from rfl]
  rw [own_lane 8 _ _ _ _ (by omega) (by omega), own_lane 8 _ _ _ _ (by omega) (by omega), own_lane 8 _ _ _ _ (by omega) (by omega), own_lane 8 _ _ _ _ (by omega) (by omega), own_lane 8 _ _ _ _ (by omega) (by omega), own_lane 8 _ _ _ _ (by omega) (by omega), own_lane 8 _ _ _ _ (by omega) (by omega)]
  rw [own_and15 _ h0, own_and15 _ h1, own_and15 _ h2, own_and15 _ h3, own_and15 _ h4, own_and15 _ h5, own_and15 _ h6, own_and15 _ h7]
theorem own_dm (X q a r k : Nat) (h : X = 2 ^ 64 * q + (2 ^ k * a + r)) (hr : r < 2 ^ k) (hl : 2 ^ k * a + r < 2 ^ 64) : X % 2 ^ 64 / 2 ^ k = a := by
  rw [h, Nat.mul_add_mod, Nat.mod_eq_of_lt hl, Nat.mul_add_div (Nat.two_pow_pos k), Nat.div_eq_of_lt hr, Nat.add_zero]
theorem own_step1 (d0 d1 d2 d3 d4 d5 d6 d7 : Nat) (h0 : d0 < 10) (h1 : d1 < 10) (h2 : d2 < 10) (h3 : d3 < 10) (h4 : d4 < 10) (h5 : d5 < 10) (h6 : d6 < 10) (h7 : d7 < 10) :
    (2 ^ 8 * (2 ^ 8 * (2 ^ 8 * (2 ^ 8 * (2 ^ 8 * (2 ^ 8 * (2 ^ 8 * d7 + d6) + d5) + d4) + d3) + d2) + d1) + d0) * 2561 % 2 ^ 64 / 2 ^ 8
      = 2 ^ 8 * (2 ^ 8 * (2 ^ 8 * (2 ^ 8 * (2 ^ 8 * (2 ^ 8 * (d7 + 10 * d6) + (d6 + 10 * d5)) + (d5 + 10 * d4)) + (d4 + 10 * d3)) + (d3 + 10 * d2)) + (d2 + 10 * d1)) + (d1 + 10 * d0) := by
  exact own_dm _ (10 * d7) _ d0 8 (by omega) (by omega) (by omega)
theorem own_mask2 (p0 p1 p2 p3 p4 p5 p6 : Nat) (h0 : p0 < 100) (h1 : p1 < 100) (h2 : p2 < 100) (h3 : p3 < 100) (h4 : p4 < 100) (h5 : p5 < 100) (h6 : p6 < 100) :
    (2 ^ 8 * (2 ^ 8 * (2 ^ 8 * (2 ^ 8 * (2 ^ 8 * (2 ^ 8 * p6 + p5) + p4) + p3) + p2) + p1) + p0) &&& 71777214294589695 = 2 ^ 16 * (2 ^ 16 * (2 ^ 16 * p6 + p4) + p2) + p0 := by
  rw [show (71777214294589695 : Nat) = 2 ^ 8 * (2 ^ 8 * (2 ^ 8 * (2 ^ 8 * (2 ^ 8 * (2 ^ 8 * 255 + 0) + 255) + 0) + 255) + 0) + 255 from rfl]
  rw [own_lane 8 _ _ _ _ (by omega) (by omega), own_lane 8 _ _ _ _ (by omega) (by omega), own_lane 8 _ _ _ _ (by omega) (by omega), own_lane 8 _ _ _ _ (by omega) (by omega), own_lane 8 _ _ _ _ (by omega) (by omega), own_lane 8 _ _ _ _ (by omega) (by omega)]
  rw [own_and255 p0 (by omega), own_and255 p2 (by omega), own_and255 p4 (by omega), own_and255 p6 (by omega), Nat.and_zero, Nat.and_zero, Nat.and_zero]
  omega
theorem own_step2 (p0 p2 p4 p6 : Nat) (h0 : p0 < 100) (h2 : p2 < 100) (h4 : p4 < 100) (h6 : p6 < 100) :
    (2 ^ 16 * (2 ^ 16 * (2 ^ 16 * p6 + p4) + p2) + p0) * 6553601 % 2 ^ 64 / 2 ^ 16 = 2 ^ 16 * (2 ^ 16 * (p6 + 100 * p4) + (p4 + 100 * p2)) + (p2 + 100 * p0) := by
  exact own_dm _ (100 * p6) _ p0 16 (by omega) (by omega) (by omega)
theorem own_mask3 (r0 r1 r2 : Nat) (h0 : r0 < 10000) (h1 : r1 < 10000) (h2 : r2 < 10000) :
    (2 ^ 16 * (2 ^ 16 * r2 + r1) + r0) &&& 281470681808895 = 2 ^ 32 * r2 + r0 := by
  rw [show (281470681808895 : Nat) = 2 ^ 16 * (2 ^ 16 * 65535 + 0) + 65535 from rfl]
  rw [own_lane 16 _ _ _ _ (by omega) (by omega), own_lane 16 _ _ _ _ (by omega) (by omega), own_and65535 r0 (by omega), own_and65535 r2 (by omega), Nat.and_zero]
  omega
theorem own_step3 (r0 r2 : Nat) (h0 : r0 < 10000) (h2 : r2 < 10000) : (2 ^ 32 * r2 + r0) * 42949672960001 % 2 ^ 64 / 2 ^ 32 = r2 + 10000 * r0 := by
  exact own_dm _ (10000 * r2) _ r0 32 (by omega) (by omega) (by omega)
theorem own_e1 (z : Int64) (d0 d1 d2 d3 d4 d5 d6 d7 : Nat) (h0 : d0 < 10) (h1 : d1 < 10) (h2 : d2 < 10) (h3 : d3 < 10) (h4 : d4 < 10) (h5 : d5 < 10) (h6 : d6 < 10) (h7 : d7 < 10)
    (hz : z.toBitVec.toNat = 2 ^ 8 * (2 ^ 8 * (2 ^ 8 * (2 ^ 8 * (2 ^ 8 * (2 ^ 8 * (2 ^ 8 * (48 + d7) + (48 + d6)) + (48 + d5)) + (48 + d4)) + (48 + d3)) + (48 + d2)) + (48 + d1)) + (48 + d0)) :
    (own_v1 z).toBitVec.toNat = 2 ^ 8 * (2 ^ 8 * (2 ^ 8 * (2 ^ 8 * (2 ^ 8 * (2 ^ 8 * (d7 + 10 * d6) + (d6 + 10 * d5)) + (d5 + 10 * d4)) + (d4 + 10 * d3)) + (d3 + 10 * d2)) + (d2 + 10 * d1)) + (d1 + 10 * d0) := by
  have m1 : (1085102592571150095 : Int64).toBitVec.toNat = 1085102592571150095 := by decide
  have f1 : (2561 : Int64).toBitVec.toNat = 2561 := by decide
  rw [own_v1, own_ushr _ _ 8 (by decide), Int64.toBitVec_mul, BitVec.toNat_mul, Int64.toBitVec_and, BitVec.toNat_and, m1, f1, hz, own_mask1 d0 d1 d2 d3 d4 d5 d6 d7 h0 h1 h2 h3 h4 h5 h6 h7, own_step1 d0 d1 d2 d3 d4 d5 d6 d7 h0 h1 h2 h3 h4 h5 h6 h7]
theorem own_e2 (z : Int64) (p0 p1 p2 p3 p4 p5 p6 : Nat) (h0 : p0 < 100) (h1 : p1 < 100) (h2 : p2 < 100) (h3 : p3 < 100) (h4 : p4 < 100) (h5 : p5 < 100) (h6 : p6 < 100)
    (hz : z.toBitVec.toNat = 2 ^ 8 * (2 ^ 8 * (2 ^ 8 * (2 ^ 8 * (2 ^ 8 * (2 ^ 8 * p6 + p5) + p4) + p3) + p2) + p1) + p0) :
    (own_v2 z).toBitVec.toNat = 2 ^ 16 * (2 ^ 16 * (p6 + 100 * p4) + (p4 + 100 * p2)) + (p2 + 100 * p0) := by
  have m2 : (71777214294589695 : Int64).toBitVec.toNat = 71777214294589695 := by decide
  have f2 : (6553601 : Int64).toBitVec.toNat = 6553601 := by decide
  rw [own_v2, own_ushr _ _ 16 (by decide), Int64.toBitVec_mul, BitVec.toNat_mul, Int64.toBitVec_and, BitVec.toNat_and, m2, f2, hz, own_mask2 p0 p1 p2 p3 p4 p5 p6 h0 h1 h2 h3 h4 h5 h6, own_step2 p0 p2 p4 p6 h0 h2 h4 h6]
theorem own_e3 (z : Int64) (r0 r1 r2 : Nat) (h0 : r0 < 10000) (h1 : r1 < 10000) (h2 : r2 < 10000) (hz : z.toBitVec.toNat = 2 ^ 16 * (2 ^ 16 * r2 + r1) + r0) :
    (own_v3 z).toBitVec.toNat = r2 + 10000 * r0 := by
  have m3 : (281470681808895 : Int64).toBitVec.toNat = 281470681808895 := by decide
  have f3 : (42949672960001 : Int64).toBitVec.toNat = 42949672960001 := by decide
  rw [own_v3, own_ushr _ _ 32 (by decide), Int64.toBitVec_mul, BitVec.toNat_mul, Int64.toBitVec_and, BitVec.toNat_and, m3, f3, hz, own_mask3 r0 r1 r2 h0 h1 h2, own_step3 r0 r2 h0 h2]
theorem own_swar (z : Int64) (d0 d1 d2 d3 d4 d5 d6 d7 : Nat) (h0 : d0 < 10) (h1 : d1 < 10) (h2 : d2 < 10) (h3 : d3 < 10) (h4 : d4 < 10) (h5 : d5 < 10) (h6 : d6 < 10) (h7 : d7 < 10)
    (hz : z.toBitVec.toNat = 2 ^ 8 * (2 ^ 8 * (2 ^ 8 * (2 ^ 8 * (2 ^ 8 * (2 ^ 8 * (2 ^ 8 * (48 + d7) + (48 + d6)) + (48 + d5)) + (48 + d4)) + (48 + d3)) + (48 + d2)) + (48 + d1)) + (48 + d0)) :
    (own_val z).toBitVec.toNat = (d7 + 10 * d6) + 100 * (d5 + 10 * d4) + 10000 * ((d3 + 10 * d2) + 100 * (d1 + 10 * d0)) :=
  own_e3 (own_v2 (own_v1 z)) ((d3 + 10 * d2) + 100 * (d1 + 10 * d0)) ((d5 + 10 * d4) + 100 * (d3 + 10 * d2)) ((d7 + 10 * d6) + 100 * (d5 + 10 * d4)) (by omega) (by omega) (by omega)
    (own_e2 (own_v1 z) (d1 + 10 * d0) (d2 + 10 * d1) (d3 + 10 * d2) (d4 + 10 * d3) (d5 + 10 * d4) (d6 + 10 * d5) (d7 + 10 * d6) (by omega) (by omega) (by omega) (by omega) (by omega) (by omega) (by omega)
      (own_e1 z d0 d1 d2 d3 d4 d5 d6 d7 h0 h1 h2 h3 h4 h5 h6 h7 hz))
theorem own_divv (n : Int32) (k : Nat) (c : Int32) (hc : c.toInt = (k : Int)) (hn : 0 ≤ n.toInt) (hk : 0 < k) : (n / c).toInt = ((n.toInt.toNat / k : Nat) : Int) := by
  rw [Jvm.Kit.i32_div (by rw [hc]; omega), hc, Int.tdiv_eq_ediv_of_nonneg hn]
  have : n.toInt = ((n.toInt.toNat : Nat) : Int) := by omega
  rw [this]
  simp
theorem own_digits (n : Nat) (h : n < 100000000) : (n % 10 + 10 * (n / 10 % 10)) + 100 * (n / 100 % 10 + 10 * (n / 1000 % 10)) + 10000 * ((n / 10000 % 10 + 10 * (n / 100000 % 10)) + 100 * (n / 1000000 % 10 + 10 * (n / 10000000 % 10))) = n := by
  omega
theorem own_nrange (x : Int32) : 0 ≤ (own_n x).toInt ∧ (own_n x).toInt < 100000000 := by
  have e1 : (x &&& (2147483647 : Int32)).toInt = x.toInt % 2 ^ 31 := Jvm.Kit.i32_mask x _ (k := 31) (by decide) (by decide)
  have e2 : (own_n x).toInt = (x &&& (2147483647 : Int32)).toInt % (100000000 : Int32).toInt := Jvm.Kit.i32_rem_nonneg (by omega)
  have e3 : (100000000 : Int32).toInt = 100000000 := by decide
  rw [e3] at e2
  omega
theorem own_eightv (n : Int32) (hn : 0 ≤ n.toInt) : (own_eight n).toBitVec.toNat = 2 ^ 8 * (2 ^ 8 * (2 ^ 8 * (2 ^ 8 * (2 ^ 8 * (2 ^ 8 * (2 ^ 8 * (48 + n.toInt.toNat % 10) + (48 + n.toInt.toNat / 10 % 10)) + (48 + n.toInt.toNat / 100 % 10)) + (48 + n.toInt.toNat / 1000 % 10)) + (48 + n.toInt.toNat / 10000 % 10)) + (48 + n.toInt.toNat / 100000 % 10)) + (48 + n.toInt.toNat / 1000000 % 10)) + (48 + n.toInt.toNat / 10000000 % 10) := by
  have q0 := own_divv n 10000000 10000000 (by decide) hn (by decide)
  have q1 := own_divv n 1000000 1000000 (by decide) hn (by decide)
  have q2 := own_divv n 100000 100000 (by decide) hn (by decide)
  have q3 := own_divv n 10000 10000 (by decide) hn (by decide)
  have q4 := own_divv n 1000 1000 (by decide) hn (by decide)
  have q5 := own_divv n 100 100 (by decide) hn (by decide)
  have q6 := own_divv n 10 10 (by decide) hn (by decide)
  have t0 := own_digv (n / 10000000) 0 0 (by rw [q0]; omega) (by decide) (by decide)
  have t1 := own_digv (n / 1000000) 1 8 (by rw [q1]; omega) (by decide) (by decide)
  have t2 := own_digv (n / 100000) 2 16 (by rw [q2]; omega) (by decide) (by decide)
  have t3 := own_digv (n / 10000) 3 24 (by rw [q3]; omega) (by decide) (by decide)
  have t4 := own_digv (n / 1000) 4 32 (by rw [q4]; omega) (by decide) (by decide)
  have t5 := own_digv (n / 100) 5 40 (by rw [q5]; omega) (by decide) (by decide)
  have t6 := own_digv (n / 10) 6 48 (by rw [q6]; omega) (by decide) (by decide)
  have t7 := own_digv n 7 56 hn (by decide) (by decide)
  rw [q0, Int.toNat_natCast] at t0
  rw [q1, Int.toNat_natCast] at t1
  rw [q2, Int.toNat_natCast] at t2
  rw [q3, Int.toNat_natCast] at t3
  rw [q4, Int.toNat_natCast] at t4
  rw [q5, Int.toNat_natCast] at t5
  rw [q6, Int.toNat_natCast] at t6
  rw [own_eight]
  simp only [Int64.toBitVec_or, BitVec.toNat_or, t0, t1, t2, t3, t4, t5, t6, t7]
  exact own_bytes _ _ _ _ _ _ _ _ (Nat.mod_lt _ (by decide)) (Nat.mod_lt _ (by decide)) (Nat.mod_lt _ (by decide)) (Nat.mod_lt _ (by decide)) (Nat.mod_lt _ (by decide)) (Nat.mod_lt _ (by decide)) (Nat.mod_lt _ (by decide)) (Nat.mod_lt _ (by decide))
theorem own_key (x : Int32) : own_val (own_eight (own_n x)) = (own_n x).toInt64 := by
  obtain ⟨hn, hn2⟩ := own_nrange x
  generalize own_n x = n at *
  have h := own_swar _ _ _ _ _ _ _ _ _ (Nat.mod_lt _ (by decide)) (Nat.mod_lt _ (by decide)) (Nat.mod_lt _ (by decide)) (Nat.mod_lt _ (by decide)) (Nat.mod_lt _ (by decide)) (Nat.mod_lt _ (by decide)) (Nat.mod_lt _ (by decide)) (Nat.mod_lt _ (by decide)) (own_eightv n hn)
  rw [own_digits n.toInt.toNat (by omega)] at h
  refine Int64.toBitVec_inj.mp (BitVec.eq_of_toNat_eq ?_)
  rw [h, own_nn _ (by rw [Jvm.Kit.i64_of_i32]; exact hn), Jvm.Kit.i64_of_i32]

set_option maxRecDepth 65536 in
set_option maxHeartbeats 40000000 in
theorem rm_law (l : Launch) (Z : State) (a0 : Array Value) (hw : ∀ d ∈ tables_1, d.before a0 Z = true) (ws : List Jvm.Cond) (xx : Int32) (h0 : Heap)  :
    MetFree l x (head1 (Jvm.Cond.code x code maxLocals ret :: ws) room_1) (fun a U => a = #[(.int xx)] ∧ Z.Warmed39 U.vm ∧ U.heap = h0) (fun _ _ _ _ _ => True) (fun _ U o U' => ∃ v L, o = .returned v ∧ (own_pure (some (.int 1)) h0) v U'.heap L ∧ FrameEnd U o U' L 0 0) := by
  refine MetFree.of_bodySF (plainFor_of_name pn_0) hisR ?_
  intro p e s m args below meth c s₁ Bd hml0 hP hK
  obtain ⟨rfl, hZ, hh⟩ := hP
  have hx := Bd.exec
  have hby := Bd.bytes
  have hml : c.maxLocals = 4 := hml0
  have hown : s.vm.findClass "com/example/ledgerwalk/ledgerwalk/load/EightBytesValueOfDigitsPinLaw" = some m.cls := findClass_of_methodNamed Bd.named
  have hnm := (name_of_methodNamed Bd.named Bd.method).1
  have hlk : meth.locks = false := BodyLoose.notSynchronized Bd
  have X0 : Stand p l e room_1 s m #[(.int xx)] below meth c s₁ [] 0 0 := Stand.of_body Bd
  have e0 : s₁.heap = h0 := by rw [← hh, Bd.state]; rfl
  show Goes p e below s (own_pure (some (.int 1)) h0) 0 0 s₁ (entryFrame m #[(.int xx)] maxLocals)
  rw [ef_law m xx]
  refine own_go (T' := s₁) (g' := (mkF m 1 #[.val (.int xx), .unset, .unset, .unset] [(.int xx)])) (fun t_ K => XS.iloadN X0.here hx rfl (hb hby at_0) rfl K) ?_
  refine own_go (T' := s₁) (g' := (mkF m 3 #[.val (.int xx), .unset, .unset, .unset] [(.int (2147483647 : Int32)), (.int xx)])) (fun t_ K => X0.ldcInt hx hown (mvT hZ (hw _ (List.mem_of_getElem? (i := 0) rfl))) (g := (mkF m 1 #[.val (.int xx), .unset, .unset, .unset] [(.int xx)])) rfl (hb hby at_1) _ K) ?_
  refine own_go (T' := s₁) (g' := (mkF m 4 #[.val (.int xx), .unset, .unset, .unset] [(.int (xx &&& (2147483647 : Int32)))])) (fun t_ K => XS.iand X0.here hx rfl (hb hby at_3) rfl K) ?_
  refine own_go (T' := s₁) (g' := (mkF m 6 #[.val (.int xx), .unset, .unset, .unset] [(.int (100000000 : Int32)), (.int (xx &&& (2147483647 : Int32)))])) (fun t_ K => X0.ldcInt hx hown (mvT hZ (hw _ (List.mem_of_getElem? (i := 1) rfl))) (g := (mkF m 4 #[.val (.int xx), .unset, .unset, .unset] [(.int (xx &&& (2147483647 : Int32)))])) rfl (hb hby at_4) _ K) ?_
  refine own_go (T' := s₁) (g' := (mkF m 7 #[.val (.int xx), .unset, .unset, .unset] [(.int ((xx &&& (2147483647 : Int32)) % (100000000 : Int32)))])) (fun t_ K => iremM X0 hx rfl (hb hby at_6) rfl (by decide) K) ?_
  show Goes p e below s (own_pure (some (.int 1)) h0) 0 0 s₁ (mkF m 7 #[.val (.int xx), .unset, .unset, .unset] [(.int (own_n xx))])
  refine own_go (T' := s₁) (g' := (mkF m 8 #[.val (.int xx), .val (.int (own_n xx)), .unset, .unset] [])) (fun t_ K => XS.istoreN X0.here hx rfl (hb hby at_7) rfl (l' := #[.val (.int xx), .val (.int (own_n xx)), .unset, .unset]) rfl K) ?_
  refine own_go (T' := s₁) (g' := (mkF m 9 #[.val (.int xx), .val (.int (own_n xx)), .unset, .unset] [(.int (own_n xx))])) (fun t_ K => XS.iloadN X0.here hx rfl (hb hby at_8) rfl K) ?_
  refine own_go (T' := s₁) (g' := (mkF m 11 #[.val (.int xx), .val (.int (own_n xx)), .unset, .unset] [(.int (10000000 : Int32)), (.int (own_n xx))])) (fun t_ K => X0.ldcInt hx hown (mvT hZ (hw _ (List.mem_of_getElem? (i := 2) rfl))) (g := (mkF m 9 #[.val (.int xx), .val (.int (own_n xx)), .unset, .unset] [(.int (own_n xx))])) rfl (hb hby at_9) _ K) ?_
  refine own_go (T' := s₁) (g' := (mkF m 12 #[.val (.int xx), .val (.int (own_n xx)), .unset, .unset] [(.int ((own_n xx) / (10000000 : Int32)))])) (fun t_ K => XS.idiv X0.here hx rfl (hb hby at_11) rfl (by decide) K) ?_
  refine own_go (T' := s₁) (g' := (mkF m 13 #[.val (.int xx), .val (.int (own_n xx)), .unset, .unset] [(.int (0 : Int32)), (.int ((own_n xx) / (10000000 : Int32)))])) (fun t_ K => XS.iconst X0.here hx rfl (hb hby at_12) K) ?_
  obtain ⟨T1, X1, e1, st1⟩ := own_callS (W := 0) (rm := { frames := 0, cells := 0, slots := 0, locals := 0 }) X0 hx hZ hown (hw _ (List.mem_of_getElem? (i := 3) rfl)) (hw _ (List.mem_of_getElem? (i := 4) rfl)) (hw _ (List.mem_of_getElem? (i := 5) rfl)) (hw _ (List.mem_of_getElem? (i := 6) rfl)) (by decide) e0 (argsL := [(.int ((own_n xx) / (10000000 : Int32))), (.int (0 : Int32))]) (rest := []) (r := some (.long (own_dig ((own_n xx) / (10000000 : Int32)) (0 : Int32)))) (rm_dg l Z a0 hw ((own_n xx) / (10000000 : Int32)) (0 : Int32) h0) rfl rfl (by decide) (by decide) (by decide) (by decide) (g := (mkF m 13 #[.val (.int xx), .val (.int (own_n xx)), .unset, .unset] [(.int (0 : Int32)), (.int ((own_n xx) / (10000000 : Int32)))])) rfl (by rw [hml]; rfl) (lenOf pd_0 rfl) rfl (by show 2 * 0 + _ ≤ _; exact Nat.le_of_eq rfl) (hb hby at_13)
  refine own_go (T' := T1) (g' := (mkF m 16 #[.val (.int xx), .val (.int (own_n xx)), .unset, .unset] [(.long (own_dig ((own_n xx) / (10000000 : Int32)) (0 : Int32)))])) (fun t_ K => st1 _ K) ?_
  refine own_go (T' := T1) (g' := (mkF m 17 #[.val (.int xx), .val (.int (own_n xx)), .unset, .unset] [(.int (own_n xx)), (.long (own_dig ((own_n xx) / (10000000 : Int32)) (0 : Int32)))])) (fun t_ K => XS.iloadN X1.here hx rfl (hb hby at_16) rfl K) ?_
  refine own_go (T' := T1) (g' := (mkF m 19 #[.val (.int xx), .val (.int (own_n xx)), .unset, .unset] [(.int (1000000 : Int32)), (.int (own_n xx)), (.long (own_dig ((own_n xx) / (10000000 : Int32)) (0 : Int32)))])) (fun t_ K => X1.ldcInt hx hown (mvT hZ (hw _ (List.mem_of_getElem? (i := 7) rfl))) (g := (mkF m 17 #[.val (.int xx), .val (.int (own_n xx)), .unset, .unset] [(.int (own_n xx)), (.long (own_dig ((own_n xx) / (10000000 : Int32)) (0 : Int32)))])) rfl (hb hby at_17) _ K) ?_
  refine own_go (T' := T1) (g' := (mkF m 20 #[.val (.int xx), .val (.int (own_n xx)), .unset, .unset] [(.int ((own_n xx) / (1000000 : Int32))), (.long (own_dig ((own_n xx) / (10000000 : Int32)) (0 : Int32)))])) (fun t_ K => XS.idiv X1.here hx rfl (hb hby at_19) rfl (by decide) K) ?_
  refine own_go (T' := T1) (g' := (mkF m 21 #[.val (.int xx), .val (.int (own_n xx)), .unset, .unset] [(.int (1 : Int32)), (.int ((own_n xx) / (1000000 : Int32))), (.long (own_dig ((own_n xx) / (10000000 : Int32)) (0 : Int32)))])) (fun t_ K => XS.iconst X1.here hx rfl (hb hby at_20) K) ?_
  obtain ⟨T2, X2, e2, st2⟩ := own_callS (W := 2) (rm := { frames := 0, cells := 0, slots := 0, locals := 0 }) X1 hx hZ hown (hw _ (List.mem_of_getElem? (i := 3) rfl)) (hw _ (List.mem_of_getElem? (i := 4) rfl)) (hw _ (List.mem_of_getElem? (i := 5) rfl)) (hw _ (List.mem_of_getElem? (i := 6) rfl)) (by decide) e1 (argsL := [(.int ((own_n xx) / (1000000 : Int32))), (.int (1 : Int32))]) (rest := [(.long (own_dig ((own_n xx) / (10000000 : Int32)) (0 : Int32)))]) (r := some (.long (own_dig ((own_n xx) / (1000000 : Int32)) (1 : Int32)))) (rm_dg l Z a0 hw ((own_n xx) / (1000000 : Int32)) (1 : Int32) h0) rfl rfl (by decide) (by decide) (by decide) (by decide) (g := (mkF m 21 #[.val (.int xx), .val (.int (own_n xx)), .unset, .unset] [(.int (1 : Int32)), (.int ((own_n xx) / (1000000 : Int32))), (.long (own_dig ((own_n xx) / (10000000 : Int32)) (0 : Int32)))])) rfl (by rw [hml]; rfl) (lenOf pd_0 rfl) rfl (by show 2 * 0 + _ ≤ _; exact Nat.le_of_eq rfl) (hb hby at_21)
  refine own_go (T' := T2) (g' := (mkF m 24 #[.val (.int xx), .val (.int (own_n xx)), .unset, .unset] [(.long (own_dig ((own_n xx) / (1000000 : Int32)) (1 : Int32))), (.long (own_dig ((own_n xx) / (10000000 : Int32)) (0 : Int32)))])) (fun t_ K => st2 _ K) ?_
  refine own_go (T' := T2) (g' := (mkF m 25 #[.val (.int xx), .val (.int (own_n xx)), .unset, .unset] [(.long ((own_dig ((own_n xx) / (10000000 : Int32)) (0 : Int32)) ||| (own_dig ((own_n xx) / (1000000 : Int32)) (1 : Int32))))])) (fun t_ K => XT.lor X2.here hx rfl (hb hby at_24) rfl K) ?_
  refine own_go (T' := T2) (g' := (mkF m 26 #[.val (.int xx), .val (.int (own_n xx)), .unset, .unset] [(.int (own_n xx)), (.long ((own_dig ((own_n xx) / (10000000 : Int32)) (0 : Int32)) ||| (own_dig ((own_n xx) / (1000000 : Int32)) (1 : Int32))))])) (fun t_ K => XS.iloadN X2.here hx rfl (hb hby at_25) rfl K) ?_
  refine own_go (T' := T2) (g' := (mkF m 28 #[.val (.int xx), .val (.int (own_n xx)), .unset, .unset] [(.int (100000 : Int32)), (.int (own_n xx)), (.long ((own_dig ((own_n xx) / (10000000 : Int32)) (0 : Int32)) ||| (own_dig ((own_n xx) / (1000000 : Int32)) (1 : Int32))))])) (fun t_ K => X2.ldcInt hx hown (mvT hZ (hw _ (List.mem_of_getElem? (i := 8) rfl))) (g := (mkF m 26 #[.val (.int xx), .val (.int (own_n xx)), .unset, .unset] [(.int (own_n xx)), (.long ((own_dig ((own_n xx) / (10000000 : Int32)) (0 : Int32)) ||| (own_dig ((own_n xx) / (1000000 : Int32)) (1 : Int32))))])) rfl (hb hby at_26) _ K) ?_
  refine own_go (T' := T2) (g' := (mkF m 29 #[.val (.int xx), .val (.int (own_n xx)), .unset, .unset] [(.int ((own_n xx) / (100000 : Int32))), (.long ((own_dig ((own_n xx) / (10000000 : Int32)) (0 : Int32)) ||| (own_dig ((own_n xx) / (1000000 : Int32)) (1 : Int32))))])) (fun t_ K => XS.idiv X2.here hx rfl (hb hby at_28) rfl (by decide) K) ?_
  refine own_go (T' := T2) (g' := (mkF m 30 #[.val (.int xx), .val (.int (own_n xx)), .unset, .unset] [(.int (2 : Int32)), (.int ((own_n xx) / (100000 : Int32))), (.long ((own_dig ((own_n xx) / (10000000 : Int32)) (0 : Int32)) ||| (own_dig ((own_n xx) / (1000000 : Int32)) (1 : Int32))))])) (fun t_ K => XS.iconst X2.here hx rfl (hb hby at_29) K) ?_
  obtain ⟨T3, X3, e3, st3⟩ := own_callS (W := 2) (rm := { frames := 0, cells := 0, slots := 0, locals := 0 }) X2 hx hZ hown (hw _ (List.mem_of_getElem? (i := 3) rfl)) (hw _ (List.mem_of_getElem? (i := 4) rfl)) (hw _ (List.mem_of_getElem? (i := 5) rfl)) (hw _ (List.mem_of_getElem? (i := 6) rfl)) (by decide) e2 (argsL := [(.int ((own_n xx) / (100000 : Int32))), (.int (2 : Int32))]) (rest := [(.long ((own_dig ((own_n xx) / (10000000 : Int32)) (0 : Int32)) ||| (own_dig ((own_n xx) / (1000000 : Int32)) (1 : Int32))))]) (r := some (.long (own_dig ((own_n xx) / (100000 : Int32)) (2 : Int32)))) (rm_dg l Z a0 hw ((own_n xx) / (100000 : Int32)) (2 : Int32) h0) rfl rfl (by decide) (by decide) (by decide) (by decide) (g := (mkF m 30 #[.val (.int xx), .val (.int (own_n xx)), .unset, .unset] [(.int (2 : Int32)), (.int ((own_n xx) / (100000 : Int32))), (.long ((own_dig ((own_n xx) / (10000000 : Int32)) (0 : Int32)) ||| (own_dig ((own_n xx) / (1000000 : Int32)) (1 : Int32))))])) rfl (by rw [hml]; rfl) (lenOf pd_0 rfl) rfl (by show 2 * 0 + _ ≤ _; exact Nat.le_of_eq rfl) (hb hby at_30)
  refine own_go (T' := T3) (g' := (mkF m 33 #[.val (.int xx), .val (.int (own_n xx)), .unset, .unset] [(.long (own_dig ((own_n xx) / (100000 : Int32)) (2 : Int32))), (.long ((own_dig ((own_n xx) / (10000000 : Int32)) (0 : Int32)) ||| (own_dig ((own_n xx) / (1000000 : Int32)) (1 : Int32))))])) (fun t_ K => st3 _ K) ?_
  refine own_go (T' := T3) (g' := (mkF m 34 #[.val (.int xx), .val (.int (own_n xx)), .unset, .unset] [(.long (((own_dig ((own_n xx) / (10000000 : Int32)) (0 : Int32)) ||| (own_dig ((own_n xx) / (1000000 : Int32)) (1 : Int32))) ||| (own_dig ((own_n xx) / (100000 : Int32)) (2 : Int32))))])) (fun t_ K => XT.lor X3.here hx rfl (hb hby at_33) rfl K) ?_
  refine own_go (T' := T3) (g' := (mkF m 35 #[.val (.int xx), .val (.int (own_n xx)), .unset, .unset] [(.int (own_n xx)), (.long (((own_dig ((own_n xx) / (10000000 : Int32)) (0 : Int32)) ||| (own_dig ((own_n xx) / (1000000 : Int32)) (1 : Int32))) ||| (own_dig ((own_n xx) / (100000 : Int32)) (2 : Int32))))])) (fun t_ K => XS.iloadN X3.here hx rfl (hb hby at_34) rfl K) ?_
  refine own_go (T' := T3) (g' := (mkF m 38 #[.val (.int xx), .val (.int (own_n xx)), .unset, .unset] [(.int (10000 : Int32)), (.int (own_n xx)), (.long (((own_dig ((own_n xx) / (10000000 : Int32)) (0 : Int32)) ||| (own_dig ((own_n xx) / (1000000 : Int32)) (1 : Int32))) ||| (own_dig ((own_n xx) / (100000 : Int32)) (2 : Int32))))])) (fun t_ K => XS.sipush X3.here hx rfl (hb hby at_35) K) ?_
  refine own_go (T' := T3) (g' := (mkF m 39 #[.val (.int xx), .val (.int (own_n xx)), .unset, .unset] [(.int ((own_n xx) / (10000 : Int32))), (.long (((own_dig ((own_n xx) / (10000000 : Int32)) (0 : Int32)) ||| (own_dig ((own_n xx) / (1000000 : Int32)) (1 : Int32))) ||| (own_dig ((own_n xx) / (100000 : Int32)) (2 : Int32))))])) (fun t_ K => XS.idiv X3.here hx rfl (hb hby at_38) rfl (by decide) K) ?_
  refine own_go (T' := T3) (g' := (mkF m 40 #[.val (.int xx), .val (.int (own_n xx)), .unset, .unset] [(.int (3 : Int32)), (.int ((own_n xx) / (10000 : Int32))), (.long (((own_dig ((own_n xx) / (10000000 : Int32)) (0 : Int32)) ||| (own_dig ((own_n xx) / (1000000 : Int32)) (1 : Int32))) ||| (own_dig ((own_n xx) / (100000 : Int32)) (2 : Int32))))])) (fun t_ K => XS.iconst X3.here hx rfl (hb hby at_39) K) ?_
  obtain ⟨T4, X4, e4, st4⟩ := own_callS (W := 2) (rm := { frames := 0, cells := 0, slots := 0, locals := 0 }) X3 hx hZ hown (hw _ (List.mem_of_getElem? (i := 3) rfl)) (hw _ (List.mem_of_getElem? (i := 4) rfl)) (hw _ (List.mem_of_getElem? (i := 5) rfl)) (hw _ (List.mem_of_getElem? (i := 6) rfl)) (by decide) e3 (argsL := [(.int ((own_n xx) / (10000 : Int32))), (.int (3 : Int32))]) (rest := [(.long (((own_dig ((own_n xx) / (10000000 : Int32)) (0 : Int32)) ||| (own_dig ((own_n xx) / (1000000 : Int32)) (1 : Int32))) ||| (own_dig ((own_n xx) / (100000 : Int32)) (2 : Int32))))]) (r := some (.long (own_dig ((own_n xx) / (10000 : Int32)) (3 : Int32)))) (rm_dg l Z a0 hw ((own_n xx) / (10000 : Int32)) (3 : Int32) h0) rfl rfl (by decide) (by decide) (by decide) (by decide) (g := (mkF m 40 #[.val (.int xx), .val (.int (own_n xx)), .unset, .unset] [(.int (3 : Int32)), (.int ((own_n xx) / (10000 : Int32))), (.long (((own_dig ((own_n xx) / (10000000 : Int32)) (0 : Int32)) ||| (own_dig ((own_n xx) / (1000000 : Int32)) (1 : Int32))) ||| (own_dig ((own_n xx) / (100000 : Int32)) (2 : Int32))))])) rfl (by rw [hml]; rfl) (lenOf pd_0 rfl) rfl (by show 2 * 0 + _ ≤ _; exact Nat.le_of_eq rfl) (hb hby at_40)
  refine own_go (T' := T4) (g' := (mkF m 43 #[.val (.int xx), .val (.int (own_n xx)), .unset, .unset] [(.long (own_dig ((own_n xx) / (10000 : Int32)) (3 : Int32))), (.long (((own_dig ((own_n xx) / (10000000 : Int32)) (0 : Int32)) ||| (own_dig ((own_n xx) / (1000000 : Int32)) (1 : Int32))) ||| (own_dig ((own_n xx) / (100000 : Int32)) (2 : Int32))))])) (fun t_ K => st4 _ K) ?_
  refine own_go (T' := T4) (g' := (mkF m 44 #[.val (.int xx), .val (.int (own_n xx)), .unset, .unset] [(.long ((((own_dig ((own_n xx) / (10000000 : Int32)) (0 : Int32)) ||| (own_dig ((own_n xx) / (1000000 : Int32)) (1 : Int32))) ||| (own_dig ((own_n xx) / (100000 : Int32)) (2 : Int32))) ||| (own_dig ((own_n xx) / (10000 : Int32)) (3 : Int32))))])) (fun t_ K => XT.lor X4.here hx rfl (hb hby at_43) rfl K) ?_
  refine own_go (T' := T4) (g' := (mkF m 45 #[.val (.int xx), .val (.int (own_n xx)), .unset, .unset] [(.int (own_n xx)), (.long ((((own_dig ((own_n xx) / (10000000 : Int32)) (0 : Int32)) ||| (own_dig ((own_n xx) / (1000000 : Int32)) (1 : Int32))) ||| (own_dig ((own_n xx) / (100000 : Int32)) (2 : Int32))) ||| (own_dig ((own_n xx) / (10000 : Int32)) (3 : Int32))))])) (fun t_ K => XS.iloadN X4.here hx rfl (hb hby at_44) rfl K) ?_
  refine own_go (T' := T4) (g' := (mkF m 48 #[.val (.int xx), .val (.int (own_n xx)), .unset, .unset] [(.int (1000 : Int32)), (.int (own_n xx)), (.long ((((own_dig ((own_n xx) / (10000000 : Int32)) (0 : Int32)) ||| (own_dig ((own_n xx) / (1000000 : Int32)) (1 : Int32))) ||| (own_dig ((own_n xx) / (100000 : Int32)) (2 : Int32))) ||| (own_dig ((own_n xx) / (10000 : Int32)) (3 : Int32))))])) (fun t_ K => XS.sipush X4.here hx rfl (hb hby at_45) K) ?_
  refine own_go (T' := T4) (g' := (mkF m 49 #[.val (.int xx), .val (.int (own_n xx)), .unset, .unset] [(.int ((own_n xx) / (1000 : Int32))), (.long ((((own_dig ((own_n xx) / (10000000 : Int32)) (0 : Int32)) ||| (own_dig ((own_n xx) / (1000000 : Int32)) (1 : Int32))) ||| (own_dig ((own_n xx) / (100000 : Int32)) (2 : Int32))) ||| (own_dig ((own_n xx) / (10000 : Int32)) (3 : Int32))))])) (fun t_ K => XS.idiv X4.here hx rfl (hb hby at_48) rfl (by decide) K) ?_
  refine own_go (T' := T4) (g' := (mkF m 50 #[.val (.int xx), .val (.int (own_n xx)), .unset, .unset] [(.int (4 : Int32)), (.int ((own_n xx) / (1000 : Int32))), (.long ((((own_dig ((own_n xx) / (10000000 : Int32)) (0 : Int32)) ||| (own_dig ((own_n xx) / (1000000 : Int32)) (1 : Int32))) ||| (own_dig ((own_n xx) / (100000 : Int32)) (2 : Int32))) ||| (own_dig ((own_n xx) / (10000 : Int32)) (3 : Int32))))])) (fun t_ K => XS.iconst X4.here hx rfl (hb hby at_49) K) ?_
  obtain ⟨T5, X5, e5, st5⟩ := own_callS (W := 2) (rm := { frames := 0, cells := 0, slots := 0, locals := 0 }) X4 hx hZ hown (hw _ (List.mem_of_getElem? (i := 3) rfl)) (hw _ (List.mem_of_getElem? (i := 4) rfl)) (hw _ (List.mem_of_getElem? (i := 5) rfl)) (hw _ (List.mem_of_getElem? (i := 6) rfl)) (by decide) e4 (argsL := [(.int ((own_n xx) / (1000 : Int32))), (.int (4 : Int32))]) (rest := [(.long ((((own_dig ((own_n xx) / (10000000 : Int32)) (0 : Int32)) ||| (own_dig ((own_n xx) / (1000000 : Int32)) (1 : Int32))) ||| (own_dig ((own_n xx) / (100000 : Int32)) (2 : Int32))) ||| (own_dig ((own_n xx) / (10000 : Int32)) (3 : Int32))))]) (r := some (.long (own_dig ((own_n xx) / (1000 : Int32)) (4 : Int32)))) (rm_dg l Z a0 hw ((own_n xx) / (1000 : Int32)) (4 : Int32) h0) rfl rfl (by decide) (by decide) (by decide) (by decide) (g := (mkF m 50 #[.val (.int xx), .val (.int (own_n xx)), .unset, .unset] [(.int (4 : Int32)), (.int ((own_n xx) / (1000 : Int32))), (.long ((((own_dig ((own_n xx) / (10000000 : Int32)) (0 : Int32)) ||| (own_dig ((own_n xx) / (1000000 : Int32)) (1 : Int32))) ||| (own_dig ((own_n xx) / (100000 : Int32)) (2 : Int32))) ||| (own_dig ((own_n xx) / (10000 : Int32)) (3 : Int32))))])) rfl (by rw [hml]; rfl) (lenOf pd_0 rfl) rfl (by show 2 * 0 + _ ≤ _; exact Nat.le_of_eq rfl) (hb hby at_50)
  refine own_go (T' := T5) (g' := (mkF m 53 #[.val (.int xx), .val (.int (own_n xx)), .unset, .unset] [(.long (own_dig ((own_n xx) / (1000 : Int32)) (4 : Int32))), (.long ((((own_dig ((own_n xx) / (10000000 : Int32)) (0 : Int32)) ||| (own_dig ((own_n xx) / (1000000 : Int32)) (1 : Int32))) ||| (own_dig ((own_n xx) / (100000 : Int32)) (2 : Int32))) ||| (own_dig ((own_n xx) / (10000 : Int32)) (3 : Int32))))])) (fun t_ K => st5 _ K) ?_
  refine own_go (T' := T5) (g' := (mkF m 54 #[.val (.int xx), .val (.int (own_n xx)), .unset, .unset] [(.long (((((own_dig ((own_n xx) / (10000000 : Int32)) (0 : Int32)) ||| (own_dig ((own_n xx) / (1000000 : Int32)) (1 : Int32))) ||| (own_dig ((own_n xx) / (100000 : Int32)) (2 : Int32))) ||| (own_dig ((own_n xx) / (10000 : Int32)) (3 : Int32))) ||| (own_dig ((own_n xx) / (1000 : Int32)) (4 : Int32))))])) (fun t_ K => XT.lor X5.here hx rfl (hb hby at_53) rfl K) ?_
  refine own_go (T' := T5) (g' := (mkF m 55 #[.val (.int xx), .val (.int (own_n xx)), .unset, .unset] [(.int (own_n xx)), (.long (((((own_dig ((own_n xx) / (10000000 : Int32)) (0 : Int32)) ||| (own_dig ((own_n xx) / (1000000 : Int32)) (1 : Int32))) ||| (own_dig ((own_n xx) / (100000 : Int32)) (2 : Int32))) ||| (own_dig ((own_n xx) / (10000 : Int32)) (3 : Int32))) ||| (own_dig ((own_n xx) / (1000 : Int32)) (4 : Int32))))])) (fun t_ K => XS.iloadN X5.here hx rfl (hb hby at_54) rfl K) ?_
  refine own_go (T' := T5) (g' := (mkF m 57 #[.val (.int xx), .val (.int (own_n xx)), .unset, .unset] [(.int (100 : Int32)), (.int (own_n xx)), (.long (((((own_dig ((own_n xx) / (10000000 : Int32)) (0 : Int32)) ||| (own_dig ((own_n xx) / (1000000 : Int32)) (1 : Int32))) ||| (own_dig ((own_n xx) / (100000 : Int32)) (2 : Int32))) ||| (own_dig ((own_n xx) / (10000 : Int32)) (3 : Int32))) ||| (own_dig ((own_n xx) / (1000 : Int32)) (4 : Int32))))])) (fun t_ K => XS.bipush X5.here hx rfl (hb hby at_55) K) ?_
  refine own_go (T' := T5) (g' := (mkF m 58 #[.val (.int xx), .val (.int (own_n xx)), .unset, .unset] [(.int ((own_n xx) / (100 : Int32))), (.long (((((own_dig ((own_n xx) / (10000000 : Int32)) (0 : Int32)) ||| (own_dig ((own_n xx) / (1000000 : Int32)) (1 : Int32))) ||| (own_dig ((own_n xx) / (100000 : Int32)) (2 : Int32))) ||| (own_dig ((own_n xx) / (10000 : Int32)) (3 : Int32))) ||| (own_dig ((own_n xx) / (1000 : Int32)) (4 : Int32))))])) (fun t_ K => XS.idiv X5.here hx rfl (hb hby at_57) rfl (by decide) K) ?_
  refine own_go (T' := T5) (g' := (mkF m 59 #[.val (.int xx), .val (.int (own_n xx)), .unset, .unset] [(.int (5 : Int32)), (.int ((own_n xx) / (100 : Int32))), (.long (((((own_dig ((own_n xx) / (10000000 : Int32)) (0 : Int32)) ||| (own_dig ((own_n xx) / (1000000 : Int32)) (1 : Int32))) ||| (own_dig ((own_n xx) / (100000 : Int32)) (2 : Int32))) ||| (own_dig ((own_n xx) / (10000 : Int32)) (3 : Int32))) ||| (own_dig ((own_n xx) / (1000 : Int32)) (4 : Int32))))])) (fun t_ K => XS.iconst X5.here hx rfl (hb hby at_58) K) ?_
  obtain ⟨T6, X6, e6, st6⟩ := own_callS (W := 2) (rm := { frames := 0, cells := 0, slots := 0, locals := 0 }) X5 hx hZ hown (hw _ (List.mem_of_getElem? (i := 3) rfl)) (hw _ (List.mem_of_getElem? (i := 4) rfl)) (hw _ (List.mem_of_getElem? (i := 5) rfl)) (hw _ (List.mem_of_getElem? (i := 6) rfl)) (by decide) e5 (argsL := [(.int ((own_n xx) / (100 : Int32))), (.int (5 : Int32))]) (rest := [(.long (((((own_dig ((own_n xx) / (10000000 : Int32)) (0 : Int32)) ||| (own_dig ((own_n xx) / (1000000 : Int32)) (1 : Int32))) ||| (own_dig ((own_n xx) / (100000 : Int32)) (2 : Int32))) ||| (own_dig ((own_n xx) / (10000 : Int32)) (3 : Int32))) ||| (own_dig ((own_n xx) / (1000 : Int32)) (4 : Int32))))]) (r := some (.long (own_dig ((own_n xx) / (100 : Int32)) (5 : Int32)))) (rm_dg l Z a0 hw ((own_n xx) / (100 : Int32)) (5 : Int32) h0) rfl rfl (by decide) (by decide) (by decide) (by decide) (g := (mkF m 59 #[.val (.int xx), .val (.int (own_n xx)), .unset, .unset] [(.int (5 : Int32)), (.int ((own_n xx) / (100 : Int32))), (.long (((((own_dig ((own_n xx) / (10000000 : Int32)) (0 : Int32)) ||| (own_dig ((own_n xx) / (1000000 : Int32)) (1 : Int32))) ||| (own_dig ((own_n xx) / (100000 : Int32)) (2 : Int32))) ||| (own_dig ((own_n xx) / (10000 : Int32)) (3 : Int32))) ||| (own_dig ((own_n xx) / (1000 : Int32)) (4 : Int32))))])) rfl (by rw [hml]; rfl) (lenOf pd_0 rfl) rfl (by show 2 * 0 + _ ≤ _; exact Nat.le_of_eq rfl) (hb hby at_59)
  refine own_go (T' := T6) (g' := (mkF m 62 #[.val (.int xx), .val (.int (own_n xx)), .unset, .unset] [(.long (own_dig ((own_n xx) / (100 : Int32)) (5 : Int32))), (.long (((((own_dig ((own_n xx) / (10000000 : Int32)) (0 : Int32)) ||| (own_dig ((own_n xx) / (1000000 : Int32)) (1 : Int32))) ||| (own_dig ((own_n xx) / (100000 : Int32)) (2 : Int32))) ||| (own_dig ((own_n xx) / (10000 : Int32)) (3 : Int32))) ||| (own_dig ((own_n xx) / (1000 : Int32)) (4 : Int32))))])) (fun t_ K => st6 _ K) ?_
  refine own_go (T' := T6) (g' := (mkF m 63 #[.val (.int xx), .val (.int (own_n xx)), .unset, .unset] [(.long ((((((own_dig ((own_n xx) / (10000000 : Int32)) (0 : Int32)) ||| (own_dig ((own_n xx) / (1000000 : Int32)) (1 : Int32))) ||| (own_dig ((own_n xx) / (100000 : Int32)) (2 : Int32))) ||| (own_dig ((own_n xx) / (10000 : Int32)) (3 : Int32))) ||| (own_dig ((own_n xx) / (1000 : Int32)) (4 : Int32))) ||| (own_dig ((own_n xx) / (100 : Int32)) (5 : Int32))))])) (fun t_ K => XT.lor X6.here hx rfl (hb hby at_62) rfl K) ?_
  refine own_go (T' := T6) (g' := (mkF m 64 #[.val (.int xx), .val (.int (own_n xx)), .unset, .unset] [(.int (own_n xx)), (.long ((((((own_dig ((own_n xx) / (10000000 : Int32)) (0 : Int32)) ||| (own_dig ((own_n xx) / (1000000 : Int32)) (1 : Int32))) ||| (own_dig ((own_n xx) / (100000 : Int32)) (2 : Int32))) ||| (own_dig ((own_n xx) / (10000 : Int32)) (3 : Int32))) ||| (own_dig ((own_n xx) / (1000 : Int32)) (4 : Int32))) ||| (own_dig ((own_n xx) / (100 : Int32)) (5 : Int32))))])) (fun t_ K => XS.iloadN X6.here hx rfl (hb hby at_63) rfl K) ?_
  refine own_go (T' := T6) (g' := (mkF m 66 #[.val (.int xx), .val (.int (own_n xx)), .unset, .unset] [(.int (10 : Int32)), (.int (own_n xx)), (.long ((((((own_dig ((own_n xx) / (10000000 : Int32)) (0 : Int32)) ||| (own_dig ((own_n xx) / (1000000 : Int32)) (1 : Int32))) ||| (own_dig ((own_n xx) / (100000 : Int32)) (2 : Int32))) ||| (own_dig ((own_n xx) / (10000 : Int32)) (3 : Int32))) ||| (own_dig ((own_n xx) / (1000 : Int32)) (4 : Int32))) ||| (own_dig ((own_n xx) / (100 : Int32)) (5 : Int32))))])) (fun t_ K => XS.bipush X6.here hx rfl (hb hby at_64) K) ?_
  refine own_go (T' := T6) (g' := (mkF m 67 #[.val (.int xx), .val (.int (own_n xx)), .unset, .unset] [(.int ((own_n xx) / (10 : Int32))), (.long ((((((own_dig ((own_n xx) / (10000000 : Int32)) (0 : Int32)) ||| (own_dig ((own_n xx) / (1000000 : Int32)) (1 : Int32))) ||| (own_dig ((own_n xx) / (100000 : Int32)) (2 : Int32))) ||| (own_dig ((own_n xx) / (10000 : Int32)) (3 : Int32))) ||| (own_dig ((own_n xx) / (1000 : Int32)) (4 : Int32))) ||| (own_dig ((own_n xx) / (100 : Int32)) (5 : Int32))))])) (fun t_ K => XS.idiv X6.here hx rfl (hb hby at_66) rfl (by decide) K) ?_
  refine own_go (T' := T6) (g' := (mkF m 69 #[.val (.int xx), .val (.int (own_n xx)), .unset, .unset] [(.int (6 : Int32)), (.int ((own_n xx) / (10 : Int32))), (.long ((((((own_dig ((own_n xx) / (10000000 : Int32)) (0 : Int32)) ||| (own_dig ((own_n xx) / (1000000 : Int32)) (1 : Int32))) ||| (own_dig ((own_n xx) / (100000 : Int32)) (2 : Int32))) ||| (own_dig ((own_n xx) / (10000 : Int32)) (3 : Int32))) ||| (own_dig ((own_n xx) / (1000 : Int32)) (4 : Int32))) ||| (own_dig ((own_n xx) / (100 : Int32)) (5 : Int32))))])) (fun t_ K => XS.bipush X6.here hx rfl (hb hby at_67) K) ?_
  obtain ⟨T7, X7, e7, st7⟩ := own_callS (W := 2) (rm := { frames := 0, cells := 0, slots := 0, locals := 0 }) X6 hx hZ hown (hw _ (List.mem_of_getElem? (i := 3) rfl)) (hw _ (List.mem_of_getElem? (i := 4) rfl)) (hw _ (List.mem_of_getElem? (i := 5) rfl)) (hw _ (List.mem_of_getElem? (i := 6) rfl)) (by decide) e6 (argsL := [(.int ((own_n xx) / (10 : Int32))), (.int (6 : Int32))]) (rest := [(.long ((((((own_dig ((own_n xx) / (10000000 : Int32)) (0 : Int32)) ||| (own_dig ((own_n xx) / (1000000 : Int32)) (1 : Int32))) ||| (own_dig ((own_n xx) / (100000 : Int32)) (2 : Int32))) ||| (own_dig ((own_n xx) / (10000 : Int32)) (3 : Int32))) ||| (own_dig ((own_n xx) / (1000 : Int32)) (4 : Int32))) ||| (own_dig ((own_n xx) / (100 : Int32)) (5 : Int32))))]) (r := some (.long (own_dig ((own_n xx) / (10 : Int32)) (6 : Int32)))) (rm_dg l Z a0 hw ((own_n xx) / (10 : Int32)) (6 : Int32) h0) rfl rfl (by decide) (by decide) (by decide) (by decide) (g := (mkF m 69 #[.val (.int xx), .val (.int (own_n xx)), .unset, .unset] [(.int (6 : Int32)), (.int ((own_n xx) / (10 : Int32))), (.long ((((((own_dig ((own_n xx) / (10000000 : Int32)) (0 : Int32)) ||| (own_dig ((own_n xx) / (1000000 : Int32)) (1 : Int32))) ||| (own_dig ((own_n xx) / (100000 : Int32)) (2 : Int32))) ||| (own_dig ((own_n xx) / (10000 : Int32)) (3 : Int32))) ||| (own_dig ((own_n xx) / (1000 : Int32)) (4 : Int32))) ||| (own_dig ((own_n xx) / (100 : Int32)) (5 : Int32))))])) rfl (by rw [hml]; rfl) (lenOf pd_0 rfl) rfl (by show 2 * 0 + _ ≤ _; exact Nat.le_of_eq rfl) (hb hby at_69)
  refine own_go (T' := T7) (g' := (mkF m 72 #[.val (.int xx), .val (.int (own_n xx)), .unset, .unset] [(.long (own_dig ((own_n xx) / (10 : Int32)) (6 : Int32))), (.long ((((((own_dig ((own_n xx) / (10000000 : Int32)) (0 : Int32)) ||| (own_dig ((own_n xx) / (1000000 : Int32)) (1 : Int32))) ||| (own_dig ((own_n xx) / (100000 : Int32)) (2 : Int32))) ||| (own_dig ((own_n xx) / (10000 : Int32)) (3 : Int32))) ||| (own_dig ((own_n xx) / (1000 : Int32)) (4 : Int32))) ||| (own_dig ((own_n xx) / (100 : Int32)) (5 : Int32))))])) (fun t_ K => st7 _ K) ?_
  refine own_go (T' := T7) (g' := (mkF m 73 #[.val (.int xx), .val (.int (own_n xx)), .unset, .unset] [(.long (((((((own_dig ((own_n xx) / (10000000 : Int32)) (0 : Int32)) ||| (own_dig ((own_n xx) / (1000000 : Int32)) (1 : Int32))) ||| (own_dig ((own_n xx) / (100000 : Int32)) (2 : Int32))) ||| (own_dig ((own_n xx) / (10000 : Int32)) (3 : Int32))) ||| (own_dig ((own_n xx) / (1000 : Int32)) (4 : Int32))) ||| (own_dig ((own_n xx) / (100 : Int32)) (5 : Int32))) ||| (own_dig ((own_n xx) / (10 : Int32)) (6 : Int32))))])) (fun t_ K => XT.lor X7.here hx rfl (hb hby at_72) rfl K) ?_
  refine own_go (T' := T7) (g' := (mkF m 74 #[.val (.int xx), .val (.int (own_n xx)), .unset, .unset] [(.int (own_n xx)), (.long (((((((own_dig ((own_n xx) / (10000000 : Int32)) (0 : Int32)) ||| (own_dig ((own_n xx) / (1000000 : Int32)) (1 : Int32))) ||| (own_dig ((own_n xx) / (100000 : Int32)) (2 : Int32))) ||| (own_dig ((own_n xx) / (10000 : Int32)) (3 : Int32))) ||| (own_dig ((own_n xx) / (1000 : Int32)) (4 : Int32))) ||| (own_dig ((own_n xx) / (100 : Int32)) (5 : Int32))) ||| (own_dig ((own_n xx) / (10 : Int32)) (6 : Int32))))])) (fun t_ K => XS.iloadN X7.here hx rfl (hb hby at_73) rfl K) ?_
  refine own_go (T' := T7) (g' := (mkF m 76 #[.val (.int xx), .val (.int (own_n xx)), .unset, .unset] [(.int (7 : Int32)), (.int (own_n xx)), (.long (((((((own_dig ((own_n xx) / (10000000 : Int32)) (0 : Int32)) ||| (own_dig ((own_n xx) / (1000000 : Int32)) (1 : Int32))) ||| (own_dig ((own_n xx) / (100000 : Int32)) (2 : Int32))) ||| (own_dig ((own_n xx) / (10000 : Int32)) (3 : Int32))) ||| (own_dig ((own_n xx) / (1000 : Int32)) (4 : Int32))) ||| (own_dig ((own_n xx) / (100 : Int32)) (5 : Int32))) ||| (own_dig ((own_n xx) / (10 : Int32)) (6 : Int32))))])) (fun t_ K => XS.bipush X7.here hx rfl (hb hby at_74) K) ?_
  obtain ⟨T8, X8, e8, st8⟩ := own_callS (W := 2) (rm := { frames := 0, cells := 0, slots := 0, locals := 0 }) X7 hx hZ hown (hw _ (List.mem_of_getElem? (i := 3) rfl)) (hw _ (List.mem_of_getElem? (i := 4) rfl)) (hw _ (List.mem_of_getElem? (i := 5) rfl)) (hw _ (List.mem_of_getElem? (i := 6) rfl)) (by decide) e7 (argsL := [(.int (own_n xx)), (.int (7 : Int32))]) (rest := [(.long (((((((own_dig ((own_n xx) / (10000000 : Int32)) (0 : Int32)) ||| (own_dig ((own_n xx) / (1000000 : Int32)) (1 : Int32))) ||| (own_dig ((own_n xx) / (100000 : Int32)) (2 : Int32))) ||| (own_dig ((own_n xx) / (10000 : Int32)) (3 : Int32))) ||| (own_dig ((own_n xx) / (1000 : Int32)) (4 : Int32))) ||| (own_dig ((own_n xx) / (100 : Int32)) (5 : Int32))) ||| (own_dig ((own_n xx) / (10 : Int32)) (6 : Int32))))]) (r := some (.long (own_dig (own_n xx) (7 : Int32)))) (rm_dg l Z a0 hw (own_n xx) (7 : Int32) h0) rfl rfl (by decide) (by decide) (by decide) (by decide) (g := (mkF m 76 #[.val (.int xx), .val (.int (own_n xx)), .unset, .unset] [(.int (7 : Int32)), (.int (own_n xx)), (.long (((((((own_dig ((own_n xx) / (10000000 : Int32)) (0 : Int32)) ||| (own_dig ((own_n xx) / (1000000 : Int32)) (1 : Int32))) ||| (own_dig ((own_n xx) / (100000 : Int32)) (2 : Int32))) ||| (own_dig ((own_n xx) / (10000 : Int32)) (3 : Int32))) ||| (own_dig ((own_n xx) / (1000 : Int32)) (4 : Int32))) ||| (own_dig ((own_n xx) / (100 : Int32)) (5 : Int32))) ||| (own_dig ((own_n xx) / (10 : Int32)) (6 : Int32))))])) rfl (by rw [hml]; rfl) (lenOf pd_0 rfl) rfl (by show 2 * 0 + _ ≤ _; exact Nat.le_of_eq rfl) (hb hby at_76)
  refine own_go (T' := T8) (g' := (mkF m 79 #[.val (.int xx), .val (.int (own_n xx)), .unset, .unset] [(.long (own_dig (own_n xx) (7 : Int32))), (.long (((((((own_dig ((own_n xx) / (10000000 : Int32)) (0 : Int32)) ||| (own_dig ((own_n xx) / (1000000 : Int32)) (1 : Int32))) ||| (own_dig ((own_n xx) / (100000 : Int32)) (2 : Int32))) ||| (own_dig ((own_n xx) / (10000 : Int32)) (3 : Int32))) ||| (own_dig ((own_n xx) / (1000 : Int32)) (4 : Int32))) ||| (own_dig ((own_n xx) / (100 : Int32)) (5 : Int32))) ||| (own_dig ((own_n xx) / (10 : Int32)) (6 : Int32))))])) (fun t_ K => st8 _ K) ?_
  refine own_go (T' := T8) (g' := (mkF m 80 #[.val (.int xx), .val (.int (own_n xx)), .unset, .unset] [(.long ((((((((own_dig ((own_n xx) / (10000000 : Int32)) (0 : Int32)) ||| (own_dig ((own_n xx) / (1000000 : Int32)) (1 : Int32))) ||| (own_dig ((own_n xx) / (100000 : Int32)) (2 : Int32))) ||| (own_dig ((own_n xx) / (10000 : Int32)) (3 : Int32))) ||| (own_dig ((own_n xx) / (1000 : Int32)) (4 : Int32))) ||| (own_dig ((own_n xx) / (100 : Int32)) (5 : Int32))) ||| (own_dig ((own_n xx) / (10 : Int32)) (6 : Int32))) ||| (own_dig (own_n xx) (7 : Int32))))])) (fun t_ K => XT.lor X8.here hx rfl (hb hby at_79) rfl K) ?_
  show Goes p e below s (own_pure (some (.int 1)) h0) 0 0 T8 (mkF m 80 #[.val (.int xx), .val (.int (own_n xx)), .unset, .unset] [(.long (own_eight (own_n xx)))])
  refine own_go (T' := T8) (g' := (mkF m 81 #[.val (.int xx), .val (.int (own_n xx)), .val (.long (own_eight (own_n xx))), .second] [])) (fun t_ K => XS.lstoreN X8.here hx rfl (hb hby at_80) rfl (l' := #[.val (.int xx), .val (.int (own_n xx)), .val (.long (own_eight (own_n xx))), .second]) rfl K) ?_
  refine own_go (T' := T8) (g' := (mkF m 82 #[.val (.int xx), .val (.int (own_n xx)), .val (.long (own_eight (own_n xx))), .second] [(.long (own_eight (own_n xx)))])) (fun t_ K => XS.lloadN X8.here hx rfl (hb hby at_81) rfl K) ?_
  obtain ⟨T9, X9, e9, st9⟩ := own_callS (W := 0) (rm := { frames := 0, cells := 0, slots := 0, locals := 0 }) X8 hx hZ hown (hw _ (List.mem_of_getElem? (i := 9) rfl)) (hw _ (List.mem_of_getElem? (i := 10) rfl)) (hw _ (List.mem_of_getElem? (i := 11) rfl)) (hw _ (List.mem_of_getElem? (i := 12) rfl)) (by decide) e8 (argsL := [(.long (own_eight (own_n xx)))]) (rest := []) (r := some (.long (own_val (own_eight (own_n xx))))) (rm_vl l Z a0 hw (own_eight (own_n xx)) h0) rfl rfl (by decide) (by decide) (by decide) (by decide) (g := (mkF m 82 #[.val (.int xx), .val (.int (own_n xx)), .val (.long (own_eight (own_n xx))), .second] [(.long (own_eight (own_n xx)))])) rfl (by rw [hml]; rfl) (lenOf pd_1 rfl) rfl (by show 2 * 0 + _ ≤ _; exact Nat.le_of_eq rfl) (hb hby at_82)
  refine own_go (T' := T9) (g' := (mkF m 85 #[.val (.int xx), .val (.int (own_n xx)), .val (.long (own_eight (own_n xx))), .second] [(.long (own_val (own_eight (own_n xx))))])) (fun t_ K => st9 _ K) ?_
  refine own_go (T' := T9) (g' := (mkF m 86 #[.val (.int xx), .val (.int (own_n xx)), .val (.long (own_eight (own_n xx))), .second] [(.int (own_n xx)), (.long (own_val (own_eight (own_n xx))))])) (fun t_ K => XS.iloadN X9.here hx rfl (hb hby at_85) rfl K) ?_
  refine own_go (T' := T9) (g' := (mkF m 87 #[.val (.int xx), .val (.int (own_n xx)), .val (.long (own_eight (own_n xx))), .second] [(.long ((own_n xx).toInt64)), (.long (own_val (own_eight (own_n xx))))])) (fun t_ K => XT.i2l X9.here hx rfl (hb hby at_86) rfl K) ?_
  refine own_go (T' := T9) (g' := (mkF m 88 #[.val (.int xx), .val (.int (own_n xx)), .val (.long (own_eight (own_n xx))), .second] [(.int (lcmpW (own_val (own_eight (own_n xx))) ((own_n xx).toInt64)))])) (fun t_ K => XS.lcmp X9.here hx rfl (hb hby at_87) rfl K) ?_
  refine own_go (T' := T9) (g' := (mkF m 91 #[.val (.int xx), .val (.int (own_n xx)), .val (.long (own_eight (own_n xx))), .second] [])) (fun t_ K => XS.ifNo X9.here hx rfl (hb hby at_88) rfl ((if0 _ _).trans (teq ((lw_eq (own_val (own_eight (own_n xx))) ((own_n xx).toInt64)).mpr (own_key xx))).2) K) ?_
  refine own_go (T' := T9) (g' := (mkF m 92 #[.val (.int xx), .val (.int (own_n xx)), .val (.long (own_eight (own_n xx))), .second] [(.int (1 : Int32))])) (fun t_ K => XS.iconst X9.here hx rfl (hb hby at_91) K) ?_
  refine own_go (T' := T9) (g' := (mkF m 96 #[.val (.int xx), .val (.int (own_n xx)), .val (.long (own_eight (own_n xx))), .second] [(.int (1 : Int32))])) (fun t_ K => XS.goto X9.here hx rfl (pc0 := 92) (pc' := 96) rfl (hb hby at_92) (by decide) (by decide) K) ?_
  exact own_retZ X9 hx Bd.returns hlk (Or.inr rfl) (hb hby at_96) ⟨rfl, rfl, e9⟩ (by decide) (by decide)
set_option maxRecDepth 65536 in
set_option maxHeartbeats 40000000 in
theorem comes_1 {Post : Tables → Env → Array Value → State → Outcome → State → Prop} (hpost : ∀ tb e args s v u, (limb_1_1.after args s (.returned v) u = true ∧ limb_1_2.after args s (.returned v) u = true ∧ True) → FrameEnd s (.returned v) u (Jvm.fieldLocs frame_1_writes args s ++ Jvm.arrayLocs frame_1_arrays args s ++ Jvm.staticLocs frame_1_statics s) 0 0 → Post tb e args s (.returned v) u) :
    ArmFor flags0 classFile x code maxLocals ret World_1 tables_1 room_1 Calls_1 rest_1 Pre_1 Post := by
  intro l hfl _ _ p e ha hc hk s m args below hf hA hF happ hP
  obtain ⟨hcalls, hrest, hpre⟩ := hP
  obtain ⟨-, -, -, hnamed, -, -, -, hat⟩ := (Spec.applies_iff hf).mp happ
  obtain ⟨hg, hn⟩ := and_e (Cond.before_iff.mp (show (Jvm.Cond.and given_1 narrow_1).before args s = true from hpre))
  obtain ⟨hcount, hk0⟩ := and_e hg
  obtain ⟨w0, rfl⟩ : ∃ w0 : Value, args = #[w0] := by
    have hs : args.size = 1 := by simpa [Cond.value, given_1] using hcount
    obtain ⟨L⟩ := args
    match L, hs with
    | [w0], _ => exact ⟨w0, rfl⟩
  have hw := fun d (hd : d ∈ tables_1) => atoms_spec (ws := Jvm.Cond.code x code maxLocals ret :: tables_1) hat d (List.mem_cons_of_mem _ hd)
  have hfit : Fit s := fun {y c} hc i hi => by
    obtain ⟨ha, rfl⟩ := Array.getElem?_eq_some_iff.mp hc
    have q := List.all_eq_true.mp ((Array.all_eq_true_iff_forall_mem.mp hF) _ (Array.getElem_mem ha)) i (List.mem_range.mpr hi)
    simpa [Array.getElem?_eq_getElem hi] using q
  obtain ⟨q0, f0⟩ := is_v hk0
  obtain rfl : w0 = (.int q0) := Option.some.inj f0
  obtain ⟨n, o, h1, h2, h3, _, L, rfl, hQ, hq⟩ := rm_law l s _ hw tables_1 q0 s.heap p e ha hc hk s m _ below hf ((Spec.applies_iff_loose hf).mp happ).1 ⟨rfl, State.Warmed39.refl s, rfl⟩ trivial
  obtain ⟨rfl, rfl, -⟩ := hQ
  refine ⟨n, _, h1, h2, h3, hpost _ _ _ _ _ _ ⟨Cond.after_iff.mpr rfl, Cond.after_iff.mpr (eq_i res_at (Term.int_eval (1)) rfl), trivial⟩ ⟨hq.1, hq.2.1, (hq.2.2.sift fun y hy => nomatch hy).mono (by decide) (by decide)⟩⟩
theorem main_1_1 : Claimed_1_1 := comes_1 fun _ _ _ _ _ _ h hF => ⟨h.1, hF⟩
theorem main_1_2 : Claimed_1_2 := comes_1 fun _ _ _ _ _ _ h hF => ⟨h.2.1, hF⟩
end Jvm.Pilot.@@N@@
namespace Jvm.Pilot.@@N@@
open Jvm Jvm.ClassFile Sem Op Lib Jvm.Free Jvm.Stand Jvm.Pilot.@@N@@.Jvm.D
/-! MADE BY PROGRAM (witnessworld.py) out of the Statement's table words and the real class files: 9 classes; the members and pool entries that the words name. The judged class is class 1, her method 1. -/
namespace start1
open Jvm.ClassFile
def u (s : String) : CpInfo := .utf8 (stringToUtf16 s)
/-- a pool by its gaps: so many unusable entries, then the entry; so many at the end -/
def gap : Nat → List CpInfo → List CpInfo
  | 0, r => r
  | n + 1, r => .unusable :: gap n r
def poolList (es : List (Nat × CpInfo)) (last : Nat) : List CpInfo := es.foldr (fun e r => gap e.1 (e.2 :: r)) (gap last [])
def pool (es : List (Nat × CpInfo)) (last : Nat) : Array CpInfo := ⟨poolList es last⟩
def fileOf (pool : Array CpInfo) (this : Nat) (attrs : Array Attribute := #[]) (ms : Array MethodInfo := #[]) (fl : Nat := 33) (sup : Nat := 0) (ifs : Array Nat := #[]) (fds : Array FieldInfo := #[]) : ClassFile where
  minorVersion := 0
  majorVersion := 65
  constantPool := pool
  accessFlags := fl
  thisClass := this
  superClass := sup
  interfaces := ifs
  fields := fds
  methods := ms
  attributes := attrs
def plain (name : String) (sup : Option ClassId) : Class where
  name := name
  kind := .ordinary
  loader := none
  accessFlags := 33
  super := sup
  interfaces := #[]
  cf := none
  fields := #[]
  methods := #[]
  instanceTypes := #[]
  staticTypes := #[]
  resolved := #[]
  callSites := []
  init := .initialized
  statics := none
  mirror := none

def pool0 : Array CpInfo := pool [(5, u "<init>"), (0, u "()V"), (1, .class_ 10), (1, u "java/lang/Object")] 113

def k0m0 : Method := { name := "<init>", desc := "()V", sig := { parameters := [], returnType := none }, accessFlags := 1, code := none }
/-- java/lang/Object -/
def k0 : Class := { plain "java/lang/Object" none with
  accessFlags := 33
  interfaces := #[]
  cf := some (fileOf pool0 8 #[] #[{ accessFlags := 1, nameIndex := 5, descriptorIndex := 6, attributes := #[] }] 33 0 #[] #[])
  fields := #[]
  methods := #[k0m0]
  instanceTypes := #[]
  staticTypes := #[]
  resolved := Array.replicate 124 none
  statics := none }

def pool1 : Array CpInfo := pool [(2, .class_ 4), (1, u "java/lang/Object"), (0, u "<init>"), (0, u "()V"), (0, .integer 2147483647), (0, .integer 100000000), (0, .integer 10000000), (0, .methodref 11 12), (0, .class_ 13), (0, .nameAndType 14 15), (0, u "com/example/ledgerwalk/ledgerwalk/load/EightBytesValueOfDigitsPinLaw"), (0, u "digitByte"), (0, u "(II)J"), (0, .integer 1000000), (0, .integer 100000), (0, .methodref 19 20), (0, .class_ 21), (0, .nameAndType 22 23), (0, u "com/example/ledgerwalk/ledgerwalk/load/EightBytes"), (0, u "valueOfDigits"), (0, u "(J)J"), (2, u "law"), (0, u "(I)Z")] 3

def k1m0 : Method := { name := "<init>", desc := "()V", sig := { parameters := [], returnType := none }, accessFlags := 1, code := none }
def k1c1 : Code := { maxStack := 4, maxLocals := 4, code := code, exceptionTable := #[], attributes := #[] }
def k1m1 : Method := { name := "law", desc := "(I)Z", sig := { parameters := [.int], returnType := some .boolean }, accessFlags := 9, code := some k1c1 }
def k1c2 : Code := { maxStack := 4, maxLocals := 4, code := method_3_code, exceptionTable := #[], attributes := #[] }
def k1m2 : Method := { name := "digitByte", desc := "(II)J", sig := { parameters := [.int, .int], returnType := some .long }, accessFlags := 10, code := some k1c2 }
/-- com/example/ledgerwalk/ledgerwalk/load/EightBytesValueOfDigitsPinLaw -/
def k1 : Class := { plain "com/example/ledgerwalk/ledgerwalk/load/EightBytesValueOfDigitsPinLaw" (some 0) with
  accessFlags := 49
  interfaces := #[]
  cf := some (fileOf pool1 11 #[] #[{ accessFlags := 1, nameIndex := 5, descriptorIndex := 6, attributes := #[] }, { accessFlags := 9, nameIndex := 26, descriptorIndex := 27, attributes := #[] }, { accessFlags := 10, nameIndex := 14, descriptorIndex := 15, attributes := #[] }] 49 2 #[] #[])
  fields := #[]
  methods := #[k1m0, k1m1, k1m2]
  instanceTypes := #[]
  staticTypes := #[]
  resolved := Array.replicate 31 none
  statics := none }

def pool2 : Array CpInfo := pool [(2, .class_ 4), (1, u "java/lang/Object"), (0, u "<init>"), (0, u "()V"), (1, .class_ 10), (1, u "com/example/ledgerwalk/ledgerwalk/load/EightBytes"), (0, u "LONGS"), (0, u "Ljava/lang/invoke/VarHandle;"), (20, .long 1085102592571150095), (1, .long 2561), (1, .long 71777214294589695), (1, .long 6553601), (1, .long 281470681808895), (1, .long 42949672960001), (8, u "(J)J"), (22, u "HIGH_BITS"), (0, u "J"), (1, u "HIGH_HALVES"), (0, u "LOW_HALVES"), (0, u "LOW_SEVENS"), (0, u "SIXES"), (0, u "THREES"), (0, u "THREES_HIGH"), (0, u "LINE_FEEDS"), (0, u "CARRIAGE_RETURNS"), (0, u "BARS"), (7, u "valueOfDigits")] 6

def k2m0 : Method := { name := "<init>", desc := "()V", sig := { parameters := [], returnType := none }, accessFlags := 2, code := none }
def k2c1 : Code := { maxStack := 4, maxLocals := 6, code := prog_180_method_5_code, exceptionTable := #[], attributes := #[] }
def k2m1 : Method := { name := "valueOfDigits", desc := "(J)J", sig := { parameters := [.long], returnType := some .long }, accessFlags := 8, code := some k2c1 }
/-- com/example/ledgerwalk/ledgerwalk/load/EightBytes -/
def k2 : Class := { plain "com/example/ledgerwalk/ledgerwalk/load/EightBytes" (some 0) with
  accessFlags := 48
  interfaces := #[]
  cf := some (fileOf pool2 8 #[] #[{ accessFlags := 2, nameIndex := 5, descriptorIndex := 6, attributes := #[] }, { accessFlags := 8, nameIndex := 94, descriptorIndex := 52, attributes := #[] }] 48 2 #[] #[{ accessFlags := 26, nameIndex := 11, descriptorIndex := 12, attributes := #[] }, { accessFlags := 26, nameIndex := 75, descriptorIndex := 76, attributes := #[] }, { accessFlags := 26, nameIndex := 78, descriptorIndex := 76, attributes := #[] }, { accessFlags := 26, nameIndex := 79, descriptorIndex := 76, attributes := #[] }, { accessFlags := 26, nameIndex := 80, descriptorIndex := 76, attributes := #[] }, { accessFlags := 26, nameIndex := 81, descriptorIndex := 76, attributes := #[] }, { accessFlags := 26, nameIndex := 82, descriptorIndex := 76, attributes := #[] }, { accessFlags := 26, nameIndex := 83, descriptorIndex := 76, attributes := #[] }, { accessFlags := 26, nameIndex := 84, descriptorIndex := 76, attributes := #[] }, { accessFlags := 26, nameIndex := 85, descriptorIndex := 76, attributes := #[] }, { accessFlags := 26, nameIndex := 86, descriptorIndex := 76, attributes := #[] }])
  fields := #[{ name := "LONGS", type := (.object "java/lang/invoke/VarHandle"), accessFlags := 26, slot := 0, constantValue := 0 }, { name := "HIGH_BITS", type := .long, accessFlags := 26, slot := 1, constantValue := 0 }, { name := "HIGH_HALVES", type := .long, accessFlags := 26, slot := 2, constantValue := 0 }, { name := "LOW_HALVES", type := .long, accessFlags := 26, slot := 3, constantValue := 0 }, { name := "LOW_SEVENS", type := .long, accessFlags := 26, slot := 4, constantValue := 0 }, { name := "SIXES", type := .long, accessFlags := 26, slot := 5, constantValue := 0 }, { name := "THREES", type := .long, accessFlags := 26, slot := 6, constantValue := 0 }, { name := "THREES_HIGH", type := .long, accessFlags := 26, slot := 7, constantValue := 0 }, { name := "LINE_FEEDS", type := .long, accessFlags := 26, slot := 8, constantValue := 0 }, { name := "CARRIAGE_RETURNS", type := .long, accessFlags := 26, slot := 9, constantValue := 0 }, { name := "BARS", type := .long, accessFlags := 26, slot := 10, constantValue := 0 }]
  methods := #[k2m0, k2m1]
  instanceTypes := #[]
  staticTypes := #[(.object "java/lang/invoke/VarHandle"), .long, .long, .long, .long, .long, .long, .long, .long, .long, .long]
  resolved := Array.replicate 101 none
  statics := none }

def pool3 : Array CpInfo := pool [(1, u "java/lang/Cloneable"), (0, .class_ 1), (0, u "java/lang/Object"), (0, .class_ 3)] 3

/-- java/lang/Cloneable -/
def k3 : Class := { plain "java/lang/Cloneable" (some 0) with
  accessFlags := 1537
  interfaces := #[]
  cf := some (fileOf pool3 2 #[] #[] 1537 4 #[] #[])
  fields := #[]
  methods := #[]
  instanceTypes := #[]
  staticTypes := #[]
  resolved := Array.replicate 8 none
  statics := none }

def pool4 : Array CpInfo := pool [(1, u "java/io/Serializable"), (0, .class_ 1), (0, u "java/lang/Object"), (0, .class_ 3)] 3

/-- java/io/Serializable -/
def k4 : Class := { plain "java/io/Serializable" (some 0) with
  accessFlags := 1537
  interfaces := #[]
  cf := some (fileOf pool4 2 #[] #[] 1537 4 #[] #[])
  fields := #[]
  methods := #[]
  instanceTypes := #[]
  staticTypes := #[]
  resolved := Array.replicate 8 none
  statics := none }

/-- the primitive byte -/
def k5 : Class := { plain "byte" none with kind := .primitive 'B', accessFlags := 0x411 }
/-- [B -/
def k6 : Class := { plain "[B" (some 0) with kind := .array 5 .byte, interfaces := #[3, 4], accessFlags := 1041 }

/-- the primitive int -/
def k7 : Class := { plain "int" none with kind := .primitive 'I', accessFlags := 0x411 }
/-- [I -/
def k8 : Class := { plain "[I" (some 0) with kind := .array 7 .int, interfaces := #[3, 4], accessFlags := 1041 }

def heap : Heap := #[]
def classes : Array Class := #[k0, k1, k2, k3, k4, k5, k6, k7, k8]
def interned : List (Array UInt16 × Addr) := []
def slotsUsed : Nat := 0
def theMethod : MethodId := ⟨1, 1⟩
def args0 : Array Value := #[.int 5]
def aboutOver (below : List Frame) : State where
  vm := { classes := classes, interned := interned.toArray }
  heap := heap
  slotsUsed := slotsUsed
  threads := #[{ frames := .invoking theMethod args0 :: below }]
def below0 : List Frame := [.native { method := ⟨0, 0⟩, args := #[] }]
def about1 : State := aboutOver below0
def p0 : Program := .bare "" "" ""
def e0 : Env := launch0.env 0 0 0
theorem w_frames : about1.frames = Frame.invoking theMethod args0 :: below0 := rfl
set_option maxRecDepth 65536 in
theorem w_args : argsFit about1.vm theMethod args0 = true := by decide +kernel
set_option maxRecDepth 65536 in
theorem w_heap : heapFits about1 = true := by decide +kernel
set_option maxRecDepth 65536 in
theorem w_runnable : about1.curStatus? = some .runnable := by decide +kernel
set_option maxRecDepth 65536 in
theorem w_alone : about1.alone = true := by decide +kernel
set_option maxRecDepth 65536 in
theorem w_named : about1.methodNamed? x = some theMethod := by decide +kernel
set_option maxRecDepth 65536 in
theorem w_hears : about1.hears theMethod below0 = true := by decide +kernel
set_option maxRecDepth 65536 in
theorem w_ripe : about1.ripe theMethod args0 below0 = true := by decide +kernel
theorem w_running : about1.status = .running := rfl
set_option maxRecDepth 65536 in
theorem w_room : about1.hasRoom e0.platform room_1 = true :=
  launch0.hasRoom_least _ room_1 (by decide +kernel) (by decide +kernel) (by decide +kernel) (by decide +kernel) (by decide +kernel) (by decide +kernel)
theorem allAtoms_all (ts : List Jvm.Cond) (a : Array Jvm.Value) (st : Jvm.State) : (allAtoms ts).before a st = ts.all (fun c => c.before a st) := by
  induction ts with
  | nil => rfl
  | cons c t ih =>
    show (Jvm.Cond.and c (allAtoms t)).before a st = _
    rw [Jvm.Cond.before_and, ih, List.all_cons]
def words1 : List Jvm.Cond := Jvm.Cond.code x code maxLocals ret :: tables_1
/-- a 'code' word, met by the world's own term for the bytes: nothing is compared byte by byte -/
theorem code_word {y : MethodName} {bytes : ByteArray} {mx : Nat} {rt : Option FieldType} {a : Array Value} {s : State} {m : MethodId} {meth : Method} {c : Code} (h1 : s.methodNamed? y = some m) (h2 : s.vm.method? m = some meth) (h3 : meth.code = some c) (h4 : c.code = bytes)
    (h5 : (c.maxLocals == mx && c.exceptionTable.isEmpty && decide (c.maxStack ≤ mostOperands) && decide (meth.sig.returnType = rt) && !meth.locks && decide (parseMethodDescriptor y.desc = some meth.sig)) = true) : (Jvm.Cond.code y bytes mx rt).before a s = true := by
  simp only [Bool.and_eq_true, beq_iff_eq, Bool.not_eq_true', decide_eq_true_eq] at h5
  obtain ⟨⟨⟨⟨⟨g1, g2⟩, g3⟩, g4⟩, g5⟩, g6⟩ := h5
  simp [Cond.before, Cond.holds, Cond.value, h1, h2, h3, h4, g1, g2, g3, g4, g5, g6]
def isCode : Jvm.Cond → Bool
  | .code _ _ _ _ => true
  | _ => false
theorem all_split {L : List Jvm.Cond} {P : Jvm.Cond → Bool} (h1 : L.all (fun c => isCode c || P c) = true) (h2 : ∀ c ∈ L.filter isCode, P c = true) : L.all P = true := by
  refine List.all_eq_true.mpr fun c hc => ?_
  have h := List.all_eq_true.mp h1 c hc
  rcases Bool.eq_false_or_eq_true (isCode c) with hi | hi
  · exact h2 c (List.mem_filter.mpr ⟨hc, hi⟩)
  · simpa [hi] using h
set_option maxRecDepth 65536 in
theorem w_c0 : (Jvm.Cond.code x code maxLocals ret).before args0 about1 = true := code_word (m := ⟨1, 1⟩) (meth := k1m1) (c := k1c1) (by decide +kernel) rfl rfl rfl (by decide +kernel)
set_option maxRecDepth 65536 in
theorem w_c1 : (Jvm.Cond.code ({ cls := "com/example/ledgerwalk/ledgerwalk/load/EightBytesValueOfDigitsPinLaw", name := "digitByte", desc := "(II)J" } : Jvm.MethodName) method_3_code (4 : Nat) (Option.some Jvm.ClassFile.FieldType.long)).before args0 about1 = true := code_word (m := ⟨1, 2⟩) (meth := k1m2) (c := k1c2) (by decide +kernel) rfl rfl rfl (by decide +kernel)
set_option maxRecDepth 65536 in
theorem w_c2 : (Jvm.Cond.code ({ cls := "com/example/ledgerwalk/ledgerwalk/load/EightBytes", name := "valueOfDigits", desc := "(J)J" } : Jvm.MethodName) prog_180_method_5_code (6 : Nat) (Option.some Jvm.ClassFile.FieldType.long)).before args0 about1 = true := code_word (m := ⟨2, 1⟩) (meth := k2m1) (c := k2c1) (by decide +kernel) rfl rfl rfl (by decide +kernel)
def codes1 : List Jvm.Cond := [Jvm.Cond.code x code maxLocals ret, Jvm.Cond.code ({ cls := "com/example/ledgerwalk/ledgerwalk/load/EightBytesValueOfDigitsPinLaw", name := "digitByte", desc := "(II)J" } : Jvm.MethodName) method_3_code (4 : Nat) (Option.some Jvm.ClassFile.FieldType.long), Jvm.Cond.code ({ cls := "com/example/ledgerwalk/ledgerwalk/load/EightBytes", name := "valueOfDigits", desc := "(J)J" } : Jvm.MethodName) prog_180_method_5_code (6 : Nat) (Option.some Jvm.ClassFile.FieldType.long)]
set_option maxRecDepth 65536 in
theorem codes_eq : words1.filter isCode = codes1 := rfl
theorem w_codes : ∀ c ∈ words1.filter isCode, c.before args0 about1 = true := by
  rw [codes_eq]
  intro c hc
  simp only [codes1, List.mem_cons, List.not_mem_nil, or_false] at hc
  rcases hc with rfl | rfl | rfl
  · exact w_c0
  · exact w_c1
  · exact w_c2
set_option maxRecDepth 65536 in
theorem w_t1 : words1.all (fun c => isCode c || c.before args0 about1) = true := by decide +kernel
theorem w_tables : (allAtoms (Jvm.Cond.code x code maxLocals ret :: tables_1)).before args0 about1 = true := by
  rw [allAtoms_all]
  show words1.all (fun c => c.before args0 about1) = true
  refine all_split ?_ w_codes
  rw [w_t1]
set_option maxRecDepth 65536 in
theorem w_case : (Jvm.Cond.and given_1 narrow_1).before args0 about1 = true := by decide +kernel
theorem w_applies : (headSpec (Jvm.Cond.code x code maxLocals ret :: tables_1) room_1).applies x e0.platform about1 = true :=
  (Spec.applies_iff w_frames).mpr ⟨w_running, w_runnable, w_alone, w_named, w_hears, w_ripe, w_room, w_tables⟩
theorem atStart : AtStart classFile x code maxLocals ret World_1 tables_1 room_1 Calls_1 rest_1 Pre_1 launch0 p0 e0 about1 theMethod args0 below0 :=
  ⟨lists_1, trivial, launch0.admits_env _ _ _, launch0.least_env, fairChoices_fair.cas, fairChoices_fair.clock, w_frames, w_args, w_heap, w_applies, trivial, trivial, w_case⟩
end start1
theorem witness_1 : WitnessClaimed_1 := ⟨start1.p0, start1.e0, start1.about1, start1.theMethod, start1.args0, start1.below0, start1.atStart⟩
end Jvm.Pilot.@@N@@
