import JvmDerived
import JvmDerived.Pilot.@@N@@Statement
import JvmDerived.Pilot.@@N@@Code
set_option linter.unusedVariables false
set_option linter.unusedSimpArgs false
@@BLOCK:NumsL.lean.txt@@
namespace Jvm.Pilot.@@N@@
open Jvm Jvm.ClassFile Sem Op Lib Jvm.Free Jvm.Stand Jvm.LawKit Jvm.RoadKit Bundle Jvm.Pilot.@@N@@.Jvm.D
/-! The walk in the continuation's form: 'Goes' says of a place (state, frame) that from it the body ends as Q says. -/
def Goes (p : Program) (e : Env) (below : List Frame) (s : State) (Q : Option Value → Heap → List Loc → Prop) (k n : Nat) (T : State) (g : JFrame) : Prop :=
  ∃ s₂ o, Steps p.tables e below (T.setTop g) s₂ ∧ s₂.status = .running ∧ Ended s₂ below o ∧ ∃ v L, o = .returned v ∧ Q v s₂.heap L ∧ FrameEnd s o s₂ L k n
section OwnKit
variable {p : Program} {l : Launch} {e : Env} {R : Room} {s : State} {m : MethodId} {args : Array Value} {below : List Frame} {meth : Method} {c : Code} {T T' : State} {locs : List Loc} {cells slots : Nat} {Q : Option Value → Heap → List Loc → Prop} {k n : Nat} {g g' : JFrame}
theorem own_go (f : ∀ t, Steps p.tables e below (T'.setTop g') t → Steps p.tables e below (T.setTop g) t) (h : Goes p e below s Q k n T' g') : Goes p e below s Q k n T g := by
  obtain ⟨a, b, h1, r⟩ := h
  exact ⟨a, b, f _ h1, r⟩
theorem own_tr (f : Steps p.tables e below (T.setTop g) (T'.setTop g')) (h : Goes p e below s Q k n T' g') : Goes p e below s Q k n T g := by
  obtain ⟨a, b, h1, r⟩ := h
  exact ⟨a, b, f.trans h1, r⟩
theorem own_ret (X : Stand p l e R s m args below meth c T locs cells slots) (hx : p.tables.exec = Jvm.exec) {pc : Nat} {Ls : Array Slot} {w : Value} {t : FieldType} {i : Instr} {rest : List Value} (hret : meth.sig.returnType = some t) (hlocks : meth.locks = false) (hn : narrow t w = w)
    (hi : (i = .ireturn ∧ (t = .int ∨ t = .boolean ∨ t = .byte ∨ t = .char ∨ t = .short) ∧ ∃ z, w = .int z) ∨ (i = .lreturn ∧ t = .long ∧ ∃ z, w = .long z) ∨ (i = .dreturn ∧ t = .double ∧ ∃ z, w = .double z) ∨ (i = .freturn ∧ t = .float ∧ ∃ z, w = .float z) ∨ (i = .areturn ∧ t.isReference = true ∧ w.isRef = true))
    (hd : decode c.code pc = .ok (i, 1)) (hQ : Q (some w) T.heap locs) (hc : cells ≤ k) (hs : slots ≤ n) : Goes p e below s Q k n T (mkF m pc Ls (w :: rest)) := by
  obtain ⟨fs, hr, hrun, hended, hW, hsame⟩ := X.leave (v := some w) (fun h => by rw [hret] at h; cases h) hlocks
  exact ⟨_, _, retOut X hx hret hn hi hd hr, hrun, hended, _, _, rfl, hQ, ⟨_, rfl⟩, hW, hsame.mono hc hs⟩
theorem own_retI (X : Stand p l e R s m args below meth c T locs cells slots) (hx : p.tables.exec = Jvm.exec) {pc : Nat} {Ls : Array Slot} {z : Int32} {rest : List Value} (hret : meth.sig.returnType = some .int) (hlocks : meth.locks = false)
    (hd : decode c.code pc = .ok (.ireturn, 1)) (hQ : Q (some (.int z)) T.heap locs) (hc : cells ≤ k) (hs : slots ≤ n) : Goes p e below s Q k n T (mkF m pc Ls (.int z :: rest)) :=
  own_ret X hx hret hlocks rfl (Or.inl ⟨rfl, Or.inl rfl, z, rfl⟩) hd hQ hc hs
theorem own_retZ (X : Stand p l e R s m args below meth c T locs cells slots) (hx : p.tables.exec = Jvm.exec) {pc : Nat} {Ls : Array Slot} {z : Int32} {rest : List Value} (hret : meth.sig.returnType = some .boolean) (hlocks : meth.locks = false) (hz : z = 0 ∨ z = 1)
    (hd : decode c.code pc = .ok (.ireturn, 1)) (hQ : Q (some (.int z)) T.heap locs) (hc : cells ≤ k) (hs : slots ≤ n) : Goes p e below s Q k n T (mkF m pc Ls (.int z :: rest)) :=
  own_ret X hx hret hlocks (by rcases hz with rfl | rfl <;> rfl) (Or.inl ⟨rfl, Or.inr (Or.inl rfl), z, rfl⟩) hd hQ hc hs
theorem own_retJ (X : Stand p l e R s m args below meth c T locs cells slots) (hx : p.tables.exec = Jvm.exec) {pc : Nat} {Ls : Array Slot} {z : Int64} {rest : List Value} (hret : meth.sig.returnType = some .long) (hlocks : meth.locks = false)
    (hd : decode c.code pc = .ok (.lreturn, 1)) (hQ : Q (some (.long z)) T.heap locs) (hc : cells ≤ k) (hs : slots ≤ n) : Goes p e below s Q k n T (mkF m pc Ls (.long z :: rest)) :=
  own_ret X hx hret hlocks rfl (Or.inr (Or.inl ⟨rfl, rfl, z, rfl⟩)) hd hQ hc hs
theorem own_retA (X : Stand p l e R s m args below meth c T locs cells slots) (hx : p.tables.exec = Jvm.exec) {pc : Nat} {Ls : Array Slot} {w : Value} {t : FieldType} {rest : List Value} (hret : meth.sig.returnType = some t) (ht : t.isReference = true) (hlocks : meth.locks = false) (hw : w.isRef = true)
    (hd : decode c.code pc = .ok (.areturn, 1)) (hQ : Q (some w) T.heap locs) (hc : cells ≤ k) (hs : slots ≤ n) : Goes p e below s Q k n T (mkF m pc Ls (w :: rest)) :=
  own_ret X hx hret hlocks (by cases t <;> simp [FieldType.isReference] at ht <;> cases w <;> simp [Value.isRef] at hw <;> rfl) (Or.inr (Or.inr (Or.inr (Or.inr ⟨rfl, ht, hw⟩)))) hd hQ hc hs
theorem own_retV (X : Stand p l e R s m args below meth c T locs cells slots) (hx : p.tables.exec = Jvm.exec) {pc : Nat} {Ls : Array Slot} (hret : meth.sig.returnType = none) (hlocks : meth.locks = false)
    (hd : decode c.code pc = .ok (.return_, 1)) (hQ : Q none T.heap locs) (hc : cells ≤ k) (hs : slots ≤ n) : Goes p e below s Q k n T (mkF m pc Ls []) := by
  obtain ⟨fs, hr, hrun, hended, hW, hsame⟩ := X.leave (v := none) (fun _ => rfl) hlocks
  exact ⟨_, _, X.returnOut hx hret hd hr, hrun, hended, _, _, rfl, hQ, ⟨_, rfl⟩, hW, hsame.mono hc hs⟩
/-- what a callee that writes nothing leaves: its value r, the heap as it was -/
def own_pure (r : Option Value) (h0 : Heap) : Option Value → Heap → List Loc → Prop := fun v h L => v = r ∧ L = [] ∧ h = h0
/-- a callee's contract -/
abbrev Pays (l : Launch) (Z : State) (y : MethodName) (bytes : ByteArray) (maxL : Nat) (ret : Option FieldType) (rm : Room) (as' : Array Value) (h0 : Heap) (Q : Option Value → Heap → List Loc → Prop) : Prop :=
  MetFree l y (head1 [Jvm.Cond.code y bytes maxL ret] rm) (fun a U => a = as' ∧ Z.Warmed39 U.vm ∧ U.heap = h0) (fun _ _ _ _ _ => True) (fun _ U o U' => ∃ v L, o = .returned v ∧ Q v U'.heap L ∧ FrameEnd U o U' L rm.cells rm.slots)
theorem own_callS {Z : State} {a0 : Array Value} {h : Heap} {rm : Room} {W : Nat} {own : String} {index : Nat} {y : MethodName} {bytes : ByteArray} {maxL : Nat} {ret : Option FieldType} {argsL rest : List Value} {r : Option Value}
    (X : Stand p l e R s m args below meth c T locs cells slots) (hx : p.tables.exec = Jvm.exec) (hZ : Z.Warmed39 s.vm) (hown : s.vm.findClass own = some m.cls)
    (wl : (Jvm.Cond.methodLink own index y).before a0 Z = true) (wst : (Jvm.Cond.static y).before a0 Z = true) (wi : (Jvm.Cond.initialized y.cls).before a0 Z = true) (wc : (Jvm.Cond.code y bytes maxL ret).before a0 Z = true)
    (hy : y.cls ≠ "java/lang/invoke/MethodHandle" ∧ y.cls ≠ "java/lang/invoke/VarHandle") (eT : T.heap = h)
    (hM : Pays l Z y bytes maxL ret rm argsL.toArray h (own_pure r h)) (hrc : rm.cells = 0) (hrs : rm.slots = 0) (hcl : cells ≤ R.cells) (hsl : slots ≤ R.slots) (hf : rm.frames + 1 ≤ R.frames) (hl : W + (maxL + 11) + rm.locals ≤ R.locals)
    (hg : g.method = m) (hsize : g.locals.size = c.maxLocals) (hlen : ∀ sig, parseMethodDescriptor y.desc = some sig → argsL.length = sig.parameters.length)
    (hstack : g.stack = argsL.reverse ++ rest) (hW : 2 * g.monitorRoom + (rest.map fun v => v.category).sum ≤ W) (hdg : decode c.code g.pc = .ok (.invokestatic index, 3)) :
    ∃ T', Stand p l e R s m args below meth c T' locs cells slots ∧ T'.heap = h ∧ ∀ t, Steps p.tables e below (T'.setTop { g with pc := g.pc + 3, stack := r.toList ++ rest }) t → Steps p.tables e below (T.setTop g) t := by
  obtain ⟨v, vm₁, ⟨T1, L1, k1, n1⟩, hw1, X1, ⟨Lc, hQ, l1, y1, z1⟩, st⟩ := Jvm.LawKit.callS X hx (y := y) hown (mvT hZ wl) (mvT hZ wst) (mvT hZ wi) (mvT hZ wc) hy (backOf (W := W) hM hZ wc wi hf hl) hg hsize hlen hstack hW hdg (fun _ _ => ⟨rfl, eT, by rw [hrc]; exact hcl, by rw [hrs]; exact hsl⟩)
  dsimp only [Pt.U, Pt.locs, Pt.cells, Pt.slots] at X1 l1 y1 z1 st hQ
  obtain ⟨rfl, rfl, hh⟩ := hQ
  subst l1 y1 z1
  rw [List.append_nil, hrc, hrs, Nat.add_zero, Nat.add_zero] at X1
  exact ⟨T1, X1, hh, st⟩
theorem own_callV {Z : State} {a0 : Array Value} {h : Heap} {rm : Room} {W : Nat} {own C : String} {index : Nat} {y z : MethodName} {bytes : ByteArray} {maxL : Nat} {ret : Option FieldType} {argsL rest : List Value} {r : Option Value} {b : Addr}
    (X : Stand p l e R s m args below meth c T locs cells slots) (hx : p.tables.exec = Jvm.exec) (hZ : Z.Warmed39 s.vm) (hown : s.vm.findClass own = some m.cls)
    (wl : (Jvm.Cond.methodLink own index y).before a0 Z = true) (wd : (Jvm.Cond.declares y).before a0 Z = true) (wsel : (Jvm.Cond.selects C y z).before a0 Z = true) (hnf : NotFace s y) (win : (Jvm.Cond.instanceMethod z).before a0 Z = true) (wi : (Jvm.Cond.initialized z.cls).before a0 Z = true) (wc : (Jvm.Cond.code z bytes maxL ret).before a0 Z = true)
    (hy : y.cls ≠ "java/lang/invoke/MethodHandle" ∧ y.cls ≠ "java/lang/invoke/VarHandle") (eT : T.heap = h) (E : Exa Z h b C)
    (hM : Pays l Z z bytes maxL ret rm (.ref b :: argsL).toArray h (own_pure r h)) (hrc : rm.cells = 0) (hrs : rm.slots = 0) (hcl : cells ≤ R.cells) (hsl : slots ≤ R.slots) (hf : rm.frames + 1 ≤ R.frames) (hl : W + (maxL + 11) + rm.locals ≤ R.locals)
    (hg : g.method = m) (hsize : g.locals.size = c.maxLocals) (hlen : ∀ sig, parseMethodDescriptor y.desc = some sig → argsL.length = sig.parameters.length)
    (hstack : g.stack = argsL.reverse ++ .ref b :: rest) (hW : 2 * g.monitorRoom + (rest.map fun v => v.category).sum ≤ W) (hdg : decode c.code g.pc = .ok (.invokevirtual index, 3)) :
    ∃ T', Stand p l e R s m args below meth c T' locs cells slots ∧ T'.heap = h ∧ ∀ t, Steps p.tables e below (T'.setTop { g with pc := g.pc + 3, stack := r.toList ++ rest }) t → Steps p.tables e below (T.setTop g) t := by
  obtain ⟨cq, kq, qa, qb, qc⟩ := isOf hZ eT E
  obtain ⟨v, vm₁, ⟨T1, L1, k1, n1⟩, hw1, X1, ⟨Lc, hQ, l1, y1, z1⟩, st⟩ := X.virtualBack hx (y := y) (z := z) hown (mvT hZ wl) (mvT hZ wd) hnf (mvT hZ wsel) (mvT hZ win) hy (backOf (W := W) hM hZ wc wi hf hl) qa qc hg hsize (Steps.refl _) hlen hstack hW hdg (fun _ _ => ⟨rfl, eT, by rw [hrc]; exact hcl, by rw [hrs]; exact hsl⟩)
  dsimp only [Pt.U, Pt.locs, Pt.cells, Pt.slots] at X1 l1 y1 z1 st hQ
  obtain ⟨rfl, rfl, hh⟩ := hQ
  subst l1 y1 z1
  rw [List.append_nil, hrc, hrs, Nat.add_zero, Nat.add_zero] at X1
  exact ⟨T1, X1, hh, fun t k => st.trans k⟩
/-- what a law that makes objects leaves: true, and nothing old written -/
def own_one (n0 : Nat) : Option Value → Heap → List Loc → Prop := fun v h L => v = some (.int 1) ∧ Fr n0 L
theorem own_callI {Z : State} {a0 : Array Value} {h : Heap} {rm : Room} {W : Nat} {own : String} {index : Nat} {y : MethodName} {bytes : ByteArray} {maxL : Nat} {argsL rest : List Value} {a : Addr}
    (X : Stand p l e R s m args below meth c T locs cells slots) (hx : p.tables.exec = Jvm.exec) (hZ : Z.Warmed39 s.vm) (hown : s.vm.findClass own = some m.cls) (hy1 : y.name = "<init>")
    (wl : (Jvm.Cond.methodLink own index y).before a0 Z = true) (win : (Jvm.Cond.instanceMethod y).before a0 Z = true) (wi : (Jvm.Cond.initialized y.cls).before a0 Z = true) (wc : (Jvm.Cond.code y bytes maxL none).before a0 Z = true)
    (hy : y.cls ≠ "java/lang/invoke/MethodHandle" ∧ y.cls ≠ "java/lang/invoke/VarHandle") (eT : T.heap = h)
    (hM : Pays l Z y bytes maxL none rm (.ref a :: argsL).toArray h (own_pure none h)) (hrc : rm.cells = 0) (hrs : rm.slots = 0) (hcl : cells ≤ R.cells) (hsl : slots ≤ R.slots) (hf : rm.frames + 1 ≤ R.frames) (hl : W + (maxL + 11) + rm.locals ≤ R.locals)
    (hg : g.method = m) (hsize : g.locals.size = c.maxLocals) (hlen : ∀ sig, parseMethodDescriptor y.desc = some sig → argsL.length = sig.parameters.length)
    (hstack : g.stack = argsL.reverse ++ .ref a :: rest) (hW : 2 * g.monitorRoom + (rest.map fun v => v.category).sum ≤ W) (hdg : decode c.code g.pc = .ok (.invokespecial index, 3)) :
    ∃ T', Stand p l e R s m args below meth c T' locs cells slots ∧ T'.heap = h ∧ ∀ t, Steps p.tables e below (T'.setTop { g with pc := g.pc + 3, stack := rest }) t → Steps p.tables e below (T.setTop g) t := by
  obtain ⟨v, vm₁, ⟨T1, L1, k1, n1⟩, hw1, X1, ⟨Lc, hQ, l1, y1, z1⟩, st⟩ := X.specialBack hx (y := y) hy1 hown (mvT hZ wl) (mvT hZ win) (mvT hZ wc) hy (backOf (W := W) hM hZ wc wi hf hl) hg hsize (Steps.refl _) hlen hstack hW hdg (fun _ _ => ⟨rfl, eT, by rw [hrc]; exact hcl, by rw [hrs]; exact hsl⟩)
  dsimp only [Pt.U, Pt.locs, Pt.cells, Pt.slots] at X1 l1 y1 z1 st hQ
  obtain ⟨rfl, rfl, hh⟩ := hQ
  subst l1 y1 z1
  rw [List.append_nil, hrc, hrs, Nat.add_zero, Nat.add_zero] at X1
  exact ⟨T1, X1, hh, fun t k => st.trans k⟩
theorem own_eqi {args : Array Value} {first s : State} {o : Option Outcome} {idx : List Nat} {t : Term} {k : Int32} (h : (Jvm.Cond.eq t (Term.int k)).value args first o s idx = some true) : t.eval args first o idx s = some (.int k) := by
  obtain ⟨x, y, e1, e2, k1, k2⟩ := cmp_v (Or.inl h)
  rw [Term.int_eval] at e2
  cases e2
  obtain ⟨z, rfl⟩ := k2
  have h2 : (Jvm.Cond.eq t (Term.int k)).value args first o s idx = some (decide (z = k)) := by simp [Cond.value, e1, Term.int_eval]
  rw [gotT h2 h] at e1
  exact e1
theorem own_ord {args : Array Value} {s : State} {t : Term} {x : Addr} {C n : String} {k : Int32} (ev : t.eval args s none [] s = some (.ref x)) (h : (Jvm.Cond.eq (Term.field t C n "I") (Term.int k)).value args s none s [] = some true) : Fld s s.heap x C n "I" (.int k) :=
  Fld.start ((fld_at ev).symm.trans (own_eqi h))
theorem own_sta_keep {Z : State} {h h' : Heap} {C n d D : String} {v : Value} {a : Addr} (F : Sta Z h C n d v) (K : Keep h h' [a]) (E : Exa Z h a D) : Sta Z h' C n d v := by
  obtain ⟨cf, i, k, f, st, cell, h1, h2, h3, h4, h5, h6, h7⟩ := F
  refine ⟨cf, i, k, f, st, cell, h1, h2, h3, h4, K.2.1 st cell h5 (fun q => ?_), h6, h7⟩
  obtain ⟨cell', k', g1, -, -, g4, -⟩ := E
  cases List.mem_singleton.mp q
  rw [h5] at g1
  cases g1
  rw [h6] at g4
  cases g4
end OwnKit
theorem ef_kd (m : MethodId) (x0 : Int32) : entryFrame m #[(.int x0)] 1 = mkF m 0 #[.val (.int x0)] [] := by first | (simp [entryFrame, mkF, argsToLocals, Value.category]; done) | rfl
theorem pn_0 : plainName "com/example/hosts_to_leader/hoststoleader/model/ElectionMessageEqualsPinLaw" = true := by first | (simp [plainName, overriddenIn]; done) | decide +kernel
theorem d_kd_0 : decode method_2_code 0 = .ok (.iload_n 0, 1) := by decide +kernel
theorem d_kd_1 : decode method_2_code 1 = .ok (.ifCond .ne 7, 3) := by decide +kernel
theorem d_kd_4 : decode method_2_code 4 = .ok (.getstatic 7, 3) := by decide +kernel
theorem d_kd_7 : decode method_2_code 7 = .ok (.areturn, 1) := by decide +kernel
theorem d_kd_8 : decode method_2_code 8 = .ok (.iload_n 0, 1) := by decide +kernel
theorem d_kd_9 : decode method_2_code 9 = .ok (.iconst 1, 1) := by decide +kernel
theorem d_kd_10 : decode method_2_code 10 = .ok (.if_icmp .ne 7, 3) := by decide +kernel
theorem d_kd_13 : decode method_2_code 13 = .ok (.getstatic 13, 3) := by decide +kernel
theorem d_kd_16 : decode method_2_code 16 = .ok (.areturn, 1) := by decide +kernel
theorem d_kd_17 : decode method_2_code 17 = .ok (.iload_n 0, 1) := by decide +kernel
theorem d_kd_18 : decode method_2_code 18 = .ok (.iconst 2, 1) := by decide +kernel
theorem d_kd_19 : decode method_2_code 19 = .ok (.if_icmp .ne 7, 3) := by decide +kernel
theorem d_kd_22 : decode method_2_code 22 = .ok (.getstatic 16, 3) := by decide +kernel
theorem d_kd_25 : decode method_2_code 25 = .ok (.areturn, 1) := by decide +kernel
theorem d_kd_26 : decode method_2_code 26 = .ok (.getstatic 19, 3) := by decide +kernel
theorem d_kd_29 : decode method_2_code 29 = .ok (.areturn, 1) := by decide +kernel
theorem ef_ini (m : MethodId) (x0 : Addr) (x1 : Addr) (x2 : Int64) (x3 : Int64) (x4 : Int32) (x5 : Int32) (x6 : Int32) : entryFrame m #[(.ref x0), (.ref x1), (.long x2), (.long x3), (.int x4), (.int x5), (.int x6)] 9 = mkF m 0 #[.val (.ref x0), .val (.ref x1), .val (.long x2), .second, .val (.long x3), .second, .val (.int x4), .val (.int x5), .val (.int x6)] [] := by first | (simp [entryFrame, mkF, argsToLocals, Value.category]; done) | rfl
theorem pn_1 : plainName "com/example/hosts_to_leader/hoststoleader/model/ElectionMessage" = true := by first | (simp [plainName, overriddenIn]; done) | decide +kernel
theorem d_ini_0 : decode prog_8_method_1_code 0 = .ok (.aload_n 0, 1) := by decide +kernel
theorem d_ini_1 : decode prog_8_method_1_code 1 = .ok (.invokespecial 1, 3) := by decide +kernel
theorem d_ini_4 : decode prog_8_method_1_code 4 = .ok (.aload_n 0, 1) := by decide +kernel
theorem d_ini_5 : decode prog_8_method_1_code 5 = .ok (.aload_n 1, 1) := by decide +kernel
theorem d_ini_6 : decode prog_8_method_1_code 6 = .ok (.putfield 7, 3) := by decide +kernel
theorem d_ini_9 : decode prog_8_method_1_code 9 = .ok (.aload_n 0, 1) := by decide +kernel
theorem d_ini_10 : decode prog_8_method_1_code 10 = .ok (.lload_n 2, 1) := by decide +kernel
theorem d_ini_11 : decode prog_8_method_1_code 11 = .ok (.putfield 13, 3) := by decide +kernel
theorem d_ini_14 : decode prog_8_method_1_code 14 = .ok (.aload_n 0, 1) := by decide +kernel
theorem d_ini_15 : decode prog_8_method_1_code 15 = .ok (.lload 4, 2) := by decide +kernel
theorem d_ini_17 : decode prog_8_method_1_code 17 = .ok (.putfield 17, 3) := by decide +kernel
theorem d_ini_20 : decode prog_8_method_1_code 20 = .ok (.aload_n 0, 1) := by decide +kernel
theorem d_ini_21 : decode prog_8_method_1_code 21 = .ok (.iload 6, 2) := by decide +kernel
theorem d_ini_23 : decode prog_8_method_1_code 23 = .ok (.putfield 20, 3) := by decide +kernel
theorem d_ini_26 : decode prog_8_method_1_code 26 = .ok (.aload_n 0, 1) := by decide +kernel
theorem d_ini_27 : decode prog_8_method_1_code 27 = .ok (.iload 7, 2) := by decide +kernel
theorem d_ini_29 : decode prog_8_method_1_code 29 = .ok (.putfield 24, 3) := by decide +kernel
theorem d_ini_32 : decode prog_8_method_1_code 32 = .ok (.aload_n 0, 1) := by decide +kernel
theorem d_ini_33 : decode prog_8_method_1_code 33 = .ok (.iload 8, 2) := by decide +kernel
theorem d_ini_35 : decode prog_8_method_1_code 35 = .ok (.putfield 27, 3) := by decide +kernel
theorem d_ini_38 : decode prog_8_method_1_code 38 = .ok (.return_, 1) := by decide +kernel
theorem ef_num (m : MethodId) (x0 : Addr) : entryFrame m #[(.ref x0)] 1 = mkF m 0 #[.val (.ref x0)] [] := by first | (simp [entryFrame, mkF, argsToLocals, Value.category]; done) | rfl
theorem pn_2 : plainName "java/lang/Number" = true := by first | (simp [plainName, overriddenIn]; done) | decide +kernel
theorem d_num_0 : decode jdk_18_method_1_code 0 = .ok (.aload_n 0, 1) := by decide +kernel
theorem d_num_1 : decode jdk_18_method_1_code 1 = .ok (.invokespecial 1, 3) := by decide +kernel
theorem d_num_4 : decode jdk_18_method_1_code 4 = .ok (.return_, 1) := by decide +kernel
theorem ef_iin (m : MethodId) (x0 : Addr) (x1 : Int32) : entryFrame m #[(.ref x0), (.int x1)] 2 = mkF m 0 #[.val (.ref x0), .val (.int x1)] [] := by first | (simp [entryFrame, mkF, argsToLocals, Value.category]; done) | rfl
theorem pn_3 : plainName "java/lang/Integer" = true := by first | (simp [plainName, overriddenIn]; done) | decide +kernel
theorem d_iin_0 : decode jdk_33_method_23_code 0 = .ok (.aload_n 0, 1) := by decide +kernel
theorem d_iin_1 : decode jdk_33_method_23_code 1 = .ok (.invokespecial 202, 3) := by decide +kernel
theorem pd_0 : parseMethodDescriptor "()V" = some ⟨[], none⟩ := by decide +kernel
theorem d_iin_4 : decode jdk_33_method_23_code 4 = .ok (.aload_n 0, 1) := by decide +kernel
theorem d_iin_5 : decode jdk_33_method_23_code 5 = .ok (.iload_n 1, 1) := by decide +kernel
theorem d_iin_6 : decode jdk_33_method_23_code 6 = .ok (.putfield 205, 3) := by decide +kernel
theorem d_iin_9 : decode jdk_33_method_23_code 9 = .ok (.return_, 1) := by decide +kernel
theorem ef_vof (m : MethodId) (x0 : Int32) : entryFrame m #[(.int x0)] 1 = mkF m 0 #[.val (.int x0)] [] := by first | (simp [entryFrame, mkF, argsToLocals, Value.category]; done) | rfl
theorem d_vof_0 : decode jdk_33_method_22_code 0 = .ok (.iload_n 0, 1) := by decide +kernel
theorem d_vof_1 : decode jdk_33_method_22_code 1 = .ok (.bipush (-128), 2) := by decide +kernel
theorem d_vof_3 : decode jdk_33_method_22_code 3 = .ok (.if_icmp .lt 20, 3) := by decide +kernel
theorem d_vof_23 : decode jdk_33_method_22_code 23 = .ok (.new 1, 3) := by decide +kernel
theorem d_vof_26 : decode jdk_33_method_22_code 26 = .ok (.dup, 1) := by decide +kernel
theorem d_vof_27 : decode jdk_33_method_22_code 27 = .ok (.iload_n 0, 1) := by decide +kernel
theorem d_vof_28 : decode jdk_33_method_22_code 28 = .ok (.invokespecial 199, 3) := by decide +kernel
theorem pd_1 : parseMethodDescriptor "(I)V" = some ⟨[.int], none⟩ := by decide +kernel
theorem d_vof_31 : decode jdk_33_method_22_code 31 = .ok (.areturn, 1) := by decide +kernel
theorem d_vof_6 : decode jdk_33_method_22_code 6 = .ok (.iload_n 0, 1) := by decide +kernel
theorem d_vof_7 : decode jdk_33_method_22_code 7 = .ok (.getstatic 191, 3) := by decide +kernel
theorem d_vof_10 : decode jdk_33_method_22_code 10 = .ok (.if_icmp .gt 13, 3) := by decide +kernel
theorem d_vof_13 : decode jdk_33_method_22_code 13 = .ok (.getstatic 195, 3) := by decide +kernel
theorem d_vof_16 : decode jdk_33_method_22_code 16 = .ok (.iload_n 0, 1) := by decide +kernel
theorem d_vof_17 : decode jdk_33_method_22_code 17 = .ok (.sipush 128, 3) := by decide +kernel
theorem d_vof_20 : decode jdk_33_method_22_code 20 = .ok (.iadd, 1) := by decide +kernel
theorem d_vof_21 : decode jdk_33_method_22_code 21 = .ok (.aaload, 1) := by decide +kernel
theorem d_vof_22 : decode jdk_33_method_22_code 22 = .ok (.areturn, 1) := by decide +kernel
theorem ef_eq (m : MethodId) (x0 : Addr) (x1 : Addr) : entryFrame m #[(.ref x0), (.ref x1)] 3 = mkF m 0 #[.val (.ref x0), .val (.ref x1), .unset] [] := by first | (simp [entryFrame, mkF, argsToLocals, Value.category]; done) | rfl
theorem d_eq_0 : decode prog_8_method_9_code 0 = .ok (.aload_n 1, 1) := by decide +kernel
theorem d_eq_1 : decode prog_8_method_9_code 1 = .ok (.instanceof 8, 3) := by decide +kernel
theorem d_eq_4 : decode prog_8_method_9_code 4 = .ok (.ifCond .ne 5, 3) := by decide +kernel
theorem d_eq_9 : decode prog_8_method_9_code 9 = .ok (.aload_n 1, 1) := by decide +kernel
theorem d_eq_10 : decode prog_8_method_9_code 10 = .ok (.checkcast 8, 3) := by decide +kernel
theorem d_eq_13 : decode prog_8_method_9_code 13 = .ok (.astore_n 2, 1) := by decide +kernel
theorem d_eq_14 : decode prog_8_method_9_code 14 = .ok (.aload_n 0, 1) := by decide +kernel
theorem d_eq_15 : decode prog_8_method_9_code 15 = .ok (.getfield 7, 3) := by decide +kernel
theorem d_eq_18 : decode prog_8_method_9_code 18 = .ok (.aload_n 2, 1) := by decide +kernel
theorem d_eq_19 : decode prog_8_method_9_code 19 = .ok (.getfield 7, 3) := by decide +kernel
theorem d_eq_22 : decode prog_8_method_9_code 22 = .ok (.if_acmp .ne 64, 3) := by decide +kernel
theorem d_eq_25 : decode prog_8_method_9_code 25 = .ok (.aload_n 0, 1) := by decide +kernel
theorem d_eq_26 : decode prog_8_method_9_code 26 = .ok (.getfield 13, 3) := by decide +kernel
theorem d_eq_29 : decode prog_8_method_9_code 29 = .ok (.aload_n 2, 1) := by decide +kernel
theorem d_eq_30 : decode prog_8_method_9_code 30 = .ok (.getfield 13, 3) := by decide +kernel
theorem d_eq_33 : decode prog_8_method_9_code 33 = .ok (.lcmp, 1) := by decide +kernel
theorem d_eq_34 : decode prog_8_method_9_code 34 = .ok (.ifCond .ne 52, 3) := by decide +kernel
theorem d_eq_37 : decode prog_8_method_9_code 37 = .ok (.aload_n 0, 1) := by decide +kernel
theorem d_eq_38 : decode prog_8_method_9_code 38 = .ok (.getfield 17, 3) := by decide +kernel
theorem d_eq_41 : decode prog_8_method_9_code 41 = .ok (.aload_n 2, 1) := by decide +kernel
theorem d_eq_42 : decode prog_8_method_9_code 42 = .ok (.getfield 17, 3) := by decide +kernel
theorem d_eq_45 : decode prog_8_method_9_code 45 = .ok (.lcmp, 1) := by decide +kernel
theorem d_eq_46 : decode prog_8_method_9_code 46 = .ok (.ifCond .ne 40, 3) := by decide +kernel
theorem d_eq_49 : decode prog_8_method_9_code 49 = .ok (.aload_n 0, 1) := by decide +kernel
theorem d_eq_50 : decode prog_8_method_9_code 50 = .ok (.getfield 20, 3) := by decide +kernel
theorem d_eq_53 : decode prog_8_method_9_code 53 = .ok (.aload_n 2, 1) := by decide +kernel
theorem d_eq_54 : decode prog_8_method_9_code 54 = .ok (.getfield 20, 3) := by decide +kernel
theorem d_eq_57 : decode prog_8_method_9_code 57 = .ok (.if_icmp .ne 29, 3) := by decide +kernel
theorem d_eq_60 : decode prog_8_method_9_code 60 = .ok (.aload_n 0, 1) := by decide +kernel
theorem d_eq_61 : decode prog_8_method_9_code 61 = .ok (.getfield 24, 3) := by decide +kernel
theorem d_eq_64 : decode prog_8_method_9_code 64 = .ok (.aload_n 2, 1) := by decide +kernel
theorem d_eq_65 : decode prog_8_method_9_code 65 = .ok (.getfield 24, 3) := by decide +kernel
theorem d_eq_68 : decode prog_8_method_9_code 68 = .ok (.if_icmp .ne 18, 3) := by decide +kernel
theorem d_eq_71 : decode prog_8_method_9_code 71 = .ok (.aload_n 0, 1) := by decide +kernel
theorem d_eq_72 : decode prog_8_method_9_code 72 = .ok (.getfield 27, 3) := by decide +kernel
theorem d_eq_75 : decode prog_8_method_9_code 75 = .ok (.aload_n 2, 1) := by decide +kernel
theorem d_eq_76 : decode prog_8_method_9_code 76 = .ok (.getfield 27, 3) := by decide +kernel
theorem d_eq_79 : decode prog_8_method_9_code 79 = .ok (.if_icmp .ne 7, 3) := by decide +kernel
theorem d_eq_82 : decode prog_8_method_9_code 82 = .ok (.iconst 1, 1) := by decide +kernel
theorem d_eq_83 : decode prog_8_method_9_code 83 = .ok (.goto 4, 3) := by decide +kernel
theorem d_eq_87 : decode prog_8_method_9_code 87 = .ok (.ireturn, 1) := by decide +kernel
theorem d_eq_86 : decode prog_8_method_9_code 86 = .ok (.iconst 0, 1) := by decide +kernel
theorem ef_eqn (m : MethodId) (x0 : Addr) : entryFrame m #[(.ref x0), .null] 3 = mkF m 0 #[.val (.ref x0), .val .null, .unset] [] := by first | (simp [entryFrame, mkF, argsToLocals, Value.category]; done) | rfl
theorem d_eqn_0 : decode prog_8_method_9_code 0 = .ok (.aload_n 1, 1) := by decide +kernel
theorem d_eqn_1 : decode prog_8_method_9_code 1 = .ok (.instanceof 8, 3) := by decide +kernel
theorem d_eqn_4 : decode prog_8_method_9_code 4 = .ok (.ifCond .ne 5, 3) := by decide +kernel
theorem d_eqn_7 : decode prog_8_method_9_code 7 = .ok (.iconst 0, 1) := by decide +kernel
theorem d_eqn_8 : decode prog_8_method_9_code 8 = .ok (.ireturn, 1) := by decide +kernel
theorem ef_eqi (m : MethodId) (x0 : Addr) (x1 : Addr) : entryFrame m #[(.ref x0), (.ref x1)] 3 = mkF m 0 #[.val (.ref x0), .val (.ref x1), .unset] [] := by first | (simp [entryFrame, mkF, argsToLocals, Value.category]; done) | rfl
theorem d_eqi_0 : decode prog_8_method_9_code 0 = .ok (.aload_n 1, 1) := by decide +kernel
theorem d_eqi_1 : decode prog_8_method_9_code 1 = .ok (.instanceof 8, 3) := by decide +kernel
theorem d_eqi_4 : decode prog_8_method_9_code 4 = .ok (.ifCond .ne 5, 3) := by decide +kernel
theorem d_eqi_7 : decode prog_8_method_9_code 7 = .ok (.iconst 0, 1) := by decide +kernel
theorem d_eqi_8 : decode prog_8_method_9_code 8 = .ok (.ireturn, 1) := by decide +kernel
theorem ef_law (m : MethodId) (x0 : Int64) (x1 : Int64) (x2 : Int32) (x3 : Int32) (x4 : Int32) (x5 : Int32) : entryFrame m #[(.long x0), (.long x1), (.int x2), (.int x3), (.int x4), (.int x5)] maxLocals = mkF m 0 #[.val (.long x0), .second, .val (.long x1), .second, .val (.int x2), .val (.int x3), .val (.int x4), .val (.int x5), .unset, .unset, .unset, .unset, .unset, .unset, .unset, .unset, .unset, .unset, .unset, .unset, .unset] [] := by first | (simp [entryFrame, mkF, argsToLocals, Value.category, maxLocals]; done) | rfl
theorem pd_2 : parseMethodDescriptor "(I)Lcom/example/hosts_to_leader/hoststoleader/model/ElectionMessage$Kind;" = some ⟨[.int], some (.object "com/example/hosts_to_leader/hoststoleader/model/ElectionMessage$Kind")⟩ := by decide +kernel
theorem pd_3 : parseMethodDescriptor "(Lcom/example/hosts_to_leader/hoststoleader/model/ElectionMessage$Kind;JJIII)V" = some ⟨[(.object "com/example/hosts_to_leader/hoststoleader/model/ElectionMessage$Kind"), .long, .long, .int, .int, .int], none⟩ := by decide +kernel
theorem pd_4 : parseMethodDescriptor "(I)Ljava/lang/Integer;" = some ⟨[.int], some (.object "java/lang/Integer")⟩ := by decide +kernel
theorem pd_5 : parseMethodDescriptor "(Ljava/lang/Object;)Z" = some ⟨[(.object "java/lang/Object")], some .boolean⟩ := by decide +kernel
def own_kind (k : Int32) (a_k0 a_k1 a_k2 a_k3 : Addr) : Addr := if k = (0 : Int32) then a_k0 else if k = (1 : Int32) then a_k1 else if k = (2 : Int32) then a_k2 else a_k3
set_option maxRecDepth 65536 in
set_option maxHeartbeats 40000000 in
theorem rm_kd (l : Launch) (Z : State) (a0 : Array Value) (hw : ∀ d ∈ tables_1, d.before a0 Z = true) (k : Int32) (a_k0 a_k1 a_k2 a_k3 : Addr) (h0 : Heap) (S_k0 : Sta Z h0 "com/example/hosts_to_leader/hoststoleader/model/ElectionMessage$Kind" "INITIATING" "Lcom/example/hosts_to_leader/hoststoleader/model/ElectionMessage$Kind;" (.ref a_k0)) (S_k1 : Sta Z h0 "com/example/hosts_to_leader/hoststoleader/model/ElectionMessage$Kind" "RELAY" "Lcom/example/hosts_to_leader/hoststoleader/model/ElectionMessage$Kind;" (.ref a_k1)) (S_k2 : Sta Z h0 "com/example/hosts_to_leader/hoststoleader/model/ElectionMessage$Kind" "FINAL" "Lcom/example/hosts_to_leader/hoststoleader/model/ElectionMessage$Kind;" (.ref a_k2)) (S_k3 : Sta Z h0 "com/example/hosts_to_leader/hoststoleader/model/ElectionMessage$Kind" "HEARTBEAT" "Lcom/example/hosts_to_leader/hoststoleader/model/ElectionMessage$Kind;" (.ref a_k3)) :
    Pays l Z (⟨"com/example/hosts_to_leader/hoststoleader/model/ElectionMessageEqualsPinLaw", "kindOf", "(I)Lcom/example/hosts_to_leader/hoststoleader/model/ElectionMessage$Kind;"⟩ : MethodName) method_2_code 1 (some (.object "com/example/hosts_to_leader/hoststoleader/model/ElectionMessage$Kind")) ({ frames := 0, cells := 0, slots := 0, locals := 0 } : Room) #[(.int k)] h0 (own_pure (some (.ref (own_kind k a_k0 a_k1 a_k2 a_k3))) h0) := by
  refine MetFree.of_bodySF (plainFor_of_name pn_0) hisR ?_
  intro p e s m args below meth c s₁ Bd hml0 hP hK
  obtain ⟨rfl, hZ, hh⟩ := hP
  have hx := Bd.exec
  have hby := Bd.bytes
  have hml : c.maxLocals = 1 := hml0
  have hown : s.vm.findClass "com/example/hosts_to_leader/hoststoleader/model/ElectionMessageEqualsPinLaw" = some m.cls := findClass_of_methodNamed Bd.named
  have hnm := (name_of_methodNamed Bd.named Bd.method).1
  have hlk : meth.locks = false := BodyLoose.notSynchronized Bd
  have X0 : Stand p l e ({ frames := 0, cells := 0, slots := 0, locals := 0 } : Room) s m #[(.int k)] below meth c s₁ [] 0 0 := Stand.of_body Bd
  have e0 : s₁.heap = h0 := by rw [← hh, Bd.state]; rfl
  show Goes p e below s (own_pure (some (.ref (own_kind k a_k0 a_k1 a_k2 a_k3))) h0) ({ frames := 0, cells := 0, slots := 0, locals := 0 } : Room).cells ({ frames := 0, cells := 0, slots := 0, locals := 0 } : Room).slots s₁ (entryFrame m #[(.int k)] 1)
  rw [ef_kd m k]
  refine own_go (T' := s₁) (g' := (mkF m 1 #[.val (.int k)] [(.int k)])) (fun t_ K => XS.iloadN X0.here hx rfl (hb hby d_kd_0) rfl K) ?_
  by_cases c1 : k = (0 : Int32)
  · refine own_go (T' := s₁) (g' := (mkF m 4 #[.val (.int k)] [])) (fun t_ K => XS.ifNo X0.here hx rfl (hb hby d_kd_1) rfl ((if0 _ _).trans (teq c1).2) K) ?_
    obtain ⟨T1, X1, e1, st1⟩ := getS2 X0 hx hZ hown (host := "") (Or.inl (hw _ (List.mem_of_getElem? (i := 28) rfl))) Via.refl e0 S_k0 (g := (mkF m 4 #[.val (.int k)] [])) rfl (hb hby d_kd_4)
    refine own_go (T' := T1) (g' := (mkF m 7 #[.val (.int k)] [(.ref a_k0)])) (fun t_ K => st1 _ K) ?_
    exact own_retA X1 hx Bd.returns rfl hlk rfl (hb hby d_kd_7) ⟨by rw [own_kind, if_pos c1], rfl, e1⟩ (by decide) (by decide)
  · refine own_go (T' := s₁) (g' := (mkF m 8 #[.val (.int k)] [])) (fun t_ K => XS.ifYes X0.here hx rfl (pc0 := 1) (pc' := 8) rfl (hb hby d_kd_1) rfl ((if0 _ _).trans (feq c1).2) (by decide) (by decide) K) ?_
    refine own_go (T' := s₁) (g' := (mkF m 9 #[.val (.int k)] [(.int k)])) (fun t_ K => XS.iloadN X0.here hx rfl (hb hby d_kd_8) rfl K) ?_
    refine own_go (T' := s₁) (g' := (mkF m 10 #[.val (.int k)] [(.int (1 : Int32)), (.int k)])) (fun t_ K => XS.iconst X0.here hx rfl (hb hby d_kd_9) K) ?_
    by_cases c10 : k = (1 : Int32)
    · refine own_go (T' := s₁) (g' := (mkF m 13 #[.val (.int k)] [])) (fun t_ K => XS.icmpNo X0.here hx rfl (hb hby d_kd_10) rfl (teq c10).2 K) ?_
      obtain ⟨T2, X2, e2, st2⟩ := getS2 X0 hx hZ hown (host := "") (Or.inl (hw _ (List.mem_of_getElem? (i := 47) rfl))) Via.refl e0 S_k1 (g := (mkF m 13 #[.val (.int k)] [])) rfl (hb hby d_kd_13)
      refine own_go (T' := T2) (g' := (mkF m 16 #[.val (.int k)] [(.ref a_k1)])) (fun t_ K => st2 _ K) ?_
      exact own_retA X2 hx Bd.returns rfl hlk rfl (hb hby d_kd_16) ⟨by rw [own_kind, if_neg c1, if_pos c10], rfl, e2⟩ (by decide) (by decide)
    · refine own_go (T' := s₁) (g' := (mkF m 17 #[.val (.int k)] [])) (fun t_ K => XS.icmpYes X0.here hx rfl (pc0 := 10) (pc' := 17) rfl (hb hby d_kd_10) rfl (feq c10).2 (by decide) (by decide) K) ?_
      refine own_go (T' := s₁) (g' := (mkF m 18 #[.val (.int k)] [(.int k)])) (fun t_ K => XS.iloadN X0.here hx rfl (hb hby d_kd_17) rfl K) ?_
      refine own_go (T' := s₁) (g' := (mkF m 19 #[.val (.int k)] [(.int (2 : Int32)), (.int k)])) (fun t_ K => XS.iconst X0.here hx rfl (hb hby d_kd_18) K) ?_
      by_cases c19 : k = (2 : Int32)
      · refine own_go (T' := s₁) (g' := (mkF m 22 #[.val (.int k)] [])) (fun t_ K => XS.icmpNo X0.here hx rfl (hb hby d_kd_19) rfl (teq c19).2 K) ?_
        obtain ⟨T3, X3, e3, st3⟩ := getS2 X0 hx hZ hown (host := "") (Or.inl (hw _ (List.mem_of_getElem? (i := 7) rfl))) Via.refl e0 S_k2 (g := (mkF m 22 #[.val (.int k)] [])) rfl (hb hby d_kd_22)
        refine own_go (T' := T3) (g' := (mkF m 25 #[.val (.int k)] [(.ref a_k2)])) (fun t_ K => st3 _ K) ?_
        exact own_retA X3 hx Bd.returns rfl hlk rfl (hb hby d_kd_25) ⟨by rw [own_kind, if_neg c1, if_neg c10, if_pos c19], rfl, e3⟩ (by decide) (by decide)
      · refine own_go (T' := s₁) (g' := (mkF m 26 #[.val (.int k)] [])) (fun t_ K => XS.icmpYes X0.here hx rfl (pc0 := 19) (pc' := 26) rfl (hb hby d_kd_19) rfl (feq c19).2 (by decide) (by decide) K) ?_
        obtain ⟨T4, X4, e4, st4⟩ := getS2 X0 hx hZ hown (host := "") (Or.inl (hw _ (List.mem_of_getElem? (i := 49) rfl))) Via.refl e0 S_k3 (g := (mkF m 26 #[.val (.int k)] [])) rfl (hb hby d_kd_26)
        refine own_go (T' := T4) (g' := (mkF m 29 #[.val (.int k)] [(.ref a_k3)])) (fun t_ K => st4 _ K) ?_
        exact own_retA X4 hx Bd.returns rfl hlk rfl (hb hby d_kd_29) ⟨by rw [own_kind, if_neg c1, if_neg c10, if_neg c19], rfl, e4⟩ (by decide) (by decide)
/-- a message's six fields -/
def own_msg (Z : State) (h : Heap) (a : Addr) (xk : Addr) (xn xy : Int64) (xr xs xl : Int32) : Prop := Exa Z h a "com/example/hosts_to_leader/hoststoleader/model/ElectionMessage" ∧ Fld Z h a "com/example/hosts_to_leader/hoststoleader/model/ElectionMessage" "kind" "Lcom/example/hosts_to_leader/hoststoleader/model/ElectionMessage$Kind;" (.ref xk) ∧ Fld Z h a "com/example/hosts_to_leader/hoststoleader/model/ElectionMessage" "electionNumber" "J" (.long xn) ∧ Fld Z h a "com/example/hosts_to_leader/hoststoleader/model/ElectionMessage" "electionKey" "J" (.long xy) ∧ Fld Z h a "com/example/hosts_to_leader/hoststoleader/model/ElectionMessage" "round" "I" (.int xr) ∧ Fld Z h a "com/example/hosts_to_leader/hoststoleader/model/ElectionMessage" "sender" "I" (.int xs) ∧ Fld Z h a "com/example/hosts_to_leader/hoststoleader/model/ElectionMessage" "leader" "I" (.int xl)
theorem own_msg_ext {Z : State} {h h' : Heap} {a xk : Addr} {xn xy : Int64} {xr xs xl : Int32} (F : own_msg Z h a xk xn xy xr xs xl) (E : Ext h h') : own_msg Z h' a xk xn xy xr xs xl := ⟨F.1.ext E, F.2.1.ext E, F.2.2.1.ext E, F.2.2.2.1.ext E, F.2.2.2.2.1.ext E, F.2.2.2.2.2.1.ext E, F.2.2.2.2.2.2.ext E⟩
theorem own_msg_keep {Z : State} {h h' : Heap} {a xk : Addr} {xn xy : Int64} {xr xs xl : Int32} {ws : List Addr} (F : own_msg Z h a xk xn xy xr xs xl) (K : Keep h h' ws) (q : a ∉ ws) : own_msg Z h' a xk xn xy xr xs xl := ⟨F.1.keep K, F.2.1.keep K q, F.2.2.1.keep K q, F.2.2.2.1.keep K q, F.2.2.2.2.1.keep K q, F.2.2.2.2.2.1.keep K q, F.2.2.2.2.2.2.keep K q⟩
def own_iq (Z : State) (a : Addr) (xk : Addr) (xn xy : Int64) (xr xs xl : Int32) (h0 : Heap) (n0 : Nat) : Option Value → Heap → List Loc → Prop := fun v h L => v = none ∧ Fr n0 L ∧ Keep h0 h [a] ∧ own_msg Z h a xk xn xy xr xs xl
set_option maxRecDepth 65536 in
set_option maxHeartbeats 40000000 in
theorem rm_ini (l : Launch) (Z : State) (a0 : Array Value) (hw : ∀ d ∈ tables_1, d.before a0 Z = true) (a xk : Addr) (xn xy : Int64) (xr xs xl : Int32) (n0 : Nat) (h0 : Heap) (ga : n0 ≤ a) (Ea : Exa Z h0 a "com/example/hosts_to_leader/hoststoleader/model/ElectionMessage") (F0 : Fld Z h0 a "com/example/hosts_to_leader/hoststoleader/model/ElectionMessage" "kind" "Lcom/example/hosts_to_leader/hoststoleader/model/ElectionMessage$Kind;" .null) (F1 : Fld Z h0 a "com/example/hosts_to_leader/hoststoleader/model/ElectionMessage" "electionNumber" "J" (.long (0 : Int64))) (F2 : Fld Z h0 a "com/example/hosts_to_leader/hoststoleader/model/ElectionMessage" "electionKey" "J" (.long (0 : Int64))) (F3 : Fld Z h0 a "com/example/hosts_to_leader/hoststoleader/model/ElectionMessage" "round" "I" (.int (0 : Int32))) (F4 : Fld Z h0 a "com/example/hosts_to_leader/hoststoleader/model/ElectionMessage" "sender" "I" (.int (0 : Int32))) (F5 : Fld Z h0 a "com/example/hosts_to_leader/hoststoleader/model/ElectionMessage" "leader" "I" (.int (0 : Int32))) :
    Pays l Z (⟨"com/example/hosts_to_leader/hoststoleader/model/ElectionMessage", "<init>", "(Lcom/example/hosts_to_leader/hoststoleader/model/ElectionMessage$Kind;JJIII)V"⟩ : MethodName) prog_8_method_1_code 9 none ({ frames := 1, cells := 0, slots := 0, locals := 12 } : Room) #[(.ref a), (.ref xk), (.long xn), (.long xy), (.int xr), (.int xs), (.int xl)] h0 (own_iq Z a xk xn xy xr xs xl h0 n0) := by
  refine MetFree.of_bodySF (plainFor_of_name pn_1) hisR ?_
  intro p e s m args below meth c s₁ Bd hml0 hP hK
  obtain ⟨rfl, hZ, hh⟩ := hP
  have hx := Bd.exec
  have hby := Bd.bytes
  have hml : c.maxLocals = 9 := hml0
  have hown : s.vm.findClass "com/example/hosts_to_leader/hoststoleader/model/ElectionMessage" = some m.cls := findClass_of_methodNamed Bd.named
  have hnm := (name_of_methodNamed Bd.named Bd.method).1
  have hlk : meth.locks = false := BodyLoose.notSynchronized Bd
  have X0 : Stand p l e ({ frames := 1, cells := 0, slots := 0, locals := 12 } : Room) s m #[(.ref a), (.ref xk), (.long xn), (.long xy), (.int xr), (.int xs), (.int xl)] below meth c s₁ [] 0 0 := Stand.of_body Bd
  have e0 : s₁.heap = h0 := by rw [← hh, Bd.state]; rfl
  have N0 := Fr.nil n0
  have K0 := Keep.refl h0 [a]
  show Goes p e below s (own_iq Z a xk xn xy xr xs xl h0 n0) ({ frames := 1, cells := 0, slots := 0, locals := 12 } : Room).cells ({ frames := 1, cells := 0, slots := 0, locals := 12 } : Room).slots s₁ (entryFrame m #[(.ref a), (.ref xk), (.long xn), (.long xy), (.int xr), (.int xs), (.int xl)] 9)
  rw [ef_ini m a xk xn xy xr xs xl]
  refine own_go (T' := s₁) (g' := (mkF m 1 #[.val (.ref a), .val (.ref xk), .val (.long xn), .second, .val (.long xy), .second, .val (.int xr), .val (.int xs), .val (.int xl)] [(.ref a)])) (fun t_ K => XS.aloadN X0.here hx rfl (hb hby d_ini_0) rfl rfl K) ?_
  obtain ⟨T1, X1, e1, st1⟩ := initO X0 hx hZ hown (hw _ (List.mem_of_getElem? (i := 13) rfl)) (hw _ (List.mem_of_getElem? (i := 14) rfl)) (hw _ (List.mem_of_getElem? (i := 15) rfl)) e0 (g := (mkF m 1 #[.val (.ref a), .val (.ref xk), .val (.long xn), .second, .val (.long xy), .second, .val (.int xr), .val (.int xs), .val (.int xl)] [(.ref a)])) rfl (by rw [hml]; rfl) rfl (hb hby d_ini_1) (by decide) (W := 0) (by show 2 * 0 + _ ≤ _; exact Nat.le_of_eq rfl) (by decide)
  refine own_go (T' := T1) (g' := (mkF m 4 #[.val (.ref a), .val (.ref xk), .val (.long xn), .second, .val (.long xy), .second, .val (.int xr), .val (.int xs), .val (.int xl)] [])) (fun t_ K => st1 _ K) ?_
  refine own_go (T' := T1) (g' := (mkF m 5 #[.val (.ref a), .val (.ref xk), .val (.long xn), .second, .val (.long xy), .second, .val (.int xr), .val (.int xs), .val (.int xl)] [(.ref a)])) (fun t_ K => XS.aloadN X1.here hx rfl (hb hby d_ini_4) rfl rfl K) ?_
  refine own_go (T' := T1) (g' := (mkF m 6 #[.val (.ref a), .val (.ref xk), .val (.long xn), .second, .val (.long xy), .second, .val (.int xr), .val (.int xs), .val (.int xl)] [(.ref xk), (.ref a)])) (fun t_ K => XS.aloadN X1.here hx rfl (hb hby d_ini_5) rfl rfl K) ?_
  obtain ⟨T2, h2, X2, e2, W2, st2⟩ := putF X1 hx hZ hown (host := "") (Or.inl (hw _ (List.mem_of_getElem? (i := 16) rfl))) Via.refl e1 F0 Ea (Or.inr ⟨(hw _ (List.mem_of_getElem? (i := 17) rfl)), rfl, hnm⟩) (hw _ (List.mem_of_getElem? (i := 1) rfl)) (ty := (.object "com/example/hosts_to_leader/hoststoleader/model/ElectionMessage$Kind")) (by decide) rfl rfl (g := (mkF m 6 #[.val (.ref a), .val (.ref xk), .val (.long xn), .second, .val (.long xy), .second, .val (.int xr), .val (.int xs), .val (.int xl)] [(.ref xk), (.ref a)])) rfl rfl (hb hby d_ini_6)
  have Ea_2 := Ea.wr W2
  have F0_2 := F0.same W2
  have F1_2 := F1.other W2 (Or.inr (slot_ne (Or.inr (hw _ (List.mem_of_getElem? (i := 19) rfl))) (Or.inr (hw _ (List.mem_of_getElem? (i := 17) rfl))) (by decide) (t := .long) (t' := (.object "com/example/hosts_to_leader/hoststoleader/model/ElectionMessage$Kind")) (by decide) (by decide)))
  have F2_2 := F2.other W2 (Or.inr (slot_ne (Or.inr (hw _ (List.mem_of_getElem? (i := 21) rfl))) (Or.inr (hw _ (List.mem_of_getElem? (i := 17) rfl))) (by decide) (t := .long) (t' := (.object "com/example/hosts_to_leader/hoststoleader/model/ElectionMessage$Kind")) (by decide) (by decide)))
  have F3_2 := F3.other W2 (Or.inr (slot_ne (Or.inr (hw _ (List.mem_of_getElem? (i := 23) rfl))) (Or.inr (hw _ (List.mem_of_getElem? (i := 17) rfl))) (by decide) (t := .int) (t' := (.object "com/example/hosts_to_leader/hoststoleader/model/ElectionMessage$Kind")) (by decide) (by decide)))
  have F4_2 := F4.other W2 (Or.inr (slot_ne (Or.inr (hw _ (List.mem_of_getElem? (i := 25) rfl))) (Or.inr (hw _ (List.mem_of_getElem? (i := 17) rfl))) (by decide) (t := .int) (t' := (.object "com/example/hosts_to_leader/hoststoleader/model/ElectionMessage$Kind")) (by decide) (by decide)))
  have F5_2 := F5.other W2 (Or.inr (slot_ne (Or.inr (hw _ (List.mem_of_getElem? (i := 27) rfl))) (Or.inr (hw _ (List.mem_of_getElem? (i := 17) rfl))) (by decide) (t := .int) (t' := (.object "com/example/hosts_to_leader/hoststoleader/model/ElectionMessage$Kind")) (by decide) (by decide)))
  have N_2 := Fr.snoc X2 N0 ga
  have K_2 := Keep.wr K0 W2 (Or.inl (List.mem_of_getElem? (i := 0) rfl))
  refine own_go (T' := T2) (g' := (mkF m 9 #[.val (.ref a), .val (.ref xk), .val (.long xn), .second, .val (.long xy), .second, .val (.int xr), .val (.int xs), .val (.int xl)] [])) (fun t_ K => st2 _ K) ?_
  refine own_go (T' := T2) (g' := (mkF m 10 #[.val (.ref a), .val (.ref xk), .val (.long xn), .second, .val (.long xy), .second, .val (.int xr), .val (.int xs), .val (.int xl)] [(.ref a)])) (fun t_ K => XS.aloadN X2.here hx rfl (hb hby d_ini_9) rfl rfl K) ?_
  refine own_go (T' := T2) (g' := (mkF m 11 #[.val (.ref a), .val (.ref xk), .val (.long xn), .second, .val (.long xy), .second, .val (.int xr), .val (.int xs), .val (.int xl)] [(.long xn), (.ref a)])) (fun t_ K => XS.lloadN X2.here hx rfl (hb hby d_ini_10) rfl K) ?_
  obtain ⟨T3, h3, X3, e3, W3, st3⟩ := putF X2 hx hZ hown (host := "") (Or.inl (hw _ (List.mem_of_getElem? (i := 18) rfl))) Via.refl e2 F1_2 Ea_2 (Or.inr ⟨(hw _ (List.mem_of_getElem? (i := 19) rfl)), rfl, hnm⟩) (hw _ (List.mem_of_getElem? (i := 1) rfl)) (ty := .long) (by decide) rfl rfl (g := (mkF m 11 #[.val (.ref a), .val (.ref xk), .val (.long xn), .second, .val (.long xy), .second, .val (.int xr), .val (.int xs), .val (.int xl)] [(.long xn), (.ref a)])) rfl rfl (hb hby d_ini_11)
  have Ea_3 := Ea_2.wr W3
  have F0_3 := F0_2.other W3 (Or.inr (slot_ne (Or.inr (hw _ (List.mem_of_getElem? (i := 17) rfl))) (Or.inr (hw _ (List.mem_of_getElem? (i := 19) rfl))) (by decide) (t := (.object "com/example/hosts_to_leader/hoststoleader/model/ElectionMessage$Kind")) (t' := .long) (by decide) (by decide)))
  have F1_3 := F1_2.same W3
  have F2_3 := F2_2.other W3 (Or.inr (slot_ne (Or.inr (hw _ (List.mem_of_getElem? (i := 21) rfl))) (Or.inr (hw _ (List.mem_of_getElem? (i := 19) rfl))) (by decide) (t := .long) (t' := .long) (by decide) (by decide)))
  have F3_3 := F3_2.other W3 (Or.inr (slot_ne (Or.inr (hw _ (List.mem_of_getElem? (i := 23) rfl))) (Or.inr (hw _ (List.mem_of_getElem? (i := 19) rfl))) (by decide) (t := .int) (t' := .long) (by decide) (by decide)))
  have F4_3 := F4_2.other W3 (Or.inr (slot_ne (Or.inr (hw _ (List.mem_of_getElem? (i := 25) rfl))) (Or.inr (hw _ (List.mem_of_getElem? (i := 19) rfl))) (by decide) (t := .int) (t' := .long) (by decide) (by decide)))
  have F5_3 := F5_2.other W3 (Or.inr (slot_ne (Or.inr (hw _ (List.mem_of_getElem? (i := 27) rfl))) (Or.inr (hw _ (List.mem_of_getElem? (i := 19) rfl))) (by decide) (t := .int) (t' := .long) (by decide) (by decide)))
  have N_3 := Fr.snoc X3 N_2 ga
  have K_3 := Keep.wr K_2 W3 (Or.inl (List.mem_of_getElem? (i := 0) rfl))
  refine own_go (T' := T3) (g' := (mkF m 14 #[.val (.ref a), .val (.ref xk), .val (.long xn), .second, .val (.long xy), .second, .val (.int xr), .val (.int xs), .val (.int xl)] [])) (fun t_ K => st3 _ K) ?_
  refine own_go (T' := T3) (g' := (mkF m 15 #[.val (.ref a), .val (.ref xk), .val (.long xn), .second, .val (.long xy), .second, .val (.int xr), .val (.int xs), .val (.int xl)] [(.ref a)])) (fun t_ K => XS.aloadN X3.here hx rfl (hb hby d_ini_14) rfl rfl K) ?_
  refine own_go (T' := T3) (g' := (mkF m 17 #[.val (.ref a), .val (.ref xk), .val (.long xn), .second, .val (.long xy), .second, .val (.int xr), .val (.int xs), .val (.int xl)] [(.long xy), (.ref a)])) (fun t_ K => XS.lload X3.here hx rfl (hb hby d_ini_15) rfl K) ?_
  obtain ⟨T4, h4, X4, e4, W4, st4⟩ := putF X3 hx hZ hown (host := "") (Or.inl (hw _ (List.mem_of_getElem? (i := 20) rfl))) Via.refl e3 F2_3 Ea_3 (Or.inr ⟨(hw _ (List.mem_of_getElem? (i := 21) rfl)), rfl, hnm⟩) (hw _ (List.mem_of_getElem? (i := 1) rfl)) (ty := .long) (by decide) rfl rfl (g := (mkF m 17 #[.val (.ref a), .val (.ref xk), .val (.long xn), .second, .val (.long xy), .second, .val (.int xr), .val (.int xs), .val (.int xl)] [(.long xy), (.ref a)])) rfl rfl (hb hby d_ini_17)
  have Ea_4 := Ea_3.wr W4
  have F0_4 := F0_3.other W4 (Or.inr (slot_ne (Or.inr (hw _ (List.mem_of_getElem? (i := 17) rfl))) (Or.inr (hw _ (List.mem_of_getElem? (i := 21) rfl))) (by decide) (t := (.object "com/example/hosts_to_leader/hoststoleader/model/ElectionMessage$Kind")) (t' := .long) (by decide) (by decide)))
  have F1_4 := F1_3.other W4 (Or.inr (slot_ne (Or.inr (hw _ (List.mem_of_getElem? (i := 19) rfl))) (Or.inr (hw _ (List.mem_of_getElem? (i := 21) rfl))) (by decide) (t := .long) (t' := .long) (by decide) (by decide)))
  have F2_4 := F2_3.same W4
  have F3_4 := F3_3.other W4 (Or.inr (slot_ne (Or.inr (hw _ (List.mem_of_getElem? (i := 23) rfl))) (Or.inr (hw _ (List.mem_of_getElem? (i := 21) rfl))) (by decide) (t := .int) (t' := .long) (by decide) (by decide)))
  have F4_4 := F4_3.other W4 (Or.inr (slot_ne (Or.inr (hw _ (List.mem_of_getElem? (i := 25) rfl))) (Or.inr (hw _ (List.mem_of_getElem? (i := 21) rfl))) (by decide) (t := .int) (t' := .long) (by decide) (by decide)))
  have F5_4 := F5_3.other W4 (Or.inr (slot_ne (Or.inr (hw _ (List.mem_of_getElem? (i := 27) rfl))) (Or.inr (hw _ (List.mem_of_getElem? (i := 21) rfl))) (by decide) (t := .int) (t' := .long) (by decide) (by decide)))
  have N_4 := Fr.snoc X4 N_3 ga
  have K_4 := Keep.wr K_3 W4 (Or.inl (List.mem_of_getElem? (i := 0) rfl))
  refine own_go (T' := T4) (g' := (mkF m 20 #[.val (.ref a), .val (.ref xk), .val (.long xn), .second, .val (.long xy), .second, .val (.int xr), .val (.int xs), .val (.int xl)] [])) (fun t_ K => st4 _ K) ?_
  refine own_go (T' := T4) (g' := (mkF m 21 #[.val (.ref a), .val (.ref xk), .val (.long xn), .second, .val (.long xy), .second, .val (.int xr), .val (.int xs), .val (.int xl)] [(.ref a)])) (fun t_ K => XS.aloadN X4.here hx rfl (hb hby d_ini_20) rfl rfl K) ?_
  refine own_go (T' := T4) (g' := (mkF m 23 #[.val (.ref a), .val (.ref xk), .val (.long xn), .second, .val (.long xy), .second, .val (.int xr), .val (.int xs), .val (.int xl)] [(.int xr), (.ref a)])) (fun t_ K => XS.iload X4.here hx rfl (hb hby d_ini_21) rfl K) ?_
  obtain ⟨T5, h5, X5, e5, W5, st5⟩ := putF X4 hx hZ hown (host := "") (Or.inl (hw _ (List.mem_of_getElem? (i := 22) rfl))) Via.refl e4 F3_4 Ea_4 (Or.inr ⟨(hw _ (List.mem_of_getElem? (i := 23) rfl)), rfl, hnm⟩) (hw _ (List.mem_of_getElem? (i := 1) rfl)) (ty := .int) (by decide) rfl rfl (g := (mkF m 23 #[.val (.ref a), .val (.ref xk), .val (.long xn), .second, .val (.long xy), .second, .val (.int xr), .val (.int xs), .val (.int xl)] [(.int xr), (.ref a)])) rfl rfl (hb hby d_ini_23)
  have Ea_5 := Ea_4.wr W5
  have F0_5 := F0_4.other W5 (Or.inr (slot_ne (Or.inr (hw _ (List.mem_of_getElem? (i := 17) rfl))) (Or.inr (hw _ (List.mem_of_getElem? (i := 23) rfl))) (by decide) (t := (.object "com/example/hosts_to_leader/hoststoleader/model/ElectionMessage$Kind")) (t' := .int) (by decide) (by decide)))
  have F1_5 := F1_4.other W5 (Or.inr (slot_ne (Or.inr (hw _ (List.mem_of_getElem? (i := 19) rfl))) (Or.inr (hw _ (List.mem_of_getElem? (i := 23) rfl))) (by decide) (t := .long) (t' := .int) (by decide) (by decide)))
  have F2_5 := F2_4.other W5 (Or.inr (slot_ne (Or.inr (hw _ (List.mem_of_getElem? (i := 21) rfl))) (Or.inr (hw _ (List.mem_of_getElem? (i := 23) rfl))) (by decide) (t := .long) (t' := .int) (by decide) (by decide)))
  have F3_5 := F3_4.same W5
  have F4_5 := F4_4.other W5 (Or.inr (slot_ne (Or.inr (hw _ (List.mem_of_getElem? (i := 25) rfl))) (Or.inr (hw _ (List.mem_of_getElem? (i := 23) rfl))) (by decide) (t := .int) (t' := .int) (by decide) (by decide)))
  have F5_5 := F5_4.other W5 (Or.inr (slot_ne (Or.inr (hw _ (List.mem_of_getElem? (i := 27) rfl))) (Or.inr (hw _ (List.mem_of_getElem? (i := 23) rfl))) (by decide) (t := .int) (t' := .int) (by decide) (by decide)))
  have N_5 := Fr.snoc X5 N_4 ga
  have K_5 := Keep.wr K_4 W5 (Or.inl (List.mem_of_getElem? (i := 0) rfl))
  refine own_go (T' := T5) (g' := (mkF m 26 #[.val (.ref a), .val (.ref xk), .val (.long xn), .second, .val (.long xy), .second, .val (.int xr), .val (.int xs), .val (.int xl)] [])) (fun t_ K => st5 _ K) ?_
  refine own_go (T' := T5) (g' := (mkF m 27 #[.val (.ref a), .val (.ref xk), .val (.long xn), .second, .val (.long xy), .second, .val (.int xr), .val (.int xs), .val (.int xl)] [(.ref a)])) (fun t_ K => XS.aloadN X5.here hx rfl (hb hby d_ini_26) rfl rfl K) ?_
  refine own_go (T' := T5) (g' := (mkF m 29 #[.val (.ref a), .val (.ref xk), .val (.long xn), .second, .val (.long xy), .second, .val (.int xr), .val (.int xs), .val (.int xl)] [(.int xs), (.ref a)])) (fun t_ K => XS.iload X5.here hx rfl (hb hby d_ini_27) rfl K) ?_
  obtain ⟨T6, h6, X6, e6, W6, st6⟩ := putF X5 hx hZ hown (host := "") (Or.inl (hw _ (List.mem_of_getElem? (i := 24) rfl))) Via.refl e5 F4_5 Ea_5 (Or.inr ⟨(hw _ (List.mem_of_getElem? (i := 25) rfl)), rfl, hnm⟩) (hw _ (List.mem_of_getElem? (i := 1) rfl)) (ty := .int) (by decide) rfl rfl (g := (mkF m 29 #[.val (.ref a), .val (.ref xk), .val (.long xn), .second, .val (.long xy), .second, .val (.int xr), .val (.int xs), .val (.int xl)] [(.int xs), (.ref a)])) rfl rfl (hb hby d_ini_29)
  have Ea_6 := Ea_5.wr W6
  have F0_6 := F0_5.other W6 (Or.inr (slot_ne (Or.inr (hw _ (List.mem_of_getElem? (i := 17) rfl))) (Or.inr (hw _ (List.mem_of_getElem? (i := 25) rfl))) (by decide) (t := (.object "com/example/hosts_to_leader/hoststoleader/model/ElectionMessage$Kind")) (t' := .int) (by decide) (by decide)))
  have F1_6 := F1_5.other W6 (Or.inr (slot_ne (Or.inr (hw _ (List.mem_of_getElem? (i := 19) rfl))) (Or.inr (hw _ (List.mem_of_getElem? (i := 25) rfl))) (by decide) (t := .long) (t' := .int) (by decide) (by decide)))
  have F2_6 := F2_5.other W6 (Or.inr (slot_ne (Or.inr (hw _ (List.mem_of_getElem? (i := 21) rfl))) (Or.inr (hw _ (List.mem_of_getElem? (i := 25) rfl))) (by decide) (t := .long) (t' := .int) (by decide) (by decide)))
  have F3_6 := F3_5.other W6 (Or.inr (slot_ne (Or.inr (hw _ (List.mem_of_getElem? (i := 23) rfl))) (Or.inr (hw _ (List.mem_of_getElem? (i := 25) rfl))) (by decide) (t := .int) (t' := .int) (by decide) (by decide)))
  have F4_6 := F4_5.same W6
  have F5_6 := F5_5.other W6 (Or.inr (slot_ne (Or.inr (hw _ (List.mem_of_getElem? (i := 27) rfl))) (Or.inr (hw _ (List.mem_of_getElem? (i := 25) rfl))) (by decide) (t := .int) (t' := .int) (by decide) (by decide)))
  have N_6 := Fr.snoc X6 N_5 ga
  have K_6 := Keep.wr K_5 W6 (Or.inl (List.mem_of_getElem? (i := 0) rfl))
  refine own_go (T' := T6) (g' := (mkF m 32 #[.val (.ref a), .val (.ref xk), .val (.long xn), .second, .val (.long xy), .second, .val (.int xr), .val (.int xs), .val (.int xl)] [])) (fun t_ K => st6 _ K) ?_
  refine own_go (T' := T6) (g' := (mkF m 33 #[.val (.ref a), .val (.ref xk), .val (.long xn), .second, .val (.long xy), .second, .val (.int xr), .val (.int xs), .val (.int xl)] [(.ref a)])) (fun t_ K => XS.aloadN X6.here hx rfl (hb hby d_ini_32) rfl rfl K) ?_
  refine own_go (T' := T6) (g' := (mkF m 35 #[.val (.ref a), .val (.ref xk), .val (.long xn), .second, .val (.long xy), .second, .val (.int xr), .val (.int xs), .val (.int xl)] [(.int xl), (.ref a)])) (fun t_ K => XS.iload X6.here hx rfl (hb hby d_ini_33) rfl K) ?_
  obtain ⟨T7, h7, X7, e7, W7, st7⟩ := putF X6 hx hZ hown (host := "") (Or.inl (hw _ (List.mem_of_getElem? (i := 26) rfl))) Via.refl e6 F5_6 Ea_6 (Or.inr ⟨(hw _ (List.mem_of_getElem? (i := 27) rfl)), rfl, hnm⟩) (hw _ (List.mem_of_getElem? (i := 1) rfl)) (ty := .int) (by decide) rfl rfl (g := (mkF m 35 #[.val (.ref a), .val (.ref xk), .val (.long xn), .second, .val (.long xy), .second, .val (.int xr), .val (.int xs), .val (.int xl)] [(.int xl), (.ref a)])) rfl rfl (hb hby d_ini_35)
  have Ea_7 := Ea_6.wr W7
  have F0_7 := F0_6.other W7 (Or.inr (slot_ne (Or.inr (hw _ (List.mem_of_getElem? (i := 17) rfl))) (Or.inr (hw _ (List.mem_of_getElem? (i := 27) rfl))) (by decide) (t := (.object "com/example/hosts_to_leader/hoststoleader/model/ElectionMessage$Kind")) (t' := .int) (by decide) (by decide)))
  have F1_7 := F1_6.other W7 (Or.inr (slot_ne (Or.inr (hw _ (List.mem_of_getElem? (i := 19) rfl))) (Or.inr (hw _ (List.mem_of_getElem? (i := 27) rfl))) (by decide) (t := .long) (t' := .int) (by decide) (by decide)))
  have F2_7 := F2_6.other W7 (Or.inr (slot_ne (Or.inr (hw _ (List.mem_of_getElem? (i := 21) rfl))) (Or.inr (hw _ (List.mem_of_getElem? (i := 27) rfl))) (by decide) (t := .long) (t' := .int) (by decide) (by decide)))
  have F3_7 := F3_6.other W7 (Or.inr (slot_ne (Or.inr (hw _ (List.mem_of_getElem? (i := 23) rfl))) (Or.inr (hw _ (List.mem_of_getElem? (i := 27) rfl))) (by decide) (t := .int) (t' := .int) (by decide) (by decide)))
  have F4_7 := F4_6.other W7 (Or.inr (slot_ne (Or.inr (hw _ (List.mem_of_getElem? (i := 25) rfl))) (Or.inr (hw _ (List.mem_of_getElem? (i := 27) rfl))) (by decide) (t := .int) (t' := .int) (by decide) (by decide)))
  have F5_7 := F5_6.same W7
  have N_7 := Fr.snoc X7 N_6 ga
  have K_7 := Keep.wr K_6 W7 (Or.inl (List.mem_of_getElem? (i := 0) rfl))
  refine own_go (T' := T7) (g' := (mkF m 38 #[.val (.ref a), .val (.ref xk), .val (.long xn), .second, .val (.long xy), .second, .val (.int xr), .val (.int xs), .val (.int xl)] [])) (fun t_ K => st7 _ K) ?_
  exact own_retV X7 hx Bd.returns hlk (hb hby d_ini_38) ⟨rfl, N_7, (by rw [e7]; exact K_7), (by rw [e7]; exact ⟨Ea_7, F0_7, F1_7, F2_7, F3_7, F4_7, F5_7⟩)⟩ (by decide) (by decide)
set_option maxRecDepth 65536 in
set_option maxHeartbeats 40000000 in
theorem rm_num (l : Launch) (Z : State) (a0 : Array Value) (hw : ∀ d ∈ tables_1, d.before a0 Z = true) (a : Addr) (h0 : Heap)  :
    Pays l Z (⟨"java/lang/Number", "<init>", "()V"⟩ : MethodName) jdk_18_method_1_code 1 none ({ frames := 1, cells := 0, slots := 0, locals := 12 } : Room) #[(.ref a)] h0 (own_pure none h0) := by
  refine MetFree.of_bodySF (plainFor_of_name pn_2) hisR ?_
  intro p e s m args below meth c s₁ Bd hml0 hP hK
  obtain ⟨rfl, hZ, hh⟩ := hP
  have hx := Bd.exec
  have hby := Bd.bytes
  have hml : c.maxLocals = 1 := hml0
  have hown : s.vm.findClass "java/lang/Number" = some m.cls := findClass_of_methodNamed Bd.named
  have hnm := (name_of_methodNamed Bd.named Bd.method).1
  have hlk : meth.locks = false := BodyLoose.notSynchronized Bd
  have X0 : Stand p l e ({ frames := 1, cells := 0, slots := 0, locals := 12 } : Room) s m #[(.ref a)] below meth c s₁ [] 0 0 := Stand.of_body Bd
  have e0 : s₁.heap = h0 := by rw [← hh, Bd.state]; rfl
  show Goes p e below s (own_pure none h0) ({ frames := 1, cells := 0, slots := 0, locals := 12 } : Room).cells ({ frames := 1, cells := 0, slots := 0, locals := 12 } : Room).slots s₁ (entryFrame m #[(.ref a)] 1)
  rw [ef_num m a]
  refine own_go (T' := s₁) (g' := (mkF m 1 #[.val (.ref a)] [(.ref a)])) (fun t_ K => XS.aloadN X0.here hx rfl (hb hby d_num_0) rfl rfl K) ?_
  obtain ⟨T1, X1, e1, st1⟩ := initO X0 hx hZ hown (hw _ (List.mem_of_getElem? (i := 63) rfl)) (hw _ (List.mem_of_getElem? (i := 14) rfl)) (hw _ (List.mem_of_getElem? (i := 15) rfl)) e0 (g := (mkF m 1 #[.val (.ref a)] [(.ref a)])) rfl (by rw [hml]; rfl) rfl (hb hby d_num_1) (by decide) (W := 0) (by show 2 * 0 + _ ≤ _; exact Nat.le_of_eq rfl) (by decide)
  refine own_go (T' := T1) (g' := (mkF m 4 #[.val (.ref a)] [])) (fun t_ K => st1 _ K) ?_
  exact own_retV X1 hx Bd.returns hlk (hb hby d_num_4) ⟨rfl, rfl, e1⟩ (by decide) (by decide)
def own_jq (a : Addr) (h0 : Heap) (n0 : Nat) : Option Value → Heap → List Loc → Prop := fun v h L => v = none ∧ Fr n0 L ∧ Keep h0 h [a]
set_option maxRecDepth 65536 in
set_option maxHeartbeats 40000000 in
theorem rm_iin (l : Launch) (Z : State) (a0 : Array Value) (hw : ∀ d ∈ tables_1, d.before a0 Z = true) (a : Addr) (z : Int32) (n0 : Nat) (h0 : Heap) (ga : n0 ≤ a) (Ea : Exa Z h0 a "java/lang/Integer") (F0 : Fld Z h0 a "java/lang/Integer" "value" "I" (.int (0 : Int32))) :
    Pays l Z (⟨"java/lang/Integer", "<init>", "(I)V"⟩ : MethodName) jdk_33_method_23_code 2 none ({ frames := 2, cells := 0, slots := 0, locals := 24 } : Room) #[(.ref a), (.int z)] h0 (own_jq a h0 n0) := by
  refine MetFree.of_bodySF (plainFor_of_name pn_3) hisR ?_
  intro p e s m args below meth c s₁ Bd hml0 hP hK
  obtain ⟨rfl, hZ, hh⟩ := hP
  have hx := Bd.exec
  have hby := Bd.bytes
  have hml : c.maxLocals = 2 := hml0
  have hown : s.vm.findClass "java/lang/Integer" = some m.cls := findClass_of_methodNamed Bd.named
  have hnm := (name_of_methodNamed Bd.named Bd.method).1
  have hlk : meth.locks = false := BodyLoose.notSynchronized Bd
  have X0 : Stand p l e ({ frames := 2, cells := 0, slots := 0, locals := 24 } : Room) s m #[(.ref a), (.int z)] below meth c s₁ [] 0 0 := Stand.of_body Bd
  have e0 : s₁.heap = h0 := by rw [← hh, Bd.state]; rfl
  have N0 := Fr.nil n0
  have K0 := Keep.refl h0 [a]
  show Goes p e below s (own_jq a h0 n0) ({ frames := 2, cells := 0, slots := 0, locals := 24 } : Room).cells ({ frames := 2, cells := 0, slots := 0, locals := 24 } : Room).slots s₁ (entryFrame m #[(.ref a), (.int z)] 2)
  rw [ef_iin m a z]
  refine own_go (T' := s₁) (g' := (mkF m 1 #[.val (.ref a), .val (.int z)] [(.ref a)])) (fun t_ K => XS.aloadN X0.here hx rfl (hb hby d_iin_0) rfl rfl K) ?_
  obtain ⟨T1, X1, e1, st1⟩ := own_callI (W := 0) (rm := { frames := 1, cells := 0, slots := 0, locals := 12 }) X0 hx hZ hown rfl (hw _ (List.mem_of_getElem? (i := 57) rfl)) (hw _ (List.mem_of_getElem? (i := 58) rfl)) (hw _ (List.mem_of_getElem? (i := 61) rfl)) (hw _ (List.mem_of_getElem? (i := 62) rfl)) (by decide) e0 (a := a) (argsL := []) (rest := []) (rm_num l Z a0 hw a h0) rfl rfl (by decide) (by decide) (by decide) (by decide) (g := (mkF m 1 #[.val (.ref a), .val (.int z)] [(.ref a)])) rfl (by rw [hml]; rfl) (lenOf pd_0 rfl) rfl (by show 2 * 0 + _ ≤ _; exact Nat.le_of_eq rfl) (hb hby d_iin_1)
  refine own_go (T' := T1) (g' := (mkF m 4 #[.val (.ref a), .val (.int z)] [])) (fun t_ K => st1 _ K) ?_
  refine own_go (T' := T1) (g' := (mkF m 5 #[.val (.ref a), .val (.int z)] [(.ref a)])) (fun t_ K => XS.aloadN X1.here hx rfl (hb hby d_iin_4) rfl rfl K) ?_
  refine own_go (T' := T1) (g' := (mkF m 6 #[.val (.ref a), .val (.int z)] [(.int z), (.ref a)])) (fun t_ K => XS.iloadN X1.here hx rfl (hb hby d_iin_5) rfl K) ?_
  obtain ⟨T2, h2, X2, e2, W2, st2⟩ := putF X1 hx hZ hown (host := "") (Or.inl (hw _ (List.mem_of_getElem? (i := 64) rfl))) Via.refl e1 F0 Ea (Or.inr ⟨(hw _ (List.mem_of_getElem? (i := 65) rfl)), rfl, hnm⟩) (hw _ (List.mem_of_getElem? (i := 52) rfl)) (ty := .int) (by decide) rfl rfl (g := (mkF m 6 #[.val (.ref a), .val (.int z)] [(.int z), (.ref a)])) rfl rfl (hb hby d_iin_6)
  have Ea_2 := Ea.wr W2
  have F0_2 := F0.same W2
  have N_2 := Fr.snoc X2 N0 ga
  have K_2 := Keep.wr K0 W2 (Or.inl (List.mem_of_getElem? (i := 0) rfl))
  refine own_go (T' := T2) (g' := (mkF m 9 #[.val (.ref a), .val (.int z)] [])) (fun t_ K => st2 _ K) ?_
  exact own_retV X2 hx Bd.returns hlk (hb hby d_iin_9) ⟨rfl, N_2, (by rw [e2]; exact K_2)⟩ (by decide) (by decide)
/-- the cache: 256 Integers -/
def own_cache (Z : State) (h : Heap) (ca : Addr) : Prop := ∃ cl, Arr Z h ca cl (.object "java/lang/Integer") ∧ cl.slots.size = 256 ∧ ∀ i, i < 256 → ∃ r, cl.slots[i]? = some (.ref r) ∧ Exa Z h r "java/lang/Integer"
theorem own_cache_ext {Z : State} {h h' : Heap} {ca : Addr} (F : own_cache Z h ca) (E : Ext h h') : own_cache Z h' ca := by
  obtain ⟨cl, A, S, H⟩ := F
  exact ⟨cl, A.ext E, S, fun i hi => by obtain ⟨r, e1, e2⟩ := H i hi; exact ⟨r, e1, e2.ext E⟩⟩
theorem own_cache_keep {Z : State} {h h' : Heap} {ca : Addr} {ws : List Addr} (F : own_cache Z h ca) (K : Keep h h' ws) (q : ca ∉ ws) : own_cache Z h' ca := by
  obtain ⟨cl, A, S, H⟩ := F
  exact ⟨cl, ⟨K.2.1 _ _ A.1 q, A.2⟩, S, fun i hi => by obtain ⟨r, e1, e2⟩ := H i hi; exact ⟨r, e1, e2.keep K⟩⟩
theorem own_idx (z : Int32) (h1 : ¬ z < (-128 : Int32)) (h2 : ¬ (127 : Int32) < z) : ∃ i, i < 256 ∧ (z + (128 : Int32)).toNatClampNeg = i ∧ ¬ z + (128 : Int32) < 0 := by
  rw [Int32.lt_iff_toInt_lt] at h1 h2
  have c1 : (-128 : Int32).toInt = -128 := by decide
  have c2 : (127 : Int32).toInt = 127 := by decide
  have c3 : (128 : Int32).toInt = 128 := by decide
  have c0 : (0 : Int32).toInt = 0 := by decide
  have e : (z + (128 : Int32)).toInt = z.toInt + 128 := by rw [Jvm.Kit.i32_add (by rw [c3]; omega) (by rw [c3]; omega), c3]
  refine ⟨_, ?_, rfl, ?_⟩
  · show (z + (128 : Int32)).toInt.toNat < 256
    rw [e]; omega
  · rw [Int32.lt_iff_toInt_lt, e, c0]; omega
def own_xq (Z : State) (h0 : Heap) (n0 : Nat) : Option Value → Heap → List Loc → Prop := fun v h L => (∃ r, v = some (.ref r) ∧ Exa Z h r "java/lang/Integer") ∧ Fr n0 L ∧ Keep h0 h []
set_option maxRecDepth 65536 in
set_option maxHeartbeats 40000000 in
theorem rm_vof (l : Launch) (Z : State) (a0 : Array Value) (hw : ∀ d ∈ tables_1, d.before a0 Z = true) (z : Int32) (ca : Addr) (n0 : Nat) (h0 : Heap) (Z0 : n0 ≤ h0.size) (SH : Sta Z h0 "java/lang/Integer$IntegerCache" "high" "I" (.int (127 : Int32))) (SC : Sta Z h0 "java/lang/Integer$IntegerCache" "cache" "[Ljava/lang/Integer;" (.ref ca)) (CA : own_cache Z h0 ca) :
    Pays l Z (⟨"java/lang/Integer", "valueOf", "(I)Ljava/lang/Integer;"⟩ : MethodName) jdk_33_method_22_code 1 (some (.object "java/lang/Integer")) ({ frames := 3, cells := 1, slots := 1, locals := 38 } : Room) #[(.int z)] h0 (own_xq Z h0 n0) := by
  refine MetFree.of_bodySF (plainFor_of_name pn_3) hisR ?_
  intro p e s m args below meth c s₁ Bd hml0 hP hK
  obtain ⟨rfl, hZ, hh⟩ := hP
  have hx := Bd.exec
  have hby := Bd.bytes
  have hml : c.maxLocals = 1 := hml0
  have hown : s.vm.findClass "java/lang/Integer" = some m.cls := findClass_of_methodNamed Bd.named
  have hnm := (name_of_methodNamed Bd.named Bd.method).1
  have hlk : meth.locks = false := BodyLoose.notSynchronized Bd
  have X0 : Stand p l e ({ frames := 3, cells := 1, slots := 1, locals := 38 } : Room) s m #[(.int z)] below meth c s₁ [] 0 0 := Stand.of_body Bd
  have e0 : s₁.heap = h0 := by rw [← hh, Bd.state]; rfl
  have N0 := Fr.nil n0
  show Goes p e below s (own_xq Z h0 n0) ({ frames := 3, cells := 1, slots := 1, locals := 38 } : Room).cells ({ frames := 3, cells := 1, slots := 1, locals := 38 } : Room).slots s₁ (entryFrame m #[(.int z)] 1)
  rw [ef_vof m z]
  refine own_go (T' := s₁) (g' := (mkF m 1 #[.val (.int z)] [(.int z)])) (fun t_ K => XS.iloadN X0.here hx rfl (hb hby d_vof_0) rfl K) ?_
  refine own_go (T' := s₁) (g' := (mkF m 3 #[.val (.int z)] [(.int (-128 : Int32)), (.int z)])) (fun t_ K => XS.bipush X0.here hx rfl (hb hby d_vof_1) K) ?_
  by_cases c3 : z < (-128 : Int32)
  · refine own_go (T' := s₁) (g' := (mkF m 23 #[.val (.int z)] [])) (fun t_ K => XS.icmpYes X0.here hx rfl (pc0 := 3) (pc' := 23) rfl (hb hby d_vof_3) rfl (tlt c3).1 (by decide) (by decide) K) ?_
    obtain ⟨T1, h1, X1, e1, E1, A1, D1, -, st1⟩ := newO X0 hx hZ hown (hw _ (List.mem_of_getElem? (i := 51) rfl)) (hw _ (List.mem_of_getElem? (i := 52) rfl)) (hw _ (List.mem_of_getElem? (i := 32) rfl)) e0 (g := (mkF m 23 #[.val (.int z)] [])) rfl (hb hby d_vof_23) (by decide) (by decide)
    obtain ⟨ad1, g1⟩ : ∃ z, z = h0.size := ⟨_, rfl⟩
    rw [← g1] at A1 D1 st1
    have gn_ad1 : n0 ≤ ad1 := Nat.le_trans Z0 (Nat.le_of_eq g1.symm)
    have Z0_1 : n0 ≤ h1.size := Nat.le_trans Z0 E1.1
    have F_value_ad1 : Fld Z h1 ad1 "java/lang/Integer" "value" "I" (.int (0 : Int32)) := D1 (Or.inr (hw _ (List.mem_of_getElem? (i := 65) rfl))) (ty := .int) (by decide)
    refine own_go (T' := T1) (g' := (mkF m 26 #[.val (.int z)] [(.ref ad1)])) (fun t_ K => st1 _ K) ?_
    refine own_go (T' := T1) (g' := (mkF m 27 #[.val (.int z)] [(.ref ad1), (.ref ad1)])) (fun t_ K => XS.dup X1.here hx rfl (hb hby d_vof_26) rfl rfl K) ?_
    refine own_go (T' := T1) (g' := (mkF m 28 #[.val (.int z)] [(.int z), (.ref ad1), (.ref ad1)])) (fun t_ K => XS.iloadN X1.here hx rfl (hb hby d_vof_27) rfl K) ?_
    obtain ⟨_, _, ⟨T2, L2, k2, n2⟩, -, X2, ⟨Lc2, hQ2, l2, y2, z2⟩, st2⟩ := X1.specialBack hx (y := (⟨"java/lang/Integer", "<init>", "(I)V"⟩ : MethodName)) rfl hown (mvT hZ (hw _ (List.mem_of_getElem? (i := 53) rfl))) (mvT hZ (hw _ (List.mem_of_getElem? (i := 54) rfl))) (mvT hZ (hw _ (List.mem_of_getElem? (i := 56) rfl))) (by decide) (backOf (W := 1) (rm_iin l Z a0 hw ad1 z n0 h1 gn_ad1 A1 F_value_ad1) hZ (hw _ (List.mem_of_getElem? (i := 56) rfl)) (hw _ (List.mem_of_getElem? (i := 32) rfl)) (by decide) (by decide)) (g := (mkF m 28 #[.val (.int z)] [(.int z), (.ref ad1), (.ref ad1)])) rfl (by rw [hml]; rfl) (Steps.refl _) (a := ad1) (argsL := [(.int z)]) (rest := [(.ref ad1)]) (lenOf pd_1 rfl) rfl (by show 2 * 0 + _ ≤ _; exact Nat.le_of_eq rfl) (hb hby d_vof_28) (fun _ _ => ⟨rfl, e1, (by decide : 1 + 0 ≤ _), (by decide : 1 + 0 ≤ _)⟩)
    dsimp only [Pt.U, Pt.locs, Pt.cells, Pt.slots] at X2 l2 y2 z2 st2 hQ2
    subst l2 y2 z2
    obtain ⟨rfl, N2q, K2⟩ := hQ2
    have e2 : T2.heap = T2.heap := rfl
    have A1_2 := A1.keep K2
    have N_2 := Fr.app N0 N2q
    refine own_tr (T' := T2) (g' := (mkF m 31 #[.val (.int z)] [(.ref ad1)])) st2 ?_
    exact own_retA X2 hx Bd.returns rfl hlk rfl (hb hby d_vof_31) ⟨⟨_, rfl, A1_2⟩, N_2, (((Keep.refl h0 []).ext E1).trans K2 (allS (Or.inr (Nat.le_of_eq g1.symm)) all0))⟩ (by decide) (by decide)
  · refine own_go (T' := s₁) (g' := (mkF m 6 #[.val (.int z)] [])) (fun t_ K => XS.icmpNo X0.here hx rfl (hb hby d_vof_3) rfl (flt c3).1 K) ?_
    refine own_go (T' := s₁) (g' := (mkF m 7 #[.val (.int z)] [(.int z)])) (fun t_ K => XS.iloadN X0.here hx rfl (hb hby d_vof_6) rfl K) ?_
    obtain ⟨T3, X3, e3, st3⟩ := getS2 X0 hx hZ hown (host := "") (Or.inl (hw _ (List.mem_of_getElem? (i := 34) rfl))) Via.refl e0 SH (g := (mkF m 7 #[.val (.int z)] [(.int z)])) rfl (hb hby d_vof_7)
    refine own_go (T' := T3) (g' := (mkF m 10 #[.val (.int z)] [(.int (127 : Int32)), (.int z)])) (fun t_ K => st3 _ K) ?_
    by_cases c10 : (127 : Int32) < z
    · refine own_go (T' := T3) (g' := (mkF m 23 #[.val (.int z)] [])) (fun t_ K => XS.icmpYes X3.here hx rfl (pc0 := 10) (pc' := 23) rfl (hb hby d_vof_10) rfl (tlt c10).2.2.1 (by decide) (by decide) K) ?_
      obtain ⟨T4, h4, X4, e4, E4, A4, D4, -, st4⟩ := newO X3 hx hZ hown (hw _ (List.mem_of_getElem? (i := 51) rfl)) (hw _ (List.mem_of_getElem? (i := 52) rfl)) (hw _ (List.mem_of_getElem? (i := 32) rfl)) e3 (g := (mkF m 23 #[.val (.int z)] [])) rfl (hb hby d_vof_23) (by decide) (by decide)
      obtain ⟨ad4, g4⟩ : ∃ z, z = h0.size := ⟨_, rfl⟩
      rw [← g4] at A4 D4 st4
      have gn_ad4 : n0 ≤ ad4 := Nat.le_trans Z0 (Nat.le_of_eq g4.symm)
      have Z0_4 : n0 ≤ h4.size := Nat.le_trans Z0 E4.1
      have F_value_ad4 : Fld Z h4 ad4 "java/lang/Integer" "value" "I" (.int (0 : Int32)) := D4 (Or.inr (hw _ (List.mem_of_getElem? (i := 65) rfl))) (ty := .int) (by decide)
      refine own_go (T' := T4) (g' := (mkF m 26 #[.val (.int z)] [(.ref ad4)])) (fun t_ K => st4 _ K) ?_
      refine own_go (T' := T4) (g' := (mkF m 27 #[.val (.int z)] [(.ref ad4), (.ref ad4)])) (fun t_ K => XS.dup X4.here hx rfl (hb hby d_vof_26) rfl rfl K) ?_
      refine own_go (T' := T4) (g' := (mkF m 28 #[.val (.int z)] [(.int z), (.ref ad4), (.ref ad4)])) (fun t_ K => XS.iloadN X4.here hx rfl (hb hby d_vof_27) rfl K) ?_
      obtain ⟨_, _, ⟨T5, L5, k5, n5⟩, -, X5, ⟨Lc5, hQ5, l5, y5, z5⟩, st5⟩ := X4.specialBack hx (y := (⟨"java/lang/Integer", "<init>", "(I)V"⟩ : MethodName)) rfl hown (mvT hZ (hw _ (List.mem_of_getElem? (i := 53) rfl))) (mvT hZ (hw _ (List.mem_of_getElem? (i := 54) rfl))) (mvT hZ (hw _ (List.mem_of_getElem? (i := 56) rfl))) (by decide) (backOf (W := 1) (rm_iin l Z a0 hw ad4 z n0 h4 gn_ad4 A4 F_value_ad4) hZ (hw _ (List.mem_of_getElem? (i := 56) rfl)) (hw _ (List.mem_of_getElem? (i := 32) rfl)) (by decide) (by decide)) (g := (mkF m 28 #[.val (.int z)] [(.int z), (.ref ad4), (.ref ad4)])) rfl (by rw [hml]; rfl) (Steps.refl _) (a := ad4) (argsL := [(.int z)]) (rest := [(.ref ad4)]) (lenOf pd_1 rfl) rfl (by show 2 * 0 + _ ≤ _; exact Nat.le_of_eq rfl) (hb hby d_vof_28) (fun _ _ => ⟨rfl, e4, (by decide : 1 + 0 ≤ _), (by decide : 1 + 0 ≤ _)⟩)
      dsimp only [Pt.U, Pt.locs, Pt.cells, Pt.slots] at X5 l5 y5 z5 st5 hQ5
      subst l5 y5 z5
      obtain ⟨rfl, N5q, K5⟩ := hQ5
      have e5 : T5.heap = T5.heap := rfl
      have A4_5 := A4.keep K5
      have N_5 := Fr.app N0 N5q
      refine own_tr (T' := T5) (g' := (mkF m 31 #[.val (.int z)] [(.ref ad4)])) st5 ?_
      exact own_retA X5 hx Bd.returns rfl hlk rfl (hb hby d_vof_31) ⟨⟨_, rfl, A4_5⟩, N_5, (((Keep.refl h0 []).ext E4).trans K5 (allS (Or.inr (Nat.le_of_eq g4.symm)) all0))⟩ (by decide) (by decide)
    · refine own_go (T' := T3) (g' := (mkF m 13 #[.val (.int z)] [])) (fun t_ K => XS.icmpNo X3.here hx rfl (hb hby d_vof_10) rfl (flt c10).2.2.1 K) ?_
      obtain ⟨T6, X6, e6, st6⟩ := getS2 X3 hx hZ hown (host := "") (Or.inl (hw _ (List.mem_of_getElem? (i := 36) rfl))) Via.refl e3 SC (g := (mkF m 13 #[.val (.int z)] [])) rfl (hb hby d_vof_13)
      refine own_go (T' := T6) (g' := (mkF m 16 #[.val (.int z)] [(.ref ca)])) (fun t_ K => st6 _ K) ?_
      refine own_go (T' := T6) (g' := (mkF m 17 #[.val (.int z)] [(.int z), (.ref ca)])) (fun t_ K => XS.iloadN X6.here hx rfl (hb hby d_vof_16) rfl K) ?_
      refine own_go (T' := T6) (g' := (mkF m 20 #[.val (.int z)] [(.int (128 : Int32)), (.int z), (.ref ca)])) (fun t_ K => XS.sipush X6.here hx rfl (hb hby d_vof_17) K) ?_
      refine own_go (T' := T6) (g' := (mkF m 21 #[.val (.int z)] [(.int (z + (128 : Int32))), (.ref ca)])) (fun t_ K => XS.iadd X6.here hx rfl (hb hby d_vof_20) rfl K) ?_
      obtain ⟨cl, Ar, Sz, Hs⟩ := CA
      obtain ⟨ix, hix, eix, nix⟩ := own_idx z c3 c10
      obtain ⟨r, er, Er⟩ := Hs ix hix
      have hin : ¬ ((z + (128 : Int32)) < 0 ∨ cl.slots.size ≤ ((z + (128 : Int32))).toNatClampNeg) := by rw [Sz, eix]; exact fun q => q.elim nix (Nat.not_le.mpr hix)
      refine own_go (T' := T6) (g' := (mkF m 22 #[.val (.int z)] [(.ref r)])) (fun t_ K => X6.aaload hx (j := (z + (128 : Int32))) (v := (.ref r)) (by rw [e6]; exact Ar.1) (State.isArrayOf_alike hZ.alike Ar.2.1) rfl Ar.2.2 hin (by rw [eix]; exact er) (g := (mkF m 21 #[.val (.int z)] [(.int (z + (128 : Int32))), (.ref ca)])) rfl rfl (hb hby d_vof_21) _ K) ?_
      exact own_retA X6 hx Bd.returns rfl hlk rfl (hb hby d_vof_22) ⟨⟨_, rfl, (by rw [e6]; exact Er)⟩, N0, (by rw [e6]; exact Keep.refl h0 [])⟩ (by decide) (by decide)
def own_eq (k1 : Addr) (n1 y1 : Int64) (r1 s1 l1 : Int32) (k2 : Addr) (n2 y2 : Int64) (r2 s2 l2 : Int32) : Int32 := if k1 = k2 then if n1 = n2 then if y1 = y2 then if r1 = r2 then if s1 = s2 then if l1 = l2 then (1 : Int32) else (0 : Int32) else (0 : Int32) else (0 : Int32) else (0 : Int32) else (0 : Int32) else (0 : Int32)
set_option maxRecDepth 65536 in
set_option maxHeartbeats 40000000 in
theorem rm_eq (l : Launch) (Z : State) (a0 : Array Value) (hw : ∀ d ∈ tables_1, d.before a0 Z = true) (u v : Addr) (k1 : Addr) (n1 y1 : Int64) (r1 s1 l1 : Int32) (k2 : Addr) (n2 y2 : Int64) (r2 s2 l2 : Int32) (h0 : Heap) (F1 : own_msg Z h0 u k1 n1 y1 r1 s1 l1) (F2 : own_msg Z h0 v k2 n2 y2 r2 s2 l2) :
    Pays l Z (⟨"com/example/hosts_to_leader/hoststoleader/model/ElectionMessage", "equals", "(Ljava/lang/Object;)Z"⟩ : MethodName) prog_8_method_9_code 3 (some .boolean) ({ frames := 0, cells := 0, slots := 0, locals := 0 } : Room) #[(.ref u), (.ref v)] h0 (own_pure (some (.int (own_eq k1 n1 y1 r1 s1 l1 k2 n2 y2 r2 s2 l2))) h0) := by
  refine MetFree.of_bodySF (plainFor_of_name pn_1) hisR ?_
  intro p e s m args below meth c s₁ Bd hml0 hP hK
  obtain ⟨rfl, hZ, hh⟩ := hP
  have hx := Bd.exec
  have hby := Bd.bytes
  have hml : c.maxLocals = 3 := hml0
  have hown : s.vm.findClass "com/example/hosts_to_leader/hoststoleader/model/ElectionMessage" = some m.cls := findClass_of_methodNamed Bd.named
  have hnm := (name_of_methodNamed Bd.named Bd.method).1
  have hlk : meth.locks = false := BodyLoose.notSynchronized Bd
  have X0 : Stand p l e ({ frames := 0, cells := 0, slots := 0, locals := 0 } : Room) s m #[(.ref u), (.ref v)] below meth c s₁ [] 0 0 := Stand.of_body Bd
  have e0 : s₁.heap = h0 := by rw [← hh, Bd.state]; rfl
  show Goes p e below s (own_pure (some (.int (own_eq k1 n1 y1 r1 s1 l1 k2 n2 y2 r2 s2 l2))) h0) ({ frames := 0, cells := 0, slots := 0, locals := 0 } : Room).cells ({ frames := 0, cells := 0, slots := 0, locals := 0 } : Room).slots s₁ (entryFrame m #[(.ref u), (.ref v)] 3)
  rw [ef_eq m u v]
  refine own_go (T' := s₁) (g' := (mkF m 1 #[.val (.ref u), .val (.ref v), .unset] [(.ref v)])) (fun t_ K => XS.aloadN X0.here hx rfl (hb hby d_eq_0) rfl rfl K) ?_
  obtain ⟨T1, X1, e1, st1⟩ := instY X0 hx hZ hown (hw _ (List.mem_of_getElem? (i := 42) rfl)) e0 (Ins.self F2.1) (g := (mkF m 1 #[.val (.ref u), .val (.ref v), .unset] [(.ref v)])) rfl rfl (hb hby d_eq_1)
  refine own_go (T' := T1) (g' := (mkF m 4 #[.val (.ref u), .val (.ref v), .unset] [(.int (1 : Int32))])) (fun t_ K => st1 _ K) ?_
  refine own_go (T' := T1) (g' := (mkF m 9 #[.val (.ref u), .val (.ref v), .unset] [])) (fun t_ K => XS.ifYes X1.here hx rfl (pc0 := 4) (pc' := 9) rfl (hb hby d_eq_4) rfl ((if0 _ _).trans (feq (by decide : ¬ ((1 : Int32) = (0 : Int32)))).2) (by decide) (by decide) K) ?_
  refine own_go (T' := T1) (g' := (mkF m 10 #[.val (.ref u), .val (.ref v), .unset] [(.ref v)])) (fun t_ K => XS.aloadN X1.here hx rfl (hb hby d_eq_9) rfl rfl K) ?_
  obtain ⟨T2, X2, e2, st2⟩ := castY X1 hx hZ hown (hw _ (List.mem_of_getElem? (i := 42) rfl)) e1 (Ins.self F2.1) (g := (mkF m 10 #[.val (.ref u), .val (.ref v), .unset] [(.ref v)])) rfl rfl (hb hby d_eq_10)
  refine own_go (T' := T2) (g' := (mkF m 13 #[.val (.ref u), .val (.ref v), .unset] [(.ref v)])) (fun t_ K => st2 _ K) ?_
  refine own_go (T' := T2) (g' := (mkF m 14 #[.val (.ref u), .val (.ref v), .val (.ref v)] [])) (fun t_ K => XS.astoreN X2.here hx rfl (hb hby d_eq_13) rfl rfl (l' := #[.val (.ref u), .val (.ref v), .val (.ref v)]) rfl K) ?_
  refine own_go (T' := T2) (g' := (mkF m 15 #[.val (.ref u), .val (.ref v), .val (.ref v)] [(.ref u)])) (fun t_ K => XS.aloadN X2.here hx rfl (hb hby d_eq_14) rfl rfl K) ?_
  obtain ⟨T3, X3, e3, st3⟩ := getF X2 hx hZ hown (host := "") (Or.inl (hw _ (List.mem_of_getElem? (i := 16) rfl))) Via.refl e2 F1.2.1 (g := (mkF m 15 #[.val (.ref u), .val (.ref v), .val (.ref v)] [(.ref u)])) rfl rfl (hb hby d_eq_15)
  refine own_go (T' := T3) (g' := (mkF m 18 #[.val (.ref u), .val (.ref v), .val (.ref v)] [(.ref k1)])) (fun t_ K => st3 _ K) ?_
  refine own_go (T' := T3) (g' := (mkF m 19 #[.val (.ref u), .val (.ref v), .val (.ref v)] [(.ref v), (.ref k1)])) (fun t_ K => XS.aloadN X3.here hx rfl (hb hby d_eq_18) rfl rfl K) ?_
  obtain ⟨T4, X4, e4, st4⟩ := getF X3 hx hZ hown (host := "") (Or.inl (hw _ (List.mem_of_getElem? (i := 16) rfl))) Via.refl e3 F2.2.1 (g := (mkF m 19 #[.val (.ref u), .val (.ref v), .val (.ref v)] [(.ref v), (.ref k1)])) rfl rfl (hb hby d_eq_19)
  refine own_go (T' := T4) (g' := (mkF m 22 #[.val (.ref u), .val (.ref v), .val (.ref v)] [(.ref k2), (.ref k1)])) (fun t_ K => st4 _ K) ?_
  by_cases c22 : k1 = k2
  · refine own_go (T' := T4) (g' := (mkF m 25 #[.val (.ref u), .val (.ref v), .val (.ref v)] [])) (fun t_ K => Jvm.RoadKit.acmp (g := (mkF m 22 #[.val (.ref u), .val (.ref v), .val (.ref v)] [(.ref k2), (.ref k1)])) X4 hx rfl rfl rfl (pc0 := 22) (pc' := 25) (same := true) rfl (hb hby d_eq_22) rfl (decide_eq_true (congrArg Value.ref c22)) (by decide) (by decide) K) ?_
    refine own_go (T' := T4) (g' := (mkF m 26 #[.val (.ref u), .val (.ref v), .val (.ref v)] [(.ref u)])) (fun t_ K => XS.aloadN X4.here hx rfl (hb hby d_eq_25) rfl rfl K) ?_
    obtain ⟨T5, X5, e5, st5⟩ := getF X4 hx hZ hown (host := "") (Or.inl (hw _ (List.mem_of_getElem? (i := 18) rfl))) Via.refl e4 F1.2.2.1 (g := (mkF m 26 #[.val (.ref u), .val (.ref v), .val (.ref v)] [(.ref u)])) rfl rfl (hb hby d_eq_26)
    refine own_go (T' := T5) (g' := (mkF m 29 #[.val (.ref u), .val (.ref v), .val (.ref v)] [(.long n1)])) (fun t_ K => st5 _ K) ?_
    refine own_go (T' := T5) (g' := (mkF m 30 #[.val (.ref u), .val (.ref v), .val (.ref v)] [(.ref v), (.long n1)])) (fun t_ K => XS.aloadN X5.here hx rfl (hb hby d_eq_29) rfl rfl K) ?_
    obtain ⟨T6, X6, e6, st6⟩ := getF X5 hx hZ hown (host := "") (Or.inl (hw _ (List.mem_of_getElem? (i := 18) rfl))) Via.refl e5 F2.2.2.1 (g := (mkF m 30 #[.val (.ref u), .val (.ref v), .val (.ref v)] [(.ref v), (.long n1)])) rfl rfl (hb hby d_eq_30)
    refine own_go (T' := T6) (g' := (mkF m 33 #[.val (.ref u), .val (.ref v), .val (.ref v)] [(.long n2), (.long n1)])) (fun t_ K => st6 _ K) ?_
    refine own_go (T' := T6) (g' := (mkF m 34 #[.val (.ref u), .val (.ref v), .val (.ref v)] [(.int (lcmpW n1 n2))])) (fun t_ K => XS.lcmp X6.here hx rfl (hb hby d_eq_33) rfl K) ?_
    by_cases c34 : n1 = n2
    · refine own_go (T' := T6) (g' := (mkF m 37 #[.val (.ref u), .val (.ref v), .val (.ref v)] [])) (fun t_ K => XS.ifNo X6.here hx rfl (hb hby d_eq_34) rfl ((if0 _ _).trans (teq ((lw_eq n1 n2).mpr c34)).2) K) ?_
      refine own_go (T' := T6) (g' := (mkF m 38 #[.val (.ref u), .val (.ref v), .val (.ref v)] [(.ref u)])) (fun t_ K => XS.aloadN X6.here hx rfl (hb hby d_eq_37) rfl rfl K) ?_
      obtain ⟨T7, X7, e7, st7⟩ := getF X6 hx hZ hown (host := "") (Or.inl (hw _ (List.mem_of_getElem? (i := 20) rfl))) Via.refl e6 F1.2.2.2.1 (g := (mkF m 38 #[.val (.ref u), .val (.ref v), .val (.ref v)] [(.ref u)])) rfl rfl (hb hby d_eq_38)
      refine own_go (T' := T7) (g' := (mkF m 41 #[.val (.ref u), .val (.ref v), .val (.ref v)] [(.long y1)])) (fun t_ K => st7 _ K) ?_
      refine own_go (T' := T7) (g' := (mkF m 42 #[.val (.ref u), .val (.ref v), .val (.ref v)] [(.ref v), (.long y1)])) (fun t_ K => XS.aloadN X7.here hx rfl (hb hby d_eq_41) rfl rfl K) ?_
      obtain ⟨T8, X8, e8, st8⟩ := getF X7 hx hZ hown (host := "") (Or.inl (hw _ (List.mem_of_getElem? (i := 20) rfl))) Via.refl e7 F2.2.2.2.1 (g := (mkF m 42 #[.val (.ref u), .val (.ref v), .val (.ref v)] [(.ref v), (.long y1)])) rfl rfl (hb hby d_eq_42)
      refine own_go (T' := T8) (g' := (mkF m 45 #[.val (.ref u), .val (.ref v), .val (.ref v)] [(.long y2), (.long y1)])) (fun t_ K => st8 _ K) ?_
      refine own_go (T' := T8) (g' := (mkF m 46 #[.val (.ref u), .val (.ref v), .val (.ref v)] [(.int (lcmpW y1 y2))])) (fun t_ K => XS.lcmp X8.here hx rfl (hb hby d_eq_45) rfl K) ?_
      by_cases c46 : y1 = y2
      · refine own_go (T' := T8) (g' := (mkF m 49 #[.val (.ref u), .val (.ref v), .val (.ref v)] [])) (fun t_ K => XS.ifNo X8.here hx rfl (hb hby d_eq_46) rfl ((if0 _ _).trans (teq ((lw_eq y1 y2).mpr c46)).2) K) ?_
        refine own_go (T' := T8) (g' := (mkF m 50 #[.val (.ref u), .val (.ref v), .val (.ref v)] [(.ref u)])) (fun t_ K => XS.aloadN X8.here hx rfl (hb hby d_eq_49) rfl rfl K) ?_
        obtain ⟨T9, X9, e9, st9⟩ := getF X8 hx hZ hown (host := "") (Or.inl (hw _ (List.mem_of_getElem? (i := 22) rfl))) Via.refl e8 F1.2.2.2.2.1 (g := (mkF m 50 #[.val (.ref u), .val (.ref v), .val (.ref v)] [(.ref u)])) rfl rfl (hb hby d_eq_50)
        refine own_go (T' := T9) (g' := (mkF m 53 #[.val (.ref u), .val (.ref v), .val (.ref v)] [(.int r1)])) (fun t_ K => st9 _ K) ?_
        refine own_go (T' := T9) (g' := (mkF m 54 #[.val (.ref u), .val (.ref v), .val (.ref v)] [(.ref v), (.int r1)])) (fun t_ K => XS.aloadN X9.here hx rfl (hb hby d_eq_53) rfl rfl K) ?_
        obtain ⟨T10, X10, e10, st10⟩ := getF X9 hx hZ hown (host := "") (Or.inl (hw _ (List.mem_of_getElem? (i := 22) rfl))) Via.refl e9 F2.2.2.2.2.1 (g := (mkF m 54 #[.val (.ref u), .val (.ref v), .val (.ref v)] [(.ref v), (.int r1)])) rfl rfl (hb hby d_eq_54)
        refine own_go (T' := T10) (g' := (mkF m 57 #[.val (.ref u), .val (.ref v), .val (.ref v)] [(.int r2), (.int r1)])) (fun t_ K => st10 _ K) ?_
        by_cases c57 : r1 = r2
        · refine own_go (T' := T10) (g' := (mkF m 60 #[.val (.ref u), .val (.ref v), .val (.ref v)] [])) (fun t_ K => XS.icmpNo X10.here hx rfl (hb hby d_eq_57) rfl (teq c57).2 K) ?_
          refine own_go (T' := T10) (g' := (mkF m 61 #[.val (.ref u), .val (.ref v), .val (.ref v)] [(.ref u)])) (fun t_ K => XS.aloadN X10.here hx rfl (hb hby d_eq_60) rfl rfl K) ?_
          obtain ⟨T11, X11, e11, st11⟩ := getF X10 hx hZ hown (host := "") (Or.inl (hw _ (List.mem_of_getElem? (i := 24) rfl))) Via.refl e10 F1.2.2.2.2.2.1 (g := (mkF m 61 #[.val (.ref u), .val (.ref v), .val (.ref v)] [(.ref u)])) rfl rfl (hb hby d_eq_61)
          refine own_go (T' := T11) (g' := (mkF m 64 #[.val (.ref u), .val (.ref v), .val (.ref v)] [(.int s1)])) (fun t_ K => st11 _ K) ?_
          refine own_go (T' := T11) (g' := (mkF m 65 #[.val (.ref u), .val (.ref v), .val (.ref v)] [(.ref v), (.int s1)])) (fun t_ K => XS.aloadN X11.here hx rfl (hb hby d_eq_64) rfl rfl K) ?_
          obtain ⟨T12, X12, e12, st12⟩ := getF X11 hx hZ hown (host := "") (Or.inl (hw _ (List.mem_of_getElem? (i := 24) rfl))) Via.refl e11 F2.2.2.2.2.2.1 (g := (mkF m 65 #[.val (.ref u), .val (.ref v), .val (.ref v)] [(.ref v), (.int s1)])) rfl rfl (hb hby d_eq_65)
          refine own_go (T' := T12) (g' := (mkF m 68 #[.val (.ref u), .val (.ref v), .val (.ref v)] [(.int s2), (.int s1)])) (fun t_ K => st12 _ K) ?_
          by_cases c68 : s1 = s2
          · refine own_go (T' := T12) (g' := (mkF m 71 #[.val (.ref u), .val (.ref v), .val (.ref v)] [])) (fun t_ K => XS.icmpNo X12.here hx rfl (hb hby d_eq_68) rfl (teq c68).2 K) ?_
            refine own_go (T' := T12) (g' := (mkF m 72 #[.val (.ref u), .val (.ref v), .val (.ref v)] [(.ref u)])) (fun t_ K => XS.aloadN X12.here hx rfl (hb hby d_eq_71) rfl rfl K) ?_
            obtain ⟨T13, X13, e13, st13⟩ := getF X12 hx hZ hown (host := "") (Or.inl (hw _ (List.mem_of_getElem? (i := 26) rfl))) Via.refl e12 F1.2.2.2.2.2.2 (g := (mkF m 72 #[.val (.ref u), .val (.ref v), .val (.ref v)] [(.ref u)])) rfl rfl (hb hby d_eq_72)
            refine own_go (T' := T13) (g' := (mkF m 75 #[.val (.ref u), .val (.ref v), .val (.ref v)] [(.int l1)])) (fun t_ K => st13 _ K) ?_
            refine own_go (T' := T13) (g' := (mkF m 76 #[.val (.ref u), .val (.ref v), .val (.ref v)] [(.ref v), (.int l1)])) (fun t_ K => XS.aloadN X13.here hx rfl (hb hby d_eq_75) rfl rfl K) ?_
            obtain ⟨T14, X14, e14, st14⟩ := getF X13 hx hZ hown (host := "") (Or.inl (hw _ (List.mem_of_getElem? (i := 26) rfl))) Via.refl e13 F2.2.2.2.2.2.2 (g := (mkF m 76 #[.val (.ref u), .val (.ref v), .val (.ref v)] [(.ref v), (.int l1)])) rfl rfl (hb hby d_eq_76)
            refine own_go (T' := T14) (g' := (mkF m 79 #[.val (.ref u), .val (.ref v), .val (.ref v)] [(.int l2), (.int l1)])) (fun t_ K => st14 _ K) ?_
            by_cases c79 : l1 = l2
            · refine own_go (T' := T14) (g' := (mkF m 82 #[.val (.ref u), .val (.ref v), .val (.ref v)] [])) (fun t_ K => XS.icmpNo X14.here hx rfl (hb hby d_eq_79) rfl (teq c79).2 K) ?_
              refine own_go (T' := T14) (g' := (mkF m 83 #[.val (.ref u), .val (.ref v), .val (.ref v)] [(.int (1 : Int32))])) (fun t_ K => XS.iconst X14.here hx rfl (hb hby d_eq_82) K) ?_
              refine own_go (T' := T14) (g' := (mkF m 87 #[.val (.ref u), .val (.ref v), .val (.ref v)] [(.int (1 : Int32))])) (fun t_ K => XS.goto X14.here hx rfl (pc0 := 83) (pc' := 87) rfl (hb hby d_eq_83) (by decide) (by decide) K) ?_
              exact own_retZ X14 hx Bd.returns hlk (Or.inr rfl) (hb hby d_eq_87) ⟨by rw [own_eq, if_pos c22, if_pos c34, if_pos c46, if_pos c57, if_pos c68, if_pos c79], rfl, e14⟩ (by decide) (by decide)
            · refine own_go (T' := T14) (g' := (mkF m 86 #[.val (.ref u), .val (.ref v), .val (.ref v)] [])) (fun t_ K => XS.icmpYes X14.here hx rfl (pc0 := 79) (pc' := 86) rfl (hb hby d_eq_79) rfl (feq c79).2 (by decide) (by decide) K) ?_
              refine own_go (T' := T14) (g' := (mkF m 87 #[.val (.ref u), .val (.ref v), .val (.ref v)] [(.int (0 : Int32))])) (fun t_ K => XS.iconst X14.here hx rfl (hb hby d_eq_86) K) ?_
              exact own_retZ X14 hx Bd.returns hlk (Or.inl rfl) (hb hby d_eq_87) ⟨by rw [own_eq, if_pos c22, if_pos c34, if_pos c46, if_pos c57, if_pos c68, if_neg c79], rfl, e14⟩ (by decide) (by decide)
          · refine own_go (T' := T12) (g' := (mkF m 86 #[.val (.ref u), .val (.ref v), .val (.ref v)] [])) (fun t_ K => XS.icmpYes X12.here hx rfl (pc0 := 68) (pc' := 86) rfl (hb hby d_eq_68) rfl (feq c68).2 (by decide) (by decide) K) ?_
            refine own_go (T' := T12) (g' := (mkF m 87 #[.val (.ref u), .val (.ref v), .val (.ref v)] [(.int (0 : Int32))])) (fun t_ K => XS.iconst X12.here hx rfl (hb hby d_eq_86) K) ?_
            exact own_retZ X12 hx Bd.returns hlk (Or.inl rfl) (hb hby d_eq_87) ⟨by rw [own_eq, if_pos c22, if_pos c34, if_pos c46, if_pos c57, if_neg c68], rfl, e12⟩ (by decide) (by decide)
        · refine own_go (T' := T10) (g' := (mkF m 86 #[.val (.ref u), .val (.ref v), .val (.ref v)] [])) (fun t_ K => XS.icmpYes X10.here hx rfl (pc0 := 57) (pc' := 86) rfl (hb hby d_eq_57) rfl (feq c57).2 (by decide) (by decide) K) ?_
          refine own_go (T' := T10) (g' := (mkF m 87 #[.val (.ref u), .val (.ref v), .val (.ref v)] [(.int (0 : Int32))])) (fun t_ K => XS.iconst X10.here hx rfl (hb hby d_eq_86) K) ?_
          exact own_retZ X10 hx Bd.returns hlk (Or.inl rfl) (hb hby d_eq_87) ⟨by rw [own_eq, if_pos c22, if_pos c34, if_pos c46, if_neg c57], rfl, e10⟩ (by decide) (by decide)
      · refine own_go (T' := T8) (g' := (mkF m 86 #[.val (.ref u), .val (.ref v), .val (.ref v)] [])) (fun t_ K => XS.ifYes X8.here hx rfl (pc0 := 46) (pc' := 86) rfl (hb hby d_eq_46) rfl ((if0 _ _).trans (feq (fun q => c46 ((lw_eq y1 y2).mp q))).2) (by decide) (by decide) K) ?_
        refine own_go (T' := T8) (g' := (mkF m 87 #[.val (.ref u), .val (.ref v), .val (.ref v)] [(.int (0 : Int32))])) (fun t_ K => XS.iconst X8.here hx rfl (hb hby d_eq_86) K) ?_
        exact own_retZ X8 hx Bd.returns hlk (Or.inl rfl) (hb hby d_eq_87) ⟨by rw [own_eq, if_pos c22, if_pos c34, if_neg c46], rfl, e8⟩ (by decide) (by decide)
    · refine own_go (T' := T6) (g' := (mkF m 86 #[.val (.ref u), .val (.ref v), .val (.ref v)] [])) (fun t_ K => XS.ifYes X6.here hx rfl (pc0 := 34) (pc' := 86) rfl (hb hby d_eq_34) rfl ((if0 _ _).trans (feq (fun q => c34 ((lw_eq n1 n2).mp q))).2) (by decide) (by decide) K) ?_
      refine own_go (T' := T6) (g' := (mkF m 87 #[.val (.ref u), .val (.ref v), .val (.ref v)] [(.int (0 : Int32))])) (fun t_ K => XS.iconst X6.here hx rfl (hb hby d_eq_86) K) ?_
      exact own_retZ X6 hx Bd.returns hlk (Or.inl rfl) (hb hby d_eq_87) ⟨by rw [own_eq, if_pos c22, if_neg c34], rfl, e6⟩ (by decide) (by decide)
  · refine own_go (T' := T4) (g' := (mkF m 86 #[.val (.ref u), .val (.ref v), .val (.ref v)] [])) (fun t_ K => Jvm.RoadKit.acmp (g := (mkF m 22 #[.val (.ref u), .val (.ref v), .val (.ref v)] [(.ref k2), (.ref k1)])) X4 hx rfl rfl rfl (pc0 := 22) (pc' := 86) (same := false) rfl (hb hby d_eq_22) rfl (decide_eq_false (fun q => c22 (Value.ref.inj q))) (by decide) (by decide) K) ?_
    refine own_go (T' := T4) (g' := (mkF m 87 #[.val (.ref u), .val (.ref v), .val (.ref v)] [(.int (0 : Int32))])) (fun t_ K => XS.iconst X4.here hx rfl (hb hby d_eq_86) K) ?_
    exact own_retZ X4 hx Bd.returns hlk (Or.inl rfl) (hb hby d_eq_87) ⟨by rw [own_eq, if_neg c22], rfl, e4⟩ (by decide) (by decide)
set_option maxRecDepth 65536 in
set_option maxHeartbeats 40000000 in
theorem rm_eqn (l : Launch) (Z : State) (a0 : Array Value) (hw : ∀ d ∈ tables_1, d.before a0 Z = true) (u : Addr) (h0 : Heap)  :
    Pays l Z (⟨"com/example/hosts_to_leader/hoststoleader/model/ElectionMessage", "equals", "(Ljava/lang/Object;)Z"⟩ : MethodName) prog_8_method_9_code 3 (some .boolean) ({ frames := 0, cells := 0, slots := 0, locals := 0 } : Room) #[(.ref u), .null] h0 (own_pure (some (.int 0)) h0) := by
  refine MetFree.of_bodySF (plainFor_of_name pn_1) hisR ?_
  intro p e s m args below meth c s₁ Bd hml0 hP hK
  obtain ⟨rfl, hZ, hh⟩ := hP
  have hx := Bd.exec
  have hby := Bd.bytes
  have hml : c.maxLocals = 3 := hml0
  have hown : s.vm.findClass "com/example/hosts_to_leader/hoststoleader/model/ElectionMessage" = some m.cls := findClass_of_methodNamed Bd.named
  have hnm := (name_of_methodNamed Bd.named Bd.method).1
  have hlk : meth.locks = false := BodyLoose.notSynchronized Bd
  have X0 : Stand p l e ({ frames := 0, cells := 0, slots := 0, locals := 0 } : Room) s m #[(.ref u), .null] below meth c s₁ [] 0 0 := Stand.of_body Bd
  have e0 : s₁.heap = h0 := by rw [← hh, Bd.state]; rfl
  show Goes p e below s (own_pure (some (.int 0)) h0) ({ frames := 0, cells := 0, slots := 0, locals := 0 } : Room).cells ({ frames := 0, cells := 0, slots := 0, locals := 0 } : Room).slots s₁ (entryFrame m #[(.ref u), .null] 3)
  rw [ef_eqn m u]
  refine own_go (T' := s₁) (g' := (mkF m 1 #[.val (.ref u), .val .null, .unset] [.null])) (fun t_ K => XS.aloadN X0.here hx rfl (hb hby d_eqn_0) rfl rfl K) ?_
  refine own_go (T' := s₁) (g' := (mkF m 4 #[.val (.ref u), .val .null, .unset] [(.int (0 : Int32))])) (fun t_ K => X0.instanceofNull hx (g := (mkF m 1 #[.val (.ref u), .val .null, .unset] [.null])) rfl rfl (hb hby d_eqn_1) _ K) ?_
  refine own_go (T' := s₁) (g' := (mkF m 7 #[.val (.ref u), .val .null, .unset] [])) (fun t_ K => XS.ifNo X0.here hx rfl (hb hby d_eqn_4) rfl ((if0 _ _).trans (teq (by decide : (0 : Int32) = (0 : Int32))).2) K) ?_
  refine own_go (T' := s₁) (g' := (mkF m 8 #[.val (.ref u), .val .null, .unset] [(.int (0 : Int32))])) (fun t_ K => XS.iconst X0.here hx rfl (hb hby d_eqn_7) K) ?_
  exact own_retZ X0 hx Bd.returns hlk (Or.inl rfl) (hb hby d_eqn_8) ⟨rfl, rfl, e0⟩ (by decide) (by decide)
theorem own_nas {Z : State} {a0 : Array Value} (hw : ∀ d ∈ tables_1, d.before a0 Z = true) : ∃ c t, Z.vm.findClass "java/lang/Integer" = some c ∧ Z.vm.findClass "com/example/hosts_to_leader/hoststoleader/model/ElectionMessage" = some t ∧ Z.vm.assignable c t = false := by
  obtain ⟨t, kt, t1, t2, t3, t4, -, -⟩ := Cond.instantiable_spec (hw _ (List.mem_of_getElem? (i := 1) rfl))
  obtain ⟨co, ko, o1, o2, o3, -, -⟩ := Cond.noSuperclass_spec (hw _ (List.mem_of_getElem? (i := 46) rfl))
  have n0 : NS Z "java/lang/Object" "com/example/hosts_to_leader/hoststoleader/model/ElectionMessage" := ⟨co, t, o1, t1, fun fuel => by
    cases fuel with
    | zero => rfl
    | succ f => simp [Vm.isSubclassAux, ids_ne o1 t1 (by decide), o2, o3]⟩
  have n1 := NS.step (hw _ (List.mem_of_getElem? (i := 45) rfl)) n0 (by decide)
  have n2 := NS.step (hw _ (List.mem_of_getElem? (i := 44) rfl)) n1 (by decide)
  obtain ⟨c, t', h0, g0, n3⟩ := n2
  cases t1.symm.trans g0
  obtain ⟨p, k, kp, h1, h2, h3, h4, h5, -, h7⟩ := Cond.superclass_spec h0 (hw _ (List.mem_of_getElem? (i := 44) rfl))
  have ne := ids_ne h0 t1 (by decide)
  have t5 : kt.isInterface = false := by
    cases q : kt.isInterface
    · rfl
    · rw [q] at t4; cases t4
  refine ⟨c, t, h0, t1, ?_⟩
  show Z.vm.assignableAux (255 + 1) c t = false
  simp [Vm.assignableAux, ne, h2, t2, h5, t3, t5, Vm.isSubclass, n3]
set_option maxRecDepth 65536 in
set_option maxHeartbeats 40000000 in
theorem rm_eqi (l : Launch) (Z : State) (a0 : Array Value) (hw : ∀ d ∈ tables_1, d.before a0 Z = true) (u v : Addr) (h0 : Heap) (Ev : Exa Z h0 v "java/lang/Integer") :
    Pays l Z (⟨"com/example/hosts_to_leader/hoststoleader/model/ElectionMessage", "equals", "(Ljava/lang/Object;)Z"⟩ : MethodName) prog_8_method_9_code 3 (some .boolean) ({ frames := 0, cells := 0, slots := 0, locals := 0 } : Room) #[(.ref u), (.ref v)] h0 (own_pure (some (.int 0)) h0) := by
  refine MetFree.of_bodySF (plainFor_of_name pn_1) hisR ?_
  intro p e s m args below meth c s₁ Bd hml0 hP hK
  obtain ⟨rfl, hZ, hh⟩ := hP
  have hx := Bd.exec
  have hby := Bd.bytes
  have hml : c.maxLocals = 3 := hml0
  have hown : s.vm.findClass "com/example/hosts_to_leader/hoststoleader/model/ElectionMessage" = some m.cls := findClass_of_methodNamed Bd.named
  have hnm := (name_of_methodNamed Bd.named Bd.method).1
  have hlk : meth.locks = false := BodyLoose.notSynchronized Bd
  have X0 : Stand p l e ({ frames := 0, cells := 0, slots := 0, locals := 0 } : Room) s m #[(.ref u), (.ref v)] below meth c s₁ [] 0 0 := Stand.of_body Bd
  have e0 : s₁.heap = h0 := by rw [← hh, Bd.state]; rfl
  show Goes p e below s (own_pure (some (.int 0)) h0) ({ frames := 0, cells := 0, slots := 0, locals := 0 } : Room).cells ({ frames := 0, cells := 0, slots := 0, locals := 0 } : Room).slots s₁ (entryFrame m #[(.ref u), (.ref v)] 3)
  rw [ef_eqi m u v]
  refine own_go (T' := s₁) (g' := (mkF m 1 #[.val (.ref u), .val (.ref v), .unset] [(.ref v)])) (fun t_ K => XS.aloadN X0.here hx rfl (hb hby d_eqi_0) rfl rfl K) ?_
  obtain ⟨T1, X1, e1, st1⟩ := instNo X0 hx hZ hown (hw _ (List.mem_of_getElem? (i := 42) rfl)) e0 Ev (own_nas hw) (g := (mkF m 1 #[.val (.ref u), .val (.ref v), .unset] [(.ref v)])) rfl rfl (hb hby d_eqi_1)
  refine own_go (T' := T1) (g' := (mkF m 4 #[.val (.ref u), .val (.ref v), .unset] [(.int (0 : Int32))])) (fun t_ K => st1 _ K) ?_
  refine own_go (T' := T1) (g' := (mkF m 7 #[.val (.ref u), .val (.ref v), .unset] [])) (fun t_ K => XS.ifNo X1.here hx rfl (hb hby d_eqi_4) rfl ((if0 _ _).trans (teq (by decide : (0 : Int32) = (0 : Int32))).2) K) ?_
  refine own_go (T' := T1) (g' := (mkF m 8 #[.val (.ref u), .val (.ref v), .unset] [(.int (0 : Int32))])) (fun t_ K => XS.iconst X1.here hx rfl (hb hby d_eqi_7) K) ?_
  exact own_retZ X1 hx Bd.returns hlk (Or.inl rfl) (hb hby d_eqi_8) ⟨rfl, rfl, e1⟩ (by decide) (by decide)
def own_kb (sel : Int32) : Int32 := (XT.ushr sel (2 : Int32)) &&& (3 : Int32)
def own_bt (sel k : Int32) : Int32 := (XT.ushr sel k) &&& (1 : Int32)
def own_nb (sel : Int32) (x y : Int64) : Int64 := if own_bt sel (4 : Int32) = (0 : Int32) then x else y
def own_yb (sel : Int32) (x y : Int64) : Int64 := if own_bt sel (5 : Int32) = (0 : Int32) then y else x
def own_rb (sel p q : Int32) : Int32 := if own_bt sel (6 : Int32) = (0 : Int32) then p else q
def own_sb (sel q r : Int32) : Int32 := if own_bt sel (7 : Int32) = (0 : Int32) then q else r
def own_lb (sel p r : Int32) : Int32 := if own_bt sel (8 : Int32) = (0 : Int32) then r else p
def own_exp (ka kb : Int32) (x y nb yb : Int64) (p q r rb sb lb : Int32) : Int32 := if ka = kb then if nb = x then if yb = y then if rb = p then if sb = q then if lb = r then (1 : Int32) else (0 : Int32) else (0 : Int32) else (0 : Int32) else (0 : Int32) else (0 : Int32) else (0 : Int32)
theorem own_or4 (x : Int32) : (x &&& (3 : Int32)) = 0 ∨ (x &&& (3 : Int32)) = 1 ∨ (x &&& (3 : Int32)) = 2 ∨ (x &&& (3 : Int32)) = 3 := by
  have e : (x &&& (3 : Int32)).toInt = x.toInt % 2 ^ 2 := Jvm.Kit.i32_mask x 3 (k := 2) (by decide) (by decide)
  have h : (x &&& (3 : Int32)).toInt = 0 ∨ (x &&& (3 : Int32)).toInt = 1 ∨ (x &&& (3 : Int32)).toInt = 2 ∨ (x &&& (3 : Int32)).toInt = 3 := by omega
  rcases h with h | h | h | h
  · exact Or.inl (Int32.toInt_inj.mp (by rw [h]; decide))
  · exact Or.inr (Or.inl (Int32.toInt_inj.mp (by rw [h]; decide)))
  · exact Or.inr (Or.inr (Or.inl (Int32.toInt_inj.mp (by rw [h]; decide))))
  · exact Or.inr (Or.inr (Or.inr (Int32.toInt_inj.mp (by rw [h]; decide))))
theorem own_m0 (a_k0 a_k1 a_k2 a_k3 : Addr) : own_kind 0 a_k0 a_k1 a_k2 a_k3 = a_k0 := rfl
theorem own_m1 (a_k0 a_k1 a_k2 a_k3 : Addr) : own_kind 1 a_k0 a_k1 a_k2 a_k3 = a_k1 := rfl
theorem own_m2 (a_k0 a_k1 a_k2 a_k3 : Addr) : own_kind 2 a_k0 a_k1 a_k2 a_k3 = a_k2 := rfl
theorem own_m3 (a_k0 a_k1 a_k2 a_k3 : Addr) : own_kind 3 a_k0 a_k1 a_k2 a_k3 = a_k3 := rfl
theorem own_kinj (a b : Int32) (a_k0 a_k1 a_k2 a_k3 : Addr) (n_k0_k1 : a_k0 ≠ a_k1) (n_k0_k2 : a_k0 ≠ a_k2) (n_k0_k3 : a_k0 ≠ a_k3) (n_k1_k2 : a_k1 ≠ a_k2) (n_k1_k3 : a_k1 ≠ a_k3) (n_k2_k3 : a_k2 ≠ a_k3) : own_kind (a &&& (3 : Int32)) a_k0 a_k1 a_k2 a_k3 = own_kind (b &&& (3 : Int32)) a_k0 a_k1 a_k2 a_k3 ↔ (a &&& (3 : Int32)) = (b &&& (3 : Int32)) := by
  rcases own_or4 a with q | q | q | q <;> rcases own_or4 b with r | r | r | r <;> rw [q, r] <;> simp only [own_m0, own_m1, own_m2, own_m3, n_k0_k1, n_k0_k2, n_k0_k3, n_k1_k2, n_k1_k3, n_k2_k3, n_k0_k1.symm, n_k0_k2.symm, n_k0_k3.symm, n_k1_k2.symm, n_k1_k3.symm, n_k2_k3.symm, true_iff, false_iff] <;> decide
theorem own_self (k1 : Addr) (n1 y1 : Int64) (r1 s1 l1 : Int32) : own_eq k1 n1 y1 r1 s1 l1 k1 n1 y1 r1 s1 l1 = (1 : Int32) := by
  rw [own_eq, if_pos rfl, if_pos rfl, if_pos rfl, if_pos rfl, if_pos rfl, if_pos rfl]
theorem own_ab {k1 k2 : Addr} {ka kb : Int32} (h : k1 = k2 ↔ ka = kb) (x y nb yb : Int64) (p q r rb sb lb : Int32) : own_eq k1 x y p q r k2 nb yb rb sb lb = own_exp ka kb x y nb yb p q r rb sb lb := by
  have e1 : (x = nb) = (nb = x) := propext eq_comm
  have e2 : (y = yb) = (yb = y) := propext eq_comm
  have e3 : (p = rb) = (rb = p) := propext eq_comm
  have e4 : (q = sb) = (sb = q) := propext eq_comm
  have e5 : (r = lb) = (lb = r) := propext eq_comm
  rw [own_eq, own_exp]
  simp only [h, e1, e2, e3, e4, e5]
theorem own_ba {k1 k2 : Addr} {ka kb : Int32} (h : k1 = k2 ↔ ka = kb) (x y nb yb : Int64) (p q r rb sb lb : Int32) : own_eq k2 nb yb rb sb lb k1 x y p q r = own_exp ka kb x y nb yb p q r rb sb lb := by
  have e0 : (k2 = k1) = (ka = kb) := propext ⟨fun q => h.mp q.symm, fun q => (h.mpr q).symm⟩
  rw [own_eq, own_exp]
  simp only [e0]
set_option maxRecDepth 65536 in
set_option maxHeartbeats 40000000 in
theorem rm_law (l : Launch) (Z : State) (a0 : Array Value) (hw : ∀ d ∈ tables_1, d.before a0 Z = true) (ws : List Jvm.Cond) (xn xy : Int64) (xp xq xr xsel : Int32) (a_k0 a_k1 a_k2 a_k3 ca : Addr) (n0 : Nat) (h0 : Heap) (Z0 : n0 ≤ h0.size) (hca : ca < n0) (S_k0 : Sta Z h0 "com/example/hosts_to_leader/hoststoleader/model/ElectionMessage$Kind" "INITIATING" "Lcom/example/hosts_to_leader/hoststoleader/model/ElectionMessage$Kind;" (.ref a_k0)) (S_k1 : Sta Z h0 "com/example/hosts_to_leader/hoststoleader/model/ElectionMessage$Kind" "RELAY" "Lcom/example/hosts_to_leader/hoststoleader/model/ElectionMessage$Kind;" (.ref a_k1)) (S_k2 : Sta Z h0 "com/example/hosts_to_leader/hoststoleader/model/ElectionMessage$Kind" "FINAL" "Lcom/example/hosts_to_leader/hoststoleader/model/ElectionMessage$Kind;" (.ref a_k2)) (S_k3 : Sta Z h0 "com/example/hosts_to_leader/hoststoleader/model/ElectionMessage$Kind" "HEARTBEAT" "Lcom/example/hosts_to_leader/hoststoleader/model/ElectionMessage$Kind;" (.ref a_k3)) (SH : Sta Z h0 "java/lang/Integer$IntegerCache" "high" "I" (.int (127 : Int32))) (SC : Sta Z h0 "java/lang/Integer$IntegerCache" "cache" "[Ljava/lang/Integer;" (.ref ca)) (CA : own_cache Z h0 ca) (n_k0_k1 : a_k0 ≠ a_k1) (n_k0_k2 : a_k0 ≠ a_k2) (n_k0_k3 : a_k0 ≠ a_k3) (n_k1_k2 : a_k1 ≠ a_k2) (n_k1_k3 : a_k1 ≠ a_k3) (n_k2_k3 : a_k2 ≠ a_k3) :
    MetFree l x (head1 (Jvm.Cond.code x code maxLocals ret :: ws) room_1) (fun a U => a = #[(.long xn), (.long xy), (.int xp), (.int xq), (.int xr), (.int xsel)] ∧ Z.Warmed39 U.vm ∧ U.heap = h0) (fun _ _ _ _ _ => True) (fun _ U o U' => ∃ v L, o = .returned v ∧ (own_one n0) v U'.heap L ∧ FrameEnd U o U' L 3 13) := by
  refine MetFree.of_bodySF (plainFor_of_name pn_0) hisR ?_
  intro p e s m args below meth c s₁ Bd hml0 hP hK
  obtain ⟨rfl, hZ, hh⟩ := hP
  have hx := Bd.exec
  have hby := Bd.bytes
  have hml : c.maxLocals = 21 := hml0
  have hown : s.vm.findClass "com/example/hosts_to_leader/hoststoleader/model/ElectionMessageEqualsPinLaw" = some m.cls := findClass_of_methodNamed Bd.named
  have hnm := (name_of_methodNamed Bd.named Bd.method).1
  have hlk : meth.locks = false := BodyLoose.notSynchronized Bd
  have X0 : Stand p l e room_1 s m #[(.long xn), (.long xy), (.int xp), (.int xq), (.int xr), (.int xsel)] below meth c s₁ [] 0 0 := Stand.of_body Bd
  have e0 : s₁.heap = h0 := by rw [← hh, Bd.state]; rfl
  have N0 := Fr.nil n0
  show Goes p e below s (own_one n0) 3 13 s₁ (entryFrame m #[(.long xn), (.long xy), (.int xp), (.int xq), (.int xr), (.int xsel)] maxLocals)
  rw [ef_law m xn xy xp xq xr xsel]
  refine own_go (T' := s₁) (g' := (mkF m 2 #[.val (.long xn), .second, .val (.long xy), .second, .val (.int xp), .val (.int xq), .val (.int xr), .val (.int xsel), .unset, .unset, .unset, .unset, .unset, .unset, .unset, .unset, .unset, .unset, .unset, .unset, .unset] [(.int xsel)])) (fun t_ K => XS.iload X0.here hx rfl (hb hby at_0) rfl K) ?_
  refine own_go (T' := s₁) (g' := (mkF m 3 #[.val (.long xn), .second, .val (.long xy), .second, .val (.int xp), .val (.int xq), .val (.int xr), .val (.int xsel), .unset, .unset, .unset, .unset, .unset, .unset, .unset, .unset, .unset, .unset, .unset, .unset, .unset] [(.int (3 : Int32)), (.int xsel)])) (fun t_ K => XS.iconst X0.here hx rfl (hb hby at_2) K) ?_
  refine own_go (T' := s₁) (g' := (mkF m 4 #[.val (.long xn), .second, .val (.long xy), .second, .val (.int xp), .val (.int xq), .val (.int xr), .val (.int xsel), .unset, .unset, .unset, .unset, .unset, .unset, .unset, .unset, .unset, .unset, .unset, .unset, .unset] [(.int (xsel &&& (3 : Int32)))])) (fun t_ K => XS.iand X0.here hx rfl (hb hby at_3) rfl K) ?_
  refine own_go (T' := s₁) (g' := (mkF m 6 #[.val (.long xn), .second, .val (.long xy), .second, .val (.int xp), .val (.int xq), .val (.int xr), .val (.int xsel), .val (.int (xsel &&& (3 : Int32))), .unset, .unset, .unset, .unset, .unset, .unset, .unset, .unset, .unset, .unset, .unset, .unset] [])) (fun t_ K => XS.istore X0.here hx rfl (hb hby at_4) rfl (l' := #[.val (.long xn), .second, .val (.long xy), .second, .val (.int xp), .val (.int xq), .val (.int xr), .val (.int xsel), .val (.int (xsel &&& (3 : Int32))), .unset, .unset, .unset, .unset, .unset, .unset, .unset, .unset, .unset, .unset, .unset, .unset]) rfl K) ?_
  refine own_go (T' := s₁) (g' := (mkF m 8 #[.val (.long xn), .second, .val (.long xy), .second, .val (.int xp), .val (.int xq), .val (.int xr), .val (.int xsel), .val (.int (xsel &&& (3 : Int32))), .unset, .unset, .unset, .unset, .unset, .unset, .unset, .unset, .unset, .unset, .unset, .unset] [(.int xsel)])) (fun t_ K => XS.iload X0.here hx rfl (hb hby at_6) rfl K) ?_
  refine own_go (T' := s₁) (g' := (mkF m 9 #[.val (.long xn), .second, .val (.long xy), .second, .val (.int xp), .val (.int xq), .val (.int xr), .val (.int xsel), .val (.int (xsel &&& (3 : Int32))), .unset, .unset, .unset, .unset, .unset, .unset, .unset, .unset, .unset, .unset, .unset, .unset] [(.int (2 : Int32)), (.int xsel)])) (fun t_ K => XS.iconst X0.here hx rfl (hb hby at_8) K) ?_
  refine own_go (T' := s₁) (g' := (mkF m 10 #[.val (.long xn), .second, .val (.long xy), .second, .val (.int xp), .val (.int xq), .val (.int xr), .val (.int xsel), .val (.int (xsel &&& (3 : Int32))), .unset, .unset, .unset, .unset, .unset, .unset, .unset, .unset, .unset, .unset, .unset, .unset] [(.int (XT.ushr xsel (2 : Int32)))])) (fun t_ K => XT.iushr X0.here hx rfl (hb hby at_9) rfl K) ?_
  refine own_go (T' := s₁) (g' := (mkF m 11 #[.val (.long xn), .second, .val (.long xy), .second, .val (.int xp), .val (.int xq), .val (.int xr), .val (.int xsel), .val (.int (xsel &&& (3 : Int32))), .unset, .unset, .unset, .unset, .unset, .unset, .unset, .unset, .unset, .unset, .unset, .unset] [(.int (3 : Int32)), (.int (XT.ushr xsel (2 : Int32)))])) (fun t_ K => XS.iconst X0.here hx rfl (hb hby at_10) K) ?_
  refine own_go (T' := s₁) (g' := (mkF m 12 #[.val (.long xn), .second, .val (.long xy), .second, .val (.int xp), .val (.int xq), .val (.int xr), .val (.int xsel), .val (.int (xsel &&& (3 : Int32))), .unset, .unset, .unset, .unset, .unset, .unset, .unset, .unset, .unset, .unset, .unset, .unset] [(.int ((XT.ushr xsel (2 : Int32)) &&& (3 : Int32)))])) (fun t_ K => XS.iand X0.here hx rfl (hb hby at_11) rfl K) ?_
  show Goes p e below s (own_one n0) 3 13 s₁ (mkF m 12 #[.val (.long xn), .second, .val (.long xy), .second, .val (.int xp), .val (.int xq), .val (.int xr), .val (.int xsel), .val (.int (xsel &&& (3 : Int32))), .unset, .unset, .unset, .unset, .unset, .unset, .unset, .unset, .unset, .unset, .unset, .unset] [(.int (own_kb xsel))])
  refine own_go (T' := s₁) (g' := (mkF m 14 #[.val (.long xn), .second, .val (.long xy), .second, .val (.int xp), .val (.int xq), .val (.int xr), .val (.int xsel), .val (.int (xsel &&& (3 : Int32))), .val (.int (own_kb xsel)), .unset, .unset, .unset, .unset, .unset, .unset, .unset, .unset, .unset, .unset, .unset] [])) (fun t_ K => XS.istore X0.here hx rfl (hb hby at_12) rfl (l' := #[.val (.long xn), .second, .val (.long xy), .second, .val (.int xp), .val (.int xq), .val (.int xr), .val (.int xsel), .val (.int (xsel &&& (3 : Int32))), .val (.int (own_kb xsel)), .unset, .unset, .unset, .unset, .unset, .unset, .unset, .unset, .unset, .unset, .unset]) rfl K) ?_
  refine own_go (T' := s₁) (g' := (mkF m 16 #[.val (.long xn), .second, .val (.long xy), .second, .val (.int xp), .val (.int xq), .val (.int xr), .val (.int xsel), .val (.int (xsel &&& (3 : Int32))), .val (.int (own_kb xsel)), .unset, .unset, .unset, .unset, .unset, .unset, .unset, .unset, .unset, .unset, .unset] [(.int xsel)])) (fun t_ K => XS.iload X0.here hx rfl (hb hby at_14) rfl K) ?_
  refine own_go (T' := s₁) (g' := (mkF m 17 #[.val (.long xn), .second, .val (.long xy), .second, .val (.int xp), .val (.int xq), .val (.int xr), .val (.int xsel), .val (.int (xsel &&& (3 : Int32))), .val (.int (own_kb xsel)), .unset, .unset, .unset, .unset, .unset, .unset, .unset, .unset, .unset, .unset, .unset] [(.int (4 : Int32)), (.int xsel)])) (fun t_ K => XS.iconst X0.here hx rfl (hb hby at_16) K) ?_
  refine own_go (T' := s₁) (g' := (mkF m 18 #[.val (.long xn), .second, .val (.long xy), .second, .val (.int xp), .val (.int xq), .val (.int xr), .val (.int xsel), .val (.int (xsel &&& (3 : Int32))), .val (.int (own_kb xsel)), .unset, .unset, .unset, .unset, .unset, .unset, .unset, .unset, .unset, .unset, .unset] [(.int (XT.ushr xsel (4 : Int32)))])) (fun t_ K => XT.iushr X0.here hx rfl (hb hby at_17) rfl K) ?_
  refine own_go (T' := s₁) (g' := (mkF m 19 #[.val (.long xn), .second, .val (.long xy), .second, .val (.int xp), .val (.int xq), .val (.int xr), .val (.int xsel), .val (.int (xsel &&& (3 : Int32))), .val (.int (own_kb xsel)), .unset, .unset, .unset, .unset, .unset, .unset, .unset, .unset, .unset, .unset, .unset] [(.int (1 : Int32)), (.int (XT.ushr xsel (4 : Int32)))])) (fun t_ K => XS.iconst X0.here hx rfl (hb hby at_18) K) ?_
  refine own_go (T' := s₁) (g' := (mkF m 20 #[.val (.long xn), .second, .val (.long xy), .second, .val (.int xp), .val (.int xq), .val (.int xr), .val (.int xsel), .val (.int (xsel &&& (3 : Int32))), .val (.int (own_kb xsel)), .unset, .unset, .unset, .unset, .unset, .unset, .unset, .unset, .unset, .unset, .unset] [(.int ((XT.ushr xsel (4 : Int32)) &&& (1 : Int32)))])) (fun t_ K => XS.iand X0.here hx rfl (hb hby at_19) rfl K) ?_
  show Goes p e below s (own_one n0) 3 13 s₁ (mkF m 20 #[.val (.long xn), .second, .val (.long xy), .second, .val (.int xp), .val (.int xq), .val (.int xr), .val (.int xsel), .val (.int (xsel &&& (3 : Int32))), .val (.int (own_kb xsel)), .unset, .unset, .unset, .unset, .unset, .unset, .unset, .unset, .unset, .unset, .unset] [(.int (own_bt xsel (4 : Int32)))])
  have J1 : ∀ (T1 : State) (v1 : Int64), v1 = (own_nb xsel xn xy) → Stand p l e room_1 s m #[(.long xn), (.long xy), (.int xp), (.int xq), (.int xr), (.int xsel)] below meth c T1 [] 0 0 → T1.heap = h0 → Goes p e below s (own_one n0) 3 13 T1 (mkF m 28 #[.val (.long xn), .second, .val (.long xy), .second, .val (.int xp), .val (.int xq), .val (.int xr), .val (.int xsel), .val (.int (xsel &&& (3 : Int32))), .val (.int (own_kb xsel)), .unset, .unset, .unset, .unset, .unset, .unset, .unset, .unset, .unset, .unset, .unset] [(.long v1)]) := by
    intro T1 v1 hv1 X1 e1
    subst hv1
    refine own_go (T' := T1) (g' := (mkF m 30 #[.val (.long xn), .second, .val (.long xy), .second, .val (.int xp), .val (.int xq), .val (.int xr), .val (.int xsel), .val (.int (xsel &&& (3 : Int32))), .val (.int (own_kb xsel)), .val (.long (own_nb xsel xn xy)), .second, .unset, .unset, .unset, .unset, .unset, .unset, .unset, .unset, .unset] [])) (fun t_ K => XS.lstore X1.here hx rfl (hb hby at_28) rfl (l' := #[.val (.long xn), .second, .val (.long xy), .second, .val (.int xp), .val (.int xq), .val (.int xr), .val (.int xsel), .val (.int (xsel &&& (3 : Int32))), .val (.int (own_kb xsel)), .val (.long (own_nb xsel xn xy)), .second, .unset, .unset, .unset, .unset, .unset, .unset, .unset, .unset, .unset]) rfl K) ?_
    refine own_go (T' := T1) (g' := (mkF m 32 #[.val (.long xn), .second, .val (.long xy), .second, .val (.int xp), .val (.int xq), .val (.int xr), .val (.int xsel), .val (.int (xsel &&& (3 : Int32))), .val (.int (own_kb xsel)), .val (.long (own_nb xsel xn xy)), .second, .unset, .unset, .unset, .unset, .unset, .unset, .unset, .unset, .unset] [(.int xsel)])) (fun t_ K => XS.iload X1.here hx rfl (hb hby at_30) rfl K) ?_
    refine own_go (T' := T1) (g' := (mkF m 33 #[.val (.long xn), .second, .val (.long xy), .second, .val (.int xp), .val (.int xq), .val (.int xr), .val (.int xsel), .val (.int (xsel &&& (3 : Int32))), .val (.int (own_kb xsel)), .val (.long (own_nb xsel xn xy)), .second, .unset, .unset, .unset, .unset, .unset, .unset, .unset, .unset, .unset] [(.int (5 : Int32)), (.int xsel)])) (fun t_ K => XS.iconst X1.here hx rfl (hb hby at_32) K) ?_
    refine own_go (T' := T1) (g' := (mkF m 34 #[.val (.long xn), .second, .val (.long xy), .second, .val (.int xp), .val (.int xq), .val (.int xr), .val (.int xsel), .val (.int (xsel &&& (3 : Int32))), .val (.int (own_kb xsel)), .val (.long (own_nb xsel xn xy)), .second, .unset, .unset, .unset, .unset, .unset, .unset, .unset, .unset, .unset] [(.int (XT.ushr xsel (5 : Int32)))])) (fun t_ K => XT.iushr X1.here hx rfl (hb hby at_33) rfl K) ?_
    refine own_go (T' := T1) (g' := (mkF m 35 #[.val (.long xn), .second, .val (.long xy), .second, .val (.int xp), .val (.int xq), .val (.int xr), .val (.int xsel), .val (.int (xsel &&& (3 : Int32))), .val (.int (own_kb xsel)), .val (.long (own_nb xsel xn xy)), .second, .unset, .unset, .unset, .unset, .unset, .unset, .unset, .unset, .unset] [(.int (1 : Int32)), (.int (XT.ushr xsel (5 : Int32)))])) (fun t_ K => XS.iconst X1.here hx rfl (hb hby at_34) K) ?_
    refine own_go (T' := T1) (g' := (mkF m 36 #[.val (.long xn), .second, .val (.long xy), .second, .val (.int xp), .val (.int xq), .val (.int xr), .val (.int xsel), .val (.int (xsel &&& (3 : Int32))), .val (.int (own_kb xsel)), .val (.long (own_nb xsel xn xy)), .second, .unset, .unset, .unset, .unset, .unset, .unset, .unset, .unset, .unset] [(.int ((XT.ushr xsel (5 : Int32)) &&& (1 : Int32)))])) (fun t_ K => XS.iand X1.here hx rfl (hb hby at_35) rfl K) ?_
    show Goes p e below s (own_one n0) 3 13 T1 (mkF m 36 #[.val (.long xn), .second, .val (.long xy), .second, .val (.int xp), .val (.int xq), .val (.int xr), .val (.int xsel), .val (.int (xsel &&& (3 : Int32))), .val (.int (own_kb xsel)), .val (.long (own_nb xsel xn xy)), .second, .unset, .unset, .unset, .unset, .unset, .unset, .unset, .unset, .unset] [(.int (own_bt xsel (5 : Int32)))])
    have J2 : ∀ (T2 : State) (v2 : Int64), v2 = (own_yb xsel xn xy) → Stand p l e room_1 s m #[(.long xn), (.long xy), (.int xp), (.int xq), (.int xr), (.int xsel)] below meth c T2 [] 0 0 → T2.heap = h0 → Goes p e below s (own_one n0) 3 13 T2 (mkF m 44 #[.val (.long xn), .second, .val (.long xy), .second, .val (.int xp), .val (.int xq), .val (.int xr), .val (.int xsel), .val (.int (xsel &&& (3 : Int32))), .val (.int (own_kb xsel)), .val (.long (own_nb xsel xn xy)), .second, .unset, .unset, .unset, .unset, .unset, .unset, .unset, .unset, .unset] [(.long v2)]) := by
      intro T2 v2 hv2 X2 e2
      subst hv2
      refine own_go (T' := T2) (g' := (mkF m 46 #[.val (.long xn), .second, .val (.long xy), .second, .val (.int xp), .val (.int xq), .val (.int xr), .val (.int xsel), .val (.int (xsel &&& (3 : Int32))), .val (.int (own_kb xsel)), .val (.long (own_nb xsel xn xy)), .second, .val (.long (own_yb xsel xn xy)), .second, .unset, .unset, .unset, .unset, .unset, .unset, .unset] [])) (fun t_ K => XS.lstore X2.here hx rfl (hb hby at_44) rfl (l' := #[.val (.long xn), .second, .val (.long xy), .second, .val (.int xp), .val (.int xq), .val (.int xr), .val (.int xsel), .val (.int (xsel &&& (3 : Int32))), .val (.int (own_kb xsel)), .val (.long (own_nb xsel xn xy)), .second, .val (.long (own_yb xsel xn xy)), .second, .unset, .unset, .unset, .unset, .unset, .unset, .unset]) rfl K) ?_
      refine own_go (T' := T2) (g' := (mkF m 48 #[.val (.long xn), .second, .val (.long xy), .second, .val (.int xp), .val (.int xq), .val (.int xr), .val (.int xsel), .val (.int (xsel &&& (3 : Int32))), .val (.int (own_kb xsel)), .val (.long (own_nb xsel xn xy)), .second, .val (.long (own_yb xsel xn xy)), .second, .unset, .unset, .unset, .unset, .unset, .unset, .unset] [(.int xsel)])) (fun t_ K => XS.iload X2.here hx rfl (hb hby at_46) rfl K) ?_
      refine own_go (T' := T2) (g' := (mkF m 50 #[.val (.long xn), .second, .val (.long xy), .second, .val (.int xp), .val (.int xq), .val (.int xr), .val (.int xsel), .val (.int (xsel &&& (3 : Int32))), .val (.int (own_kb xsel)), .val (.long (own_nb xsel xn xy)), .second, .val (.long (own_yb xsel xn xy)), .second, .unset, .unset, .unset, .unset, .unset, .unset, .unset] [(.int (6 : Int32)), (.int xsel)])) (fun t_ K => XS.bipush X2.here hx rfl (hb hby at_48) K) ?_
      refine own_go (T' := T2) (g' := (mkF m 51 #[.val (.long xn), .second, .val (.long xy), .second, .val (.int xp), .val (.int xq), .val (.int xr), .val (.int xsel), .val (.int (xsel &&& (3 : Int32))), .val (.int (own_kb xsel)), .val (.long (own_nb xsel xn xy)), .second, .val (.long (own_yb xsel xn xy)), .second, .unset, .unset, .unset, .unset, .unset, .unset, .unset] [(.int (XT.ushr xsel (6 : Int32)))])) (fun t_ K => XT.iushr X2.here hx rfl (hb hby at_50) rfl K) ?_
      refine own_go (T' := T2) (g' := (mkF m 52 #[.val (.long xn), .second, .val (.long xy), .second, .val (.int xp), .val (.int xq), .val (.int xr), .val (.int xsel), .val (.int (xsel &&& (3 : Int32))), .val (.int (own_kb xsel)), .val (.long (own_nb xsel xn xy)), .second, .val (.long (own_yb xsel xn xy)), .second, .unset, .unset, .unset, .unset, .unset, .unset, .unset] [(.int (1 : Int32)), (.int (XT.ushr xsel (6 : Int32)))])) (fun t_ K => XS.iconst X2.here hx rfl (hb hby at_51) K) ?_
      refine own_go (T' := T2) (g' := (mkF m 53 #[.val (.long xn), .second, .val (.long xy), .second, .val (.int xp), .val (.int xq), .val (.int xr), .val (.int xsel), .val (.int (xsel &&& (3 : Int32))), .val (.int (own_kb xsel)), .val (.long (own_nb xsel xn xy)), .second, .val (.long (own_yb xsel xn xy)), .second, .unset, .unset, .unset, .unset, .unset, .unset, .unset] [(.int ((XT.ushr xsel (6 : Int32)) &&& (1 : Int32)))])) (fun t_ K => XS.iand X2.here hx rfl (hb hby at_52) rfl K) ?_
      show Goes p e below s (own_one n0) 3 13 T2 (mkF m 53 #[.val (.long xn), .second, .val (.long xy), .second, .val (.int xp), .val (.int xq), .val (.int xr), .val (.int xsel), .val (.int (xsel &&& (3 : Int32))), .val (.int (own_kb xsel)), .val (.long (own_nb xsel xn xy)), .second, .val (.long (own_yb xsel xn xy)), .second, .unset, .unset, .unset, .unset, .unset, .unset, .unset] [(.int (own_bt xsel (6 : Int32)))])
      have J3 : ∀ (T3 : State) (v3 : Int32), v3 = (own_rb xsel xp xq) → Stand p l e room_1 s m #[(.long xn), (.long xy), (.int xp), (.int xq), (.int xr), (.int xsel)] below meth c T3 [] 0 0 → T3.heap = h0 → Goes p e below s (own_one n0) 3 13 T3 (mkF m 63 #[.val (.long xn), .second, .val (.long xy), .second, .val (.int xp), .val (.int xq), .val (.int xr), .val (.int xsel), .val (.int (xsel &&& (3 : Int32))), .val (.int (own_kb xsel)), .val (.long (own_nb xsel xn xy)), .second, .val (.long (own_yb xsel xn xy)), .second, .unset, .unset, .unset, .unset, .unset, .unset, .unset] [(.int v3)]) := by
        intro T3 v3 hv3 X3 e3
        subst hv3
        refine own_go (T' := T3) (g' := (mkF m 65 #[.val (.long xn), .second, .val (.long xy), .second, .val (.int xp), .val (.int xq), .val (.int xr), .val (.int xsel), .val (.int (xsel &&& (3 : Int32))), .val (.int (own_kb xsel)), .val (.long (own_nb xsel xn xy)), .second, .val (.long (own_yb xsel xn xy)), .second, .val (.int (own_rb xsel xp xq)), .unset, .unset, .unset, .unset, .unset, .unset] [])) (fun t_ K => XS.istore X3.here hx rfl (hb hby at_63) rfl (l' := #[.val (.long xn), .second, .val (.long xy), .second, .val (.int xp), .val (.int xq), .val (.int xr), .val (.int xsel), .val (.int (xsel &&& (3 : Int32))), .val (.int (own_kb xsel)), .val (.long (own_nb xsel xn xy)), .second, .val (.long (own_yb xsel xn xy)), .second, .val (.int (own_rb xsel xp xq)), .unset, .unset, .unset, .unset, .unset, .unset]) rfl K) ?_
        refine own_go (T' := T3) (g' := (mkF m 67 #[.val (.long xn), .second, .val (.long xy), .second, .val (.int xp), .val (.int xq), .val (.int xr), .val (.int xsel), .val (.int (xsel &&& (3 : Int32))), .val (.int (own_kb xsel)), .val (.long (own_nb xsel xn xy)), .second, .val (.long (own_yb xsel xn xy)), .second, .val (.int (own_rb xsel xp xq)), .unset, .unset, .unset, .unset, .unset, .unset] [(.int xsel)])) (fun t_ K => XS.iload X3.here hx rfl (hb hby at_65) rfl K) ?_
        refine own_go (T' := T3) (g' := (mkF m 69 #[.val (.long xn), .second, .val (.long xy), .second, .val (.int xp), .val (.int xq), .val (.int xr), .val (.int xsel), .val (.int (xsel &&& (3 : Int32))), .val (.int (own_kb xsel)), .val (.long (own_nb xsel xn xy)), .second, .val (.long (own_yb xsel xn xy)), .second, .val (.int (own_rb xsel xp xq)), .unset, .unset, .unset, .unset, .unset, .unset] [(.int (7 : Int32)), (.int xsel)])) (fun t_ K => XS.bipush X3.here hx rfl (hb hby at_67) K) ?_
        refine own_go (T' := T3) (g' := (mkF m 70 #[.val (.long xn), .second, .val (.long xy), .second, .val (.int xp), .val (.int xq), .val (.int xr), .val (.int xsel), .val (.int (xsel &&& (3 : Int32))), .val (.int (own_kb xsel)), .val (.long (own_nb xsel xn xy)), .second, .val (.long (own_yb xsel xn xy)), .second, .val (.int (own_rb xsel xp xq)), .unset, .unset, .unset, .unset, .unset, .unset] [(.int (XT.ushr xsel (7 : Int32)))])) (fun t_ K => XT.iushr X3.here hx rfl (hb hby at_69) rfl K) ?_
        refine own_go (T' := T3) (g' := (mkF m 71 #[.val (.long xn), .second, .val (.long xy), .second, .val (.int xp), .val (.int xq), .val (.int xr), .val (.int xsel), .val (.int (xsel &&& (3 : Int32))), .val (.int (own_kb xsel)), .val (.long (own_nb xsel xn xy)), .second, .val (.long (own_yb xsel xn xy)), .second, .val (.int (own_rb xsel xp xq)), .unset, .unset, .unset, .unset, .unset, .unset] [(.int (1 : Int32)), (.int (XT.ushr xsel (7 : Int32)))])) (fun t_ K => XS.iconst X3.here hx rfl (hb hby at_70) K) ?_
        refine own_go (T' := T3) (g' := (mkF m 72 #[.val (.long xn), .second, .val (.long xy), .second, .val (.int xp), .val (.int xq), .val (.int xr), .val (.int xsel), .val (.int (xsel &&& (3 : Int32))), .val (.int (own_kb xsel)), .val (.long (own_nb xsel xn xy)), .second, .val (.long (own_yb xsel xn xy)), .second, .val (.int (own_rb xsel xp xq)), .unset, .unset, .unset, .unset, .unset, .unset] [(.int ((XT.ushr xsel (7 : Int32)) &&& (1 : Int32)))])) (fun t_ K => XS.iand X3.here hx rfl (hb hby at_71) rfl K) ?_
        show Goes p e below s (own_one n0) 3 13 T3 (mkF m 72 #[.val (.long xn), .second, .val (.long xy), .second, .val (.int xp), .val (.int xq), .val (.int xr), .val (.int xsel), .val (.int (xsel &&& (3 : Int32))), .val (.int (own_kb xsel)), .val (.long (own_nb xsel xn xy)), .second, .val (.long (own_yb xsel xn xy)), .second, .val (.int (own_rb xsel xp xq)), .unset, .unset, .unset, .unset, .unset, .unset] [(.int (own_bt xsel (7 : Int32)))])
        have J4 : ∀ (T4 : State) (v4 : Int32), v4 = (own_sb xsel xq xr) → Stand p l e room_1 s m #[(.long xn), (.long xy), (.int xp), (.int xq), (.int xr), (.int xsel)] below meth c T4 [] 0 0 → T4.heap = h0 → Goes p e below s (own_one n0) 3 13 T4 (mkF m 82 #[.val (.long xn), .second, .val (.long xy), .second, .val (.int xp), .val (.int xq), .val (.int xr), .val (.int xsel), .val (.int (xsel &&& (3 : Int32))), .val (.int (own_kb xsel)), .val (.long (own_nb xsel xn xy)), .second, .val (.long (own_yb xsel xn xy)), .second, .val (.int (own_rb xsel xp xq)), .unset, .unset, .unset, .unset, .unset, .unset] [(.int v4)]) := by
          intro T4 v4 hv4 X4 e4
          subst hv4
          refine own_go (T' := T4) (g' := (mkF m 84 #[.val (.long xn), .second, .val (.long xy), .second, .val (.int xp), .val (.int xq), .val (.int xr), .val (.int xsel), .val (.int (xsel &&& (3 : Int32))), .val (.int (own_kb xsel)), .val (.long (own_nb xsel xn xy)), .second, .val (.long (own_yb xsel xn xy)), .second, .val (.int (own_rb xsel xp xq)), .val (.int (own_sb xsel xq xr)), .unset, .unset, .unset, .unset, .unset] [])) (fun t_ K => XS.istore X4.here hx rfl (hb hby at_82) rfl (l' := #[.val (.long xn), .second, .val (.long xy), .second, .val (.int xp), .val (.int xq), .val (.int xr), .val (.int xsel), .val (.int (xsel &&& (3 : Int32))), .val (.int (own_kb xsel)), .val (.long (own_nb xsel xn xy)), .second, .val (.long (own_yb xsel xn xy)), .second, .val (.int (own_rb xsel xp xq)), .val (.int (own_sb xsel xq xr)), .unset, .unset, .unset, .unset, .unset]) rfl K) ?_
          refine own_go (T' := T4) (g' := (mkF m 86 #[.val (.long xn), .second, .val (.long xy), .second, .val (.int xp), .val (.int xq), .val (.int xr), .val (.int xsel), .val (.int (xsel &&& (3 : Int32))), .val (.int (own_kb xsel)), .val (.long (own_nb xsel xn xy)), .second, .val (.long (own_yb xsel xn xy)), .second, .val (.int (own_rb xsel xp xq)), .val (.int (own_sb xsel xq xr)), .unset, .unset, .unset, .unset, .unset] [(.int xsel)])) (fun t_ K => XS.iload X4.here hx rfl (hb hby at_84) rfl K) ?_
          refine own_go (T' := T4) (g' := (mkF m 88 #[.val (.long xn), .second, .val (.long xy), .second, .val (.int xp), .val (.int xq), .val (.int xr), .val (.int xsel), .val (.int (xsel &&& (3 : Int32))), .val (.int (own_kb xsel)), .val (.long (own_nb xsel xn xy)), .second, .val (.long (own_yb xsel xn xy)), .second, .val (.int (own_rb xsel xp xq)), .val (.int (own_sb xsel xq xr)), .unset, .unset, .unset, .unset, .unset] [(.int (8 : Int32)), (.int xsel)])) (fun t_ K => XS.bipush X4.here hx rfl (hb hby at_86) K) ?_
          refine own_go (T' := T4) (g' := (mkF m 89 #[.val (.long xn), .second, .val (.long xy), .second, .val (.int xp), .val (.int xq), .val (.int xr), .val (.int xsel), .val (.int (xsel &&& (3 : Int32))), .val (.int (own_kb xsel)), .val (.long (own_nb xsel xn xy)), .second, .val (.long (own_yb xsel xn xy)), .second, .val (.int (own_rb xsel xp xq)), .val (.int (own_sb xsel xq xr)), .unset, .unset, .unset, .unset, .unset] [(.int (XT.ushr xsel (8 : Int32)))])) (fun t_ K => XT.iushr X4.here hx rfl (hb hby at_88) rfl K) ?_
          refine own_go (T' := T4) (g' := (mkF m 90 #[.val (.long xn), .second, .val (.long xy), .second, .val (.int xp), .val (.int xq), .val (.int xr), .val (.int xsel), .val (.int (xsel &&& (3 : Int32))), .val (.int (own_kb xsel)), .val (.long (own_nb xsel xn xy)), .second, .val (.long (own_yb xsel xn xy)), .second, .val (.int (own_rb xsel xp xq)), .val (.int (own_sb xsel xq xr)), .unset, .unset, .unset, .unset, .unset] [(.int (1 : Int32)), (.int (XT.ushr xsel (8 : Int32)))])) (fun t_ K => XS.iconst X4.here hx rfl (hb hby at_89) K) ?_
          refine own_go (T' := T4) (g' := (mkF m 91 #[.val (.long xn), .second, .val (.long xy), .second, .val (.int xp), .val (.int xq), .val (.int xr), .val (.int xsel), .val (.int (xsel &&& (3 : Int32))), .val (.int (own_kb xsel)), .val (.long (own_nb xsel xn xy)), .second, .val (.long (own_yb xsel xn xy)), .second, .val (.int (own_rb xsel xp xq)), .val (.int (own_sb xsel xq xr)), .unset, .unset, .unset, .unset, .unset] [(.int ((XT.ushr xsel (8 : Int32)) &&& (1 : Int32)))])) (fun t_ K => XS.iand X4.here hx rfl (hb hby at_90) rfl K) ?_
          show Goes p e below s (own_one n0) 3 13 T4 (mkF m 91 #[.val (.long xn), .second, .val (.long xy), .second, .val (.int xp), .val (.int xq), .val (.int xr), .val (.int xsel), .val (.int (xsel &&& (3 : Int32))), .val (.int (own_kb xsel)), .val (.long (own_nb xsel xn xy)), .second, .val (.long (own_yb xsel xn xy)), .second, .val (.int (own_rb xsel xp xq)), .val (.int (own_sb xsel xq xr)), .unset, .unset, .unset, .unset, .unset] [(.int (own_bt xsel (8 : Int32)))])
          have J5 : ∀ (T5 : State) (v5 : Int32), v5 = (own_lb xsel xp xr) → Stand p l e room_1 s m #[(.long xn), (.long xy), (.int xp), (.int xq), (.int xr), (.int xsel)] below meth c T5 [] 0 0 → T5.heap = h0 → Goes p e below s (own_one n0) 3 13 T5 (mkF m 101 #[.val (.long xn), .second, .val (.long xy), .second, .val (.int xp), .val (.int xq), .val (.int xr), .val (.int xsel), .val (.int (xsel &&& (3 : Int32))), .val (.int (own_kb xsel)), .val (.long (own_nb xsel xn xy)), .second, .val (.long (own_yb xsel xn xy)), .second, .val (.int (own_rb xsel xp xq)), .val (.int (own_sb xsel xq xr)), .unset, .unset, .unset, .unset, .unset] [(.int v5)]) := by
            intro T5 v5 hv5 X5 e5
            subst hv5
            refine own_go (T' := T5) (g' := (mkF m 103 #[.val (.long xn), .second, .val (.long xy), .second, .val (.int xp), .val (.int xq), .val (.int xr), .val (.int xsel), .val (.int (xsel &&& (3 : Int32))), .val (.int (own_kb xsel)), .val (.long (own_nb xsel xn xy)), .second, .val (.long (own_yb xsel xn xy)), .second, .val (.int (own_rb xsel xp xq)), .val (.int (own_sb xsel xq xr)), .val (.int (own_lb xsel xp xr)), .unset, .unset, .unset, .unset] [])) (fun t_ K => XS.istore X5.here hx rfl (hb hby at_101) rfl (l' := #[.val (.long xn), .second, .val (.long xy), .second, .val (.int xp), .val (.int xq), .val (.int xr), .val (.int xsel), .val (.int (xsel &&& (3 : Int32))), .val (.int (own_kb xsel)), .val (.long (own_nb xsel xn xy)), .second, .val (.long (own_yb xsel xn xy)), .second, .val (.int (own_rb xsel xp xq)), .val (.int (own_sb xsel xq xr)), .val (.int (own_lb xsel xp xr)), .unset, .unset, .unset, .unset]) rfl K) ?_
            obtain ⟨T6, h6, X6, e6, E6, A6, D6, -, st6⟩ := newO X5 hx hZ hown (hw _ (List.mem_of_getElem? (i := 0) rfl)) (hw _ (List.mem_of_getElem? (i := 1) rfl)) (hw _ (List.mem_of_getElem? (i := 2) rfl)) e5 (g := (mkF m 103 #[.val (.long xn), .second, .val (.long xy), .second, .val (.int xp), .val (.int xq), .val (.int xr), .val (.int xsel), .val (.int (xsel &&& (3 : Int32))), .val (.int (own_kb xsel)), .val (.long (own_nb xsel xn xy)), .second, .val (.long (own_yb xsel xn xy)), .second, .val (.int (own_rb xsel xp xq)), .val (.int (own_sb xsel xq xr)), .val (.int (own_lb xsel xp xr)), .unset, .unset, .unset, .unset] [])) rfl (hb hby at_103) (by decide) (by decide)
            obtain ⟨ad6, g6⟩ : ∃ z, z = h0.size := ⟨_, rfl⟩
            rw [← g6] at A6 D6 st6
            have gn_ad6 : n0 ≤ ad6 := Nat.le_trans Z0 (Nat.le_of_eq g6.symm)
            have S_k0_6 := S_k0.ext E6
            have S_k1_6 := S_k1.ext E6
            have S_k2_6 := S_k2.ext E6
            have S_k3_6 := S_k3.ext E6
            have SH_6 := SH.ext E6
            have SC_6 := SC.ext E6
            have Z0_6 : n0 ≤ h6.size := Nat.le_trans Z0 E6.1
            have F_kind_ad6 : Fld Z h6 ad6 "com/example/hosts_to_leader/hoststoleader/model/ElectionMessage" "kind" "Lcom/example/hosts_to_leader/hoststoleader/model/ElectionMessage$Kind;" .null := D6 (Or.inr (hw _ (List.mem_of_getElem? (i := 17) rfl))) (ty := (.object "com/example/hosts_to_leader/hoststoleader/model/ElectionMessage$Kind")) (by decide)
            have F_electionNumber_ad6 : Fld Z h6 ad6 "com/example/hosts_to_leader/hoststoleader/model/ElectionMessage" "electionNumber" "J" (.long (0 : Int64)) := D6 (Or.inr (hw _ (List.mem_of_getElem? (i := 19) rfl))) (ty := .long) (by decide)
            have F_electionKey_ad6 : Fld Z h6 ad6 "com/example/hosts_to_leader/hoststoleader/model/ElectionMessage" "electionKey" "J" (.long (0 : Int64)) := D6 (Or.inr (hw _ (List.mem_of_getElem? (i := 21) rfl))) (ty := .long) (by decide)
            have F_round_ad6 : Fld Z h6 ad6 "com/example/hosts_to_leader/hoststoleader/model/ElectionMessage" "round" "I" (.int (0 : Int32)) := D6 (Or.inr (hw _ (List.mem_of_getElem? (i := 23) rfl))) (ty := .int) (by decide)
            have F_sender_ad6 : Fld Z h6 ad6 "com/example/hosts_to_leader/hoststoleader/model/ElectionMessage" "sender" "I" (.int (0 : Int32)) := D6 (Or.inr (hw _ (List.mem_of_getElem? (i := 25) rfl))) (ty := .int) (by decide)
            have F_leader_ad6 : Fld Z h6 ad6 "com/example/hosts_to_leader/hoststoleader/model/ElectionMessage" "leader" "I" (.int (0 : Int32)) := D6 (Or.inr (hw _ (List.mem_of_getElem? (i := 27) rfl))) (ty := .int) (by decide)
            have CA_6 := own_cache_ext CA E6
            refine own_go (T' := T6) (g' := (mkF m 106 #[.val (.long xn), .second, .val (.long xy), .second, .val (.int xp), .val (.int xq), .val (.int xr), .val (.int xsel), .val (.int (xsel &&& (3 : Int32))), .val (.int (own_kb xsel)), .val (.long (own_nb xsel xn xy)), .second, .val (.long (own_yb xsel xn xy)), .second, .val (.int (own_rb xsel xp xq)), .val (.int (own_sb xsel xq xr)), .val (.int (own_lb xsel xp xr)), .unset, .unset, .unset, .unset] [(.ref ad6)])) (fun t_ K => st6 _ K) ?_
            refine own_go (T' := T6) (g' := (mkF m 107 #[.val (.long xn), .second, .val (.long xy), .second, .val (.int xp), .val (.int xq), .val (.int xr), .val (.int xsel), .val (.int (xsel &&& (3 : Int32))), .val (.int (own_kb xsel)), .val (.long (own_nb xsel xn xy)), .second, .val (.long (own_yb xsel xn xy)), .second, .val (.int (own_rb xsel xp xq)), .val (.int (own_sb xsel xq xr)), .val (.int (own_lb xsel xp xr)), .unset, .unset, .unset, .unset] [(.ref ad6), (.ref ad6)])) (fun t_ K => XS.dup X6.here hx rfl (hb hby at_106) rfl rfl K) ?_
            refine own_go (T' := T6) (g' := (mkF m 109 #[.val (.long xn), .second, .val (.long xy), .second, .val (.int xp), .val (.int xq), .val (.int xr), .val (.int xsel), .val (.int (xsel &&& (3 : Int32))), .val (.int (own_kb xsel)), .val (.long (own_nb xsel xn xy)), .second, .val (.long (own_yb xsel xn xy)), .second, .val (.int (own_rb xsel xp xq)), .val (.int (own_sb xsel xq xr)), .val (.int (own_lb xsel xp xr)), .unset, .unset, .unset, .unset] [(.int (xsel &&& (3 : Int32))), (.ref ad6), (.ref ad6)])) (fun t_ K => XS.iload X6.here hx rfl (hb hby at_107) rfl K) ?_
            obtain ⟨T7, X7, e7, st7⟩ := own_callS (W := 2) (rm := { frames := 0, cells := 0, slots := 0, locals := 0 }) X6 hx hZ hown (hw _ (List.mem_of_getElem? (i := 3) rfl)) (hw _ (List.mem_of_getElem? (i := 4) rfl)) (hw _ (List.mem_of_getElem? (i := 5) rfl)) (hw _ (List.mem_of_getElem? (i := 6) rfl)) (by decide) e6 (argsL := [(.int (xsel &&& (3 : Int32)))]) (rest := [(.ref ad6), (.ref ad6)]) (r := some (.ref (own_kind (xsel &&& (3 : Int32)) a_k0 a_k1 a_k2 a_k3))) (rm_kd l Z a0 hw (xsel &&& (3 : Int32)) a_k0 a_k1 a_k2 a_k3 h6 S_k0_6 S_k1_6 S_k2_6 S_k3_6) rfl rfl (by decide) (by decide) (by decide) (by decide) (g := (mkF m 109 #[.val (.long xn), .second, .val (.long xy), .second, .val (.int xp), .val (.int xq), .val (.int xr), .val (.int xsel), .val (.int (xsel &&& (3 : Int32))), .val (.int (own_kb xsel)), .val (.long (own_nb xsel xn xy)), .second, .val (.long (own_yb xsel xn xy)), .second, .val (.int (own_rb xsel xp xq)), .val (.int (own_sb xsel xq xr)), .val (.int (own_lb xsel xp xr)), .unset, .unset, .unset, .unset] [(.int (xsel &&& (3 : Int32))), (.ref ad6), (.ref ad6)])) rfl (by rw [hml]; rfl) (lenOf pd_2 rfl) rfl (by show 2 * 0 + _ ≤ _; exact Nat.le_of_eq rfl) (hb hby at_109)
            refine own_go (T' := T7) (g' := (mkF m 112 #[.val (.long xn), .second, .val (.long xy), .second, .val (.int xp), .val (.int xq), .val (.int xr), .val (.int xsel), .val (.int (xsel &&& (3 : Int32))), .val (.int (own_kb xsel)), .val (.long (own_nb xsel xn xy)), .second, .val (.long (own_yb xsel xn xy)), .second, .val (.int (own_rb xsel xp xq)), .val (.int (own_sb xsel xq xr)), .val (.int (own_lb xsel xp xr)), .unset, .unset, .unset, .unset] [(.ref (own_kind (xsel &&& (3 : Int32)) a_k0 a_k1 a_k2 a_k3)), (.ref ad6), (.ref ad6)])) (fun t_ K => st7 _ K) ?_
            refine own_go (T' := T7) (g' := (mkF m 113 #[.val (.long xn), .second, .val (.long xy), .second, .val (.int xp), .val (.int xq), .val (.int xr), .val (.int xsel), .val (.int (xsel &&& (3 : Int32))), .val (.int (own_kb xsel)), .val (.long (own_nb xsel xn xy)), .second, .val (.long (own_yb xsel xn xy)), .second, .val (.int (own_rb xsel xp xq)), .val (.int (own_sb xsel xq xr)), .val (.int (own_lb xsel xp xr)), .unset, .unset, .unset, .unset] [(.long xn), (.ref (own_kind (xsel &&& (3 : Int32)) a_k0 a_k1 a_k2 a_k3)), (.ref ad6), (.ref ad6)])) (fun t_ K => XS.lloadN X7.here hx rfl (hb hby at_112) rfl K) ?_
            refine own_go (T' := T7) (g' := (mkF m 114 #[.val (.long xn), .second, .val (.long xy), .second, .val (.int xp), .val (.int xq), .val (.int xr), .val (.int xsel), .val (.int (xsel &&& (3 : Int32))), .val (.int (own_kb xsel)), .val (.long (own_nb xsel xn xy)), .second, .val (.long (own_yb xsel xn xy)), .second, .val (.int (own_rb xsel xp xq)), .val (.int (own_sb xsel xq xr)), .val (.int (own_lb xsel xp xr)), .unset, .unset, .unset, .unset] [(.long xy), (.long xn), (.ref (own_kind (xsel &&& (3 : Int32)) a_k0 a_k1 a_k2 a_k3)), (.ref ad6), (.ref ad6)])) (fun t_ K => XS.lloadN X7.here hx rfl (hb hby at_113) rfl K) ?_
            refine own_go (T' := T7) (g' := (mkF m 116 #[.val (.long xn), .second, .val (.long xy), .second, .val (.int xp), .val (.int xq), .val (.int xr), .val (.int xsel), .val (.int (xsel &&& (3 : Int32))), .val (.int (own_kb xsel)), .val (.long (own_nb xsel xn xy)), .second, .val (.long (own_yb xsel xn xy)), .second, .val (.int (own_rb xsel xp xq)), .val (.int (own_sb xsel xq xr)), .val (.int (own_lb xsel xp xr)), .unset, .unset, .unset, .unset] [(.int xp), (.long xy), (.long xn), (.ref (own_kind (xsel &&& (3 : Int32)) a_k0 a_k1 a_k2 a_k3)), (.ref ad6), (.ref ad6)])) (fun t_ K => XS.iload X7.here hx rfl (hb hby at_114) rfl K) ?_
            refine own_go (T' := T7) (g' := (mkF m 118 #[.val (.long xn), .second, .val (.long xy), .second, .val (.int xp), .val (.int xq), .val (.int xr), .val (.int xsel), .val (.int (xsel &&& (3 : Int32))), .val (.int (own_kb xsel)), .val (.long (own_nb xsel xn xy)), .second, .val (.long (own_yb xsel xn xy)), .second, .val (.int (own_rb xsel xp xq)), .val (.int (own_sb xsel xq xr)), .val (.int (own_lb xsel xp xr)), .unset, .unset, .unset, .unset] [(.int xq), (.int xp), (.long xy), (.long xn), (.ref (own_kind (xsel &&& (3 : Int32)) a_k0 a_k1 a_k2 a_k3)), (.ref ad6), (.ref ad6)])) (fun t_ K => XS.iload X7.here hx rfl (hb hby at_116) rfl K) ?_
            refine own_go (T' := T7) (g' := (mkF m 120 #[.val (.long xn), .second, .val (.long xy), .second, .val (.int xp), .val (.int xq), .val (.int xr), .val (.int xsel), .val (.int (xsel &&& (3 : Int32))), .val (.int (own_kb xsel)), .val (.long (own_nb xsel xn xy)), .second, .val (.long (own_yb xsel xn xy)), .second, .val (.int (own_rb xsel xp xq)), .val (.int (own_sb xsel xq xr)), .val (.int (own_lb xsel xp xr)), .unset, .unset, .unset, .unset] [(.int xr), (.int xq), (.int xp), (.long xy), (.long xn), (.ref (own_kind (xsel &&& (3 : Int32)) a_k0 a_k1 a_k2 a_k3)), (.ref ad6), (.ref ad6)])) (fun t_ K => XS.iload X7.here hx rfl (hb hby at_118) rfl K) ?_
            obtain ⟨_, _, ⟨T8, L8, k8, n8⟩, -, X8, ⟨Lc8, hQ8, l8, y8, z8⟩, st8⟩ := X7.specialBack hx (y := (⟨"com/example/hosts_to_leader/hoststoleader/model/ElectionMessage", "<init>", "(Lcom/example/hosts_to_leader/hoststoleader/model/ElectionMessage$Kind;JJIII)V"⟩ : MethodName)) rfl hown (mvT hZ (hw _ (List.mem_of_getElem? (i := 10) rfl))) (mvT hZ (hw _ (List.mem_of_getElem? (i := 11) rfl))) (mvT hZ (hw _ (List.mem_of_getElem? (i := 12) rfl))) (by decide) (backOf (W := 1) (rm_ini l Z a0 hw ad6 (own_kind (xsel &&& (3 : Int32)) a_k0 a_k1 a_k2 a_k3) xn xy xp xq xr n0 h6 gn_ad6 A6 F_kind_ad6 F_electionNumber_ad6 F_electionKey_ad6 F_round_ad6 F_sender_ad6 F_leader_ad6) hZ (hw _ (List.mem_of_getElem? (i := 12) rfl)) (hw _ (List.mem_of_getElem? (i := 2) rfl)) (by decide) (by decide)) (g := (mkF m 120 #[.val (.long xn), .second, .val (.long xy), .second, .val (.int xp), .val (.int xq), .val (.int xr), .val (.int xsel), .val (.int (xsel &&& (3 : Int32))), .val (.int (own_kb xsel)), .val (.long (own_nb xsel xn xy)), .second, .val (.long (own_yb xsel xn xy)), .second, .val (.int (own_rb xsel xp xq)), .val (.int (own_sb xsel xq xr)), .val (.int (own_lb xsel xp xr)), .unset, .unset, .unset, .unset] [(.int xr), (.int xq), (.int xp), (.long xy), (.long xn), (.ref (own_kind (xsel &&& (3 : Int32)) a_k0 a_k1 a_k2 a_k3)), (.ref ad6), (.ref ad6)])) rfl (by rw [hml]; rfl) (Steps.refl _) (a := ad6) (argsL := [(.ref (own_kind (xsel &&& (3 : Int32)) a_k0 a_k1 a_k2 a_k3)), (.long xn), (.long xy), (.int xp), (.int xq), (.int xr)]) (rest := [(.ref ad6)]) (lenOf pd_3 rfl) rfl (by show 2 * 0 + _ ≤ _; exact Nat.le_of_eq rfl) (hb hby at_120) (fun _ _ => ⟨rfl, e7, (by decide : 1 + 0 ≤ _), (by decide : 6 + 0 ≤ _)⟩)
            dsimp only [Pt.U, Pt.locs, Pt.cells, Pt.slots] at X8 l8 y8 z8 st8 hQ8
            subst l8 y8 z8
            obtain ⟨rfl, N8q, K8, M8⟩ := hQ8
            have e8 : T8.heap = T8.heap := rfl
            have S_k0_8 := own_sta_keep S_k0_6 K8 A6
            have S_k1_8 := own_sta_keep S_k1_6 K8 A6
            have S_k2_8 := own_sta_keep S_k2_6 K8 A6
            have S_k3_8 := own_sta_keep S_k3_6 K8 A6
            have SH_8 := own_sta_keep SH_6 K8 A6
            have SC_8 := own_sta_keep SC_6 K8 A6
            have CA_8 := own_cache_keep CA_6 K8 (ninS (Nat.ne_of_lt (Nat.lt_of_lt_of_le hca gn_ad6)) nin0)
            have Z0_8 : n0 ≤ T8.heap.size := Nat.le_trans Z0_6 K8.1
            have N_8 := Fr.app N0 N8q
            refine own_tr (T' := T8) (g' := (mkF m 123 #[.val (.long xn), .second, .val (.long xy), .second, .val (.int xp), .val (.int xq), .val (.int xr), .val (.int xsel), .val (.int (xsel &&& (3 : Int32))), .val (.int (own_kb xsel)), .val (.long (own_nb xsel xn xy)), .second, .val (.long (own_yb xsel xn xy)), .second, .val (.int (own_rb xsel xp xq)), .val (.int (own_sb xsel xq xr)), .val (.int (own_lb xsel xp xr)), .unset, .unset, .unset, .unset] [(.ref ad6)])) st8 ?_
            refine own_go (T' := T8) (g' := (mkF m 125 #[.val (.long xn), .second, .val (.long xy), .second, .val (.int xp), .val (.int xq), .val (.int xr), .val (.int xsel), .val (.int (xsel &&& (3 : Int32))), .val (.int (own_kb xsel)), .val (.long (own_nb xsel xn xy)), .second, .val (.long (own_yb xsel xn xy)), .second, .val (.int (own_rb xsel xp xq)), .val (.int (own_sb xsel xq xr)), .val (.int (own_lb xsel xp xr)), .val (.ref ad6), .unset, .unset, .unset] [])) (fun t_ K => XS.astore X8.here hx rfl (hb hby at_123) rfl rfl (l' := #[.val (.long xn), .second, .val (.long xy), .second, .val (.int xp), .val (.int xq), .val (.int xr), .val (.int xsel), .val (.int (xsel &&& (3 : Int32))), .val (.int (own_kb xsel)), .val (.long (own_nb xsel xn xy)), .second, .val (.long (own_yb xsel xn xy)), .second, .val (.int (own_rb xsel xp xq)), .val (.int (own_sb xsel xq xr)), .val (.int (own_lb xsel xp xr)), .val (.ref ad6), .unset, .unset, .unset]) rfl K) ?_
            obtain ⟨T9, h9, X9, e9, E9, A9, D9, -, st9⟩ := newO X8 hx hZ hown (hw _ (List.mem_of_getElem? (i := 0) rfl)) (hw _ (List.mem_of_getElem? (i := 1) rfl)) (hw _ (List.mem_of_getElem? (i := 2) rfl)) e8 (g := (mkF m 125 #[.val (.long xn), .second, .val (.long xy), .second, .val (.int xp), .val (.int xq), .val (.int xr), .val (.int xsel), .val (.int (xsel &&& (3 : Int32))), .val (.int (own_kb xsel)), .val (.long (own_nb xsel xn xy)), .second, .val (.long (own_yb xsel xn xy)), .second, .val (.int (own_rb xsel xp xq)), .val (.int (own_sb xsel xq xr)), .val (.int (own_lb xsel xp xr)), .val (.ref ad6), .unset, .unset, .unset] [])) rfl (hb hby at_125) (by decide) (by decide)
            obtain ⟨ad9, g9⟩ : ∃ z, z = T8.heap.size := ⟨_, rfl⟩
            rw [← g9] at A9 D9 st9
            have gn_ad9 : n0 ≤ ad9 := Nat.le_trans Z0_8 (Nat.le_of_eq g9.symm)
            have ne_ad6_ad9 : ad6 ≠ ad9 := Nat.ne_of_lt (Nat.lt_of_lt_of_le M8.1.lt (Nat.le_of_eq g9.symm))
            have S_k0_9 := S_k0_8.ext E9
            have S_k1_9 := S_k1_8.ext E9
            have S_k2_9 := S_k2_8.ext E9
            have S_k3_9 := S_k3_8.ext E9
            have SH_9 := SH_8.ext E9
            have SC_9 := SC_8.ext E9
            have Z0_9 : n0 ≤ h9.size := Nat.le_trans Z0_8 E9.1
            have F_kind_ad9 : Fld Z h9 ad9 "com/example/hosts_to_leader/hoststoleader/model/ElectionMessage" "kind" "Lcom/example/hosts_to_leader/hoststoleader/model/ElectionMessage$Kind;" .null := D9 (Or.inr (hw _ (List.mem_of_getElem? (i := 17) rfl))) (ty := (.object "com/example/hosts_to_leader/hoststoleader/model/ElectionMessage$Kind")) (by decide)
            have F_electionNumber_ad9 : Fld Z h9 ad9 "com/example/hosts_to_leader/hoststoleader/model/ElectionMessage" "electionNumber" "J" (.long (0 : Int64)) := D9 (Or.inr (hw _ (List.mem_of_getElem? (i := 19) rfl))) (ty := .long) (by decide)
            have F_electionKey_ad9 : Fld Z h9 ad9 "com/example/hosts_to_leader/hoststoleader/model/ElectionMessage" "electionKey" "J" (.long (0 : Int64)) := D9 (Or.inr (hw _ (List.mem_of_getElem? (i := 21) rfl))) (ty := .long) (by decide)
            have F_round_ad9 : Fld Z h9 ad9 "com/example/hosts_to_leader/hoststoleader/model/ElectionMessage" "round" "I" (.int (0 : Int32)) := D9 (Or.inr (hw _ (List.mem_of_getElem? (i := 23) rfl))) (ty := .int) (by decide)
            have F_sender_ad9 : Fld Z h9 ad9 "com/example/hosts_to_leader/hoststoleader/model/ElectionMessage" "sender" "I" (.int (0 : Int32)) := D9 (Or.inr (hw _ (List.mem_of_getElem? (i := 25) rfl))) (ty := .int) (by decide)
            have F_leader_ad9 : Fld Z h9 ad9 "com/example/hosts_to_leader/hoststoleader/model/ElectionMessage" "leader" "I" (.int (0 : Int32)) := D9 (Or.inr (hw _ (List.mem_of_getElem? (i := 27) rfl))) (ty := .int) (by decide)
            have CA_9 := own_cache_ext CA_8 E9
            have M8_9 := own_msg_ext M8 E9
            refine own_go (T' := T9) (g' := (mkF m 128 #[.val (.long xn), .second, .val (.long xy), .second, .val (.int xp), .val (.int xq), .val (.int xr), .val (.int xsel), .val (.int (xsel &&& (3 : Int32))), .val (.int (own_kb xsel)), .val (.long (own_nb xsel xn xy)), .second, .val (.long (own_yb xsel xn xy)), .second, .val (.int (own_rb xsel xp xq)), .val (.int (own_sb xsel xq xr)), .val (.int (own_lb xsel xp xr)), .val (.ref ad6), .unset, .unset, .unset] [(.ref ad9)])) (fun t_ K => st9 _ K) ?_
            refine own_go (T' := T9) (g' := (mkF m 129 #[.val (.long xn), .second, .val (.long xy), .second, .val (.int xp), .val (.int xq), .val (.int xr), .val (.int xsel), .val (.int (xsel &&& (3 : Int32))), .val (.int (own_kb xsel)), .val (.long (own_nb xsel xn xy)), .second, .val (.long (own_yb xsel xn xy)), .second, .val (.int (own_rb xsel xp xq)), .val (.int (own_sb xsel xq xr)), .val (.int (own_lb xsel xp xr)), .val (.ref ad6), .unset, .unset, .unset] [(.ref ad9), (.ref ad9)])) (fun t_ K => XS.dup X9.here hx rfl (hb hby at_128) rfl rfl K) ?_
            refine own_go (T' := T9) (g' := (mkF m 131 #[.val (.long xn), .second, .val (.long xy), .second, .val (.int xp), .val (.int xq), .val (.int xr), .val (.int xsel), .val (.int (xsel &&& (3 : Int32))), .val (.int (own_kb xsel)), .val (.long (own_nb xsel xn xy)), .second, .val (.long (own_yb xsel xn xy)), .second, .val (.int (own_rb xsel xp xq)), .val (.int (own_sb xsel xq xr)), .val (.int (own_lb xsel xp xr)), .val (.ref ad6), .unset, .unset, .unset] [(.int (own_kb xsel)), (.ref ad9), (.ref ad9)])) (fun t_ K => XS.iload X9.here hx rfl (hb hby at_129) rfl K) ?_
            obtain ⟨T10, X10, e10, st10⟩ := own_callS (W := 2) (rm := { frames := 0, cells := 0, slots := 0, locals := 0 }) X9 hx hZ hown (hw _ (List.mem_of_getElem? (i := 3) rfl)) (hw _ (List.mem_of_getElem? (i := 4) rfl)) (hw _ (List.mem_of_getElem? (i := 5) rfl)) (hw _ (List.mem_of_getElem? (i := 6) rfl)) (by decide) e9 (argsL := [(.int (own_kb xsel))]) (rest := [(.ref ad9), (.ref ad9)]) (r := some (.ref (own_kind (own_kb xsel) a_k0 a_k1 a_k2 a_k3))) (rm_kd l Z a0 hw (own_kb xsel) a_k0 a_k1 a_k2 a_k3 h9 S_k0_9 S_k1_9 S_k2_9 S_k3_9) rfl rfl (by decide) (by decide) (by decide) (by decide) (g := (mkF m 131 #[.val (.long xn), .second, .val (.long xy), .second, .val (.int xp), .val (.int xq), .val (.int xr), .val (.int xsel), .val (.int (xsel &&& (3 : Int32))), .val (.int (own_kb xsel)), .val (.long (own_nb xsel xn xy)), .second, .val (.long (own_yb xsel xn xy)), .second, .val (.int (own_rb xsel xp xq)), .val (.int (own_sb xsel xq xr)), .val (.int (own_lb xsel xp xr)), .val (.ref ad6), .unset, .unset, .unset] [(.int (own_kb xsel)), (.ref ad9), (.ref ad9)])) rfl (by rw [hml]; rfl) (lenOf pd_2 rfl) rfl (by show 2 * 0 + _ ≤ _; exact Nat.le_of_eq rfl) (hb hby at_131)
            refine own_go (T' := T10) (g' := (mkF m 134 #[.val (.long xn), .second, .val (.long xy), .second, .val (.int xp), .val (.int xq), .val (.int xr), .val (.int xsel), .val (.int (xsel &&& (3 : Int32))), .val (.int (own_kb xsel)), .val (.long (own_nb xsel xn xy)), .second, .val (.long (own_yb xsel xn xy)), .second, .val (.int (own_rb xsel xp xq)), .val (.int (own_sb xsel xq xr)), .val (.int (own_lb xsel xp xr)), .val (.ref ad6), .unset, .unset, .unset] [(.ref (own_kind (own_kb xsel) a_k0 a_k1 a_k2 a_k3)), (.ref ad9), (.ref ad9)])) (fun t_ K => st10 _ K) ?_
            refine own_go (T' := T10) (g' := (mkF m 136 #[.val (.long xn), .second, .val (.long xy), .second, .val (.int xp), .val (.int xq), .val (.int xr), .val (.int xsel), .val (.int (xsel &&& (3 : Int32))), .val (.int (own_kb xsel)), .val (.long (own_nb xsel xn xy)), .second, .val (.long (own_yb xsel xn xy)), .second, .val (.int (own_rb xsel xp xq)), .val (.int (own_sb xsel xq xr)), .val (.int (own_lb xsel xp xr)), .val (.ref ad6), .unset, .unset, .unset] [(.long (own_nb xsel xn xy)), (.ref (own_kind (own_kb xsel) a_k0 a_k1 a_k2 a_k3)), (.ref ad9), (.ref ad9)])) (fun t_ K => XS.lload X10.here hx rfl (hb hby at_134) rfl K) ?_
            refine own_go (T' := T10) (g' := (mkF m 138 #[.val (.long xn), .second, .val (.long xy), .second, .val (.int xp), .val (.int xq), .val (.int xr), .val (.int xsel), .val (.int (xsel &&& (3 : Int32))), .val (.int (own_kb xsel)), .val (.long (own_nb xsel xn xy)), .second, .val (.long (own_yb xsel xn xy)), .second, .val (.int (own_rb xsel xp xq)), .val (.int (own_sb xsel xq xr)), .val (.int (own_lb xsel xp xr)), .val (.ref ad6), .unset, .unset, .unset] [(.long (own_yb xsel xn xy)), (.long (own_nb xsel xn xy)), (.ref (own_kind (own_kb xsel) a_k0 a_k1 a_k2 a_k3)), (.ref ad9), (.ref ad9)])) (fun t_ K => XS.lload X10.here hx rfl (hb hby at_136) rfl K) ?_
            refine own_go (T' := T10) (g' := (mkF m 140 #[.val (.long xn), .second, .val (.long xy), .second, .val (.int xp), .val (.int xq), .val (.int xr), .val (.int xsel), .val (.int (xsel &&& (3 : Int32))), .val (.int (own_kb xsel)), .val (.long (own_nb xsel xn xy)), .second, .val (.long (own_yb xsel xn xy)), .second, .val (.int (own_rb xsel xp xq)), .val (.int (own_sb xsel xq xr)), .val (.int (own_lb xsel xp xr)), .val (.ref ad6), .unset, .unset, .unset] [(.int (own_rb xsel xp xq)), (.long (own_yb xsel xn xy)), (.long (own_nb xsel xn xy)), (.ref (own_kind (own_kb xsel) a_k0 a_k1 a_k2 a_k3)), (.ref ad9), (.ref ad9)])) (fun t_ K => XS.iload X10.here hx rfl (hb hby at_138) rfl K) ?_
            refine own_go (T' := T10) (g' := (mkF m 142 #[.val (.long xn), .second, .val (.long xy), .second, .val (.int xp), .val (.int xq), .val (.int xr), .val (.int xsel), .val (.int (xsel &&& (3 : Int32))), .val (.int (own_kb xsel)), .val (.long (own_nb xsel xn xy)), .second, .val (.long (own_yb xsel xn xy)), .second, .val (.int (own_rb xsel xp xq)), .val (.int (own_sb xsel xq xr)), .val (.int (own_lb xsel xp xr)), .val (.ref ad6), .unset, .unset, .unset] [(.int (own_sb xsel xq xr)), (.int (own_rb xsel xp xq)), (.long (own_yb xsel xn xy)), (.long (own_nb xsel xn xy)), (.ref (own_kind (own_kb xsel) a_k0 a_k1 a_k2 a_k3)), (.ref ad9), (.ref ad9)])) (fun t_ K => XS.iload X10.here hx rfl (hb hby at_140) rfl K) ?_
            refine own_go (T' := T10) (g' := (mkF m 144 #[.val (.long xn), .second, .val (.long xy), .second, .val (.int xp), .val (.int xq), .val (.int xr), .val (.int xsel), .val (.int (xsel &&& (3 : Int32))), .val (.int (own_kb xsel)), .val (.long (own_nb xsel xn xy)), .second, .val (.long (own_yb xsel xn xy)), .second, .val (.int (own_rb xsel xp xq)), .val (.int (own_sb xsel xq xr)), .val (.int (own_lb xsel xp xr)), .val (.ref ad6), .unset, .unset, .unset] [(.int (own_lb xsel xp xr)), (.int (own_sb xsel xq xr)), (.int (own_rb xsel xp xq)), (.long (own_yb xsel xn xy)), (.long (own_nb xsel xn xy)), (.ref (own_kind (own_kb xsel) a_k0 a_k1 a_k2 a_k3)), (.ref ad9), (.ref ad9)])) (fun t_ K => XS.iload X10.here hx rfl (hb hby at_142) rfl K) ?_
            obtain ⟨_, _, ⟨T11, L11, k11, n11⟩, -, X11, ⟨Lc11, hQ11, l11, y11, z11⟩, st11⟩ := X10.specialBack hx (y := (⟨"com/example/hosts_to_leader/hoststoleader/model/ElectionMessage", "<init>", "(Lcom/example/hosts_to_leader/hoststoleader/model/ElectionMessage$Kind;JJIII)V"⟩ : MethodName)) rfl hown (mvT hZ (hw _ (List.mem_of_getElem? (i := 10) rfl))) (mvT hZ (hw _ (List.mem_of_getElem? (i := 11) rfl))) (mvT hZ (hw _ (List.mem_of_getElem? (i := 12) rfl))) (by decide) (backOf (W := 1) (rm_ini l Z a0 hw ad9 (own_kind (own_kb xsel) a_k0 a_k1 a_k2 a_k3) (own_nb xsel xn xy) (own_yb xsel xn xy) (own_rb xsel xp xq) (own_sb xsel xq xr) (own_lb xsel xp xr) n0 h9 gn_ad9 A9 F_kind_ad9 F_electionNumber_ad9 F_electionKey_ad9 F_round_ad9 F_sender_ad9 F_leader_ad9) hZ (hw _ (List.mem_of_getElem? (i := 12) rfl)) (hw _ (List.mem_of_getElem? (i := 2) rfl)) (by decide) (by decide)) (g := (mkF m 144 #[.val (.long xn), .second, .val (.long xy), .second, .val (.int xp), .val (.int xq), .val (.int xr), .val (.int xsel), .val (.int (xsel &&& (3 : Int32))), .val (.int (own_kb xsel)), .val (.long (own_nb xsel xn xy)), .second, .val (.long (own_yb xsel xn xy)), .second, .val (.int (own_rb xsel xp xq)), .val (.int (own_sb xsel xq xr)), .val (.int (own_lb xsel xp xr)), .val (.ref ad6), .unset, .unset, .unset] [(.int (own_lb xsel xp xr)), (.int (own_sb xsel xq xr)), (.int (own_rb xsel xp xq)), (.long (own_yb xsel xn xy)), (.long (own_nb xsel xn xy)), (.ref (own_kind (own_kb xsel) a_k0 a_k1 a_k2 a_k3)), (.ref ad9), (.ref ad9)])) rfl (by rw [hml]; rfl) (Steps.refl _) (a := ad9) (argsL := [(.ref (own_kind (own_kb xsel) a_k0 a_k1 a_k2 a_k3)), (.long (own_nb xsel xn xy)), (.long (own_yb xsel xn xy)), (.int (own_rb xsel xp xq)), (.int (own_sb xsel xq xr)), (.int (own_lb xsel xp xr))]) (rest := [(.ref ad9)]) (lenOf pd_3 rfl) rfl (by show 2 * 0 + _ ≤ _; exact Nat.le_of_eq rfl) (hb hby at_144) (fun _ _ => ⟨rfl, e10, (by decide : 2 + 0 ≤ _), (by decide : 12 + 0 ≤ _)⟩)
            dsimp only [Pt.U, Pt.locs, Pt.cells, Pt.slots] at X11 l11 y11 z11 st11 hQ11
            subst l11 y11 z11
            obtain ⟨rfl, N11q, K11, M11⟩ := hQ11
            have e11 : T11.heap = T11.heap := rfl
            have S_k0_11 := own_sta_keep S_k0_9 K11 A9
            have S_k1_11 := own_sta_keep S_k1_9 K11 A9
            have S_k2_11 := own_sta_keep S_k2_9 K11 A9
            have S_k3_11 := own_sta_keep S_k3_9 K11 A9
            have SH_11 := own_sta_keep SH_9 K11 A9
            have SC_11 := own_sta_keep SC_9 K11 A9
            have CA_11 := own_cache_keep CA_9 K11 (ninS (Nat.ne_of_lt (Nat.lt_of_lt_of_le hca gn_ad9)) nin0)
            have M8_11 := own_msg_keep M8_9 K11 (ninS ne_ad6_ad9 nin0)
            have Z0_11 : n0 ≤ T11.heap.size := Nat.le_trans Z0_9 K11.1
            have N_11 := Fr.app N_8 N11q
            refine own_tr (T' := T11) (g' := (mkF m 147 #[.val (.long xn), .second, .val (.long xy), .second, .val (.int xp), .val (.int xq), .val (.int xr), .val (.int xsel), .val (.int (xsel &&& (3 : Int32))), .val (.int (own_kb xsel)), .val (.long (own_nb xsel xn xy)), .second, .val (.long (own_yb xsel xn xy)), .second, .val (.int (own_rb xsel xp xq)), .val (.int (own_sb xsel xq xr)), .val (.int (own_lb xsel xp xr)), .val (.ref ad6), .unset, .unset, .unset] [(.ref ad9)])) st11 ?_
            refine own_go (T' := T11) (g' := (mkF m 149 #[.val (.long xn), .second, .val (.long xy), .second, .val (.int xp), .val (.int xq), .val (.int xr), .val (.int xsel), .val (.int (xsel &&& (3 : Int32))), .val (.int (own_kb xsel)), .val (.long (own_nb xsel xn xy)), .second, .val (.long (own_yb xsel xn xy)), .second, .val (.int (own_rb xsel xp xq)), .val (.int (own_sb xsel xq xr)), .val (.int (own_lb xsel xp xr)), .val (.ref ad6), .val (.ref ad9), .unset, .unset] [])) (fun t_ K => XS.astore X11.here hx rfl (hb hby at_147) rfl rfl (l' := #[.val (.long xn), .second, .val (.long xy), .second, .val (.int xp), .val (.int xq), .val (.int xr), .val (.int xsel), .val (.int (xsel &&& (3 : Int32))), .val (.int (own_kb xsel)), .val (.long (own_nb xsel xn xy)), .second, .val (.long (own_yb xsel xn xy)), .second, .val (.int (own_rb xsel xp xq)), .val (.int (own_sb xsel xq xr)), .val (.int (own_lb xsel xp xr)), .val (.ref ad6), .val (.ref ad9), .unset, .unset]) rfl K) ?_
            refine own_go (T' := T11) (g' := (mkF m 151 #[.val (.long xn), .second, .val (.long xy), .second, .val (.int xp), .val (.int xq), .val (.int xr), .val (.int xsel), .val (.int (xsel &&& (3 : Int32))), .val (.int (own_kb xsel)), .val (.long (own_nb xsel xn xy)), .second, .val (.long (own_yb xsel xn xy)), .second, .val (.int (own_rb xsel xp xq)), .val (.int (own_sb xsel xq xr)), .val (.int (own_lb xsel xp xr)), .val (.ref ad6), .val (.ref ad9), .unset, .unset] [(.int (xsel &&& (3 : Int32)))])) (fun t_ K => XS.iload X11.here hx rfl (hb hby at_149) rfl K) ?_
            refine own_go (T' := T11) (g' := (mkF m 153 #[.val (.long xn), .second, .val (.long xy), .second, .val (.int xp), .val (.int xq), .val (.int xr), .val (.int xsel), .val (.int (xsel &&& (3 : Int32))), .val (.int (own_kb xsel)), .val (.long (own_nb xsel xn xy)), .second, .val (.long (own_yb xsel xn xy)), .second, .val (.int (own_rb xsel xp xq)), .val (.int (own_sb xsel xq xr)), .val (.int (own_lb xsel xp xr)), .val (.ref ad6), .val (.ref ad9), .unset, .unset] [(.int (own_kb xsel)), (.int (xsel &&& (3 : Int32)))])) (fun t_ K => XS.iload X11.here hx rfl (hb hby at_151) rfl K) ?_
            have J12 : ∀ (T12 : State) (v12 : Int32), v12 = (own_exp (xsel &&& (3 : Int32)) (own_kb xsel) xn xy (own_nb xsel xn xy) (own_yb xsel xn xy) xp xq xr (own_rb xsel xp xq) (own_sb xsel xq xr) (own_lb xsel xp xr)) → Stand p l e room_1 s m #[(.long xn), (.long xy), (.int xp), (.int xq), (.int xr), (.int xsel)] below meth c T12 (L8 ++ Lc11) 2 12 → T12.heap = T11.heap → Goes p e below s (own_one n0) 3 13 T12 (mkF m 196 #[.val (.long xn), .second, .val (.long xy), .second, .val (.int xp), .val (.int xq), .val (.int xr), .val (.int xsel), .val (.int (xsel &&& (3 : Int32))), .val (.int (own_kb xsel)), .val (.long (own_nb xsel xn xy)), .second, .val (.long (own_yb xsel xn xy)), .second, .val (.int (own_rb xsel xp xq)), .val (.int (own_sb xsel xq xr)), .val (.int (own_lb xsel xp xr)), .val (.ref ad6), .val (.ref ad9), .unset, .unset] [(.int v12)]) := by
              intro T12 v12 hv12 X12 e12
              subst hv12
              refine own_go (T' := T12) (g' := (mkF m 198 #[.val (.long xn), .second, .val (.long xy), .second, .val (.int xp), .val (.int xq), .val (.int xr), .val (.int xsel), .val (.int (xsel &&& (3 : Int32))), .val (.int (own_kb xsel)), .val (.long (own_nb xsel xn xy)), .second, .val (.long (own_yb xsel xn xy)), .second, .val (.int (own_rb xsel xp xq)), .val (.int (own_sb xsel xq xr)), .val (.int (own_lb xsel xp xr)), .val (.ref ad6), .val (.ref ad9), .val (.int (own_exp (xsel &&& (3 : Int32)) (own_kb xsel) xn xy (own_nb xsel xn xy) (own_yb xsel xn xy) xp xq xr (own_rb xsel xp xq) (own_sb xsel xq xr) (own_lb xsel xp xr))), .unset] [])) (fun t_ K => XS.istore X12.here hx rfl (hb hby at_196) rfl (l' := #[.val (.long xn), .second, .val (.long xy), .second, .val (.int xp), .val (.int xq), .val (.int xr), .val (.int xsel), .val (.int (xsel &&& (3 : Int32))), .val (.int (own_kb xsel)), .val (.long (own_nb xsel xn xy)), .second, .val (.long (own_yb xsel xn xy)), .second, .val (.int (own_rb xsel xp xq)), .val (.int (own_sb xsel xq xr)), .val (.int (own_lb xsel xp xr)), .val (.ref ad6), .val (.ref ad9), .val (.int (own_exp (xsel &&& (3 : Int32)) (own_kb xsel) xn xy (own_nb xsel xn xy) (own_yb xsel xn xy) xp xq xr (own_rb xsel xp xq) (own_sb xsel xq xr) (own_lb xsel xp xr))), .unset]) rfl K) ?_
              refine own_go (T' := T12) (g' := (mkF m 200 #[.val (.long xn), .second, .val (.long xy), .second, .val (.int xp), .val (.int xq), .val (.int xr), .val (.int xsel), .val (.int (xsel &&& (3 : Int32))), .val (.int (own_kb xsel)), .val (.long (own_nb xsel xn xy)), .second, .val (.long (own_yb xsel xn xy)), .second, .val (.int (own_rb xsel xp xq)), .val (.int (own_sb xsel xq xr)), .val (.int (own_lb xsel xp xr)), .val (.ref ad6), .val (.ref ad9), .val (.int (own_exp (xsel &&& (3 : Int32)) (own_kb xsel) xn xy (own_nb xsel xn xy) (own_yb xsel xn xy) xp xq xr (own_rb xsel xp xq) (own_sb xsel xq xr) (own_lb xsel xp xr))), .unset] [(.int xp)])) (fun t_ K => XS.iload X12.here hx rfl (hb hby at_198) rfl K) ?_
              obtain ⟨_, _, ⟨T13, L13, k13, n13⟩, -, X13, ⟨Lc13, hQ13, l13, y13, z13⟩, st13⟩ := Jvm.LawKit.callS X12 hx (y := (⟨"java/lang/Integer", "valueOf", "(I)Ljava/lang/Integer;"⟩ : MethodName)) hown (mvT hZ (hw _ (List.mem_of_getElem? (i := 30) rfl))) (mvT hZ (hw _ (List.mem_of_getElem? (i := 31) rfl))) (mvT hZ (hw _ (List.mem_of_getElem? (i := 32) rfl))) (mvT hZ (hw _ (List.mem_of_getElem? (i := 33) rfl))) (by decide) (backOf (W := 0) (rm_vof l Z a0 hw xp ca n0 T11.heap Z0_11 SH_11 SC_11 CA_11) hZ (hw _ (List.mem_of_getElem? (i := 33) rfl)) (hw _ (List.mem_of_getElem? (i := 32) rfl)) (by decide) (by decide)) (g := (mkF m 200 #[.val (.long xn), .second, .val (.long xy), .second, .val (.int xp), .val (.int xq), .val (.int xr), .val (.int xsel), .val (.int (xsel &&& (3 : Int32))), .val (.int (own_kb xsel)), .val (.long (own_nb xsel xn xy)), .second, .val (.long (own_yb xsel xn xy)), .second, .val (.int (own_rb xsel xp xq)), .val (.int (own_sb xsel xq xr)), .val (.int (own_lb xsel xp xr)), .val (.ref ad6), .val (.ref ad9), .val (.int (own_exp (xsel &&& (3 : Int32)) (own_kb xsel) xn xy (own_nb xsel xn xy) (own_yb xsel xn xy) xp xq xr (own_rb xsel xp xq) (own_sb xsel xq xr) (own_lb xsel xp xr))), .unset] [(.int xp)])) rfl (by rw [hml]; rfl) (argsL := [(.int xp)]) (rest := []) (lenOf pd_4 rfl) rfl (by show 2 * 0 + _ ≤ _; exact Nat.le_of_eq rfl) (hb hby at_200) (fun _ _ => ⟨rfl, e12, (by decide : 2 + 1 ≤ _), (by decide : 12 + 1 ≤ _)⟩)
              dsimp only [Pt.U, Pt.locs, Pt.cells, Pt.slots] at X13 l13 y13 z13 st13 hQ13
              subst l13 y13 z13
              obtain ⟨⟨fo, rfl, Ef13⟩, N13q, K13⟩ := hQ13
              have e13 : T13.heap = T13.heap := rfl
              have M8_13 := own_msg_keep M8_11 K13 nin0
              have M11_13 := own_msg_keep M11 K13 nin0
              have N_13 := Fr.app N_11 N13q
              refine own_go (T' := T13) (g' := (mkF m 203 #[.val (.long xn), .second, .val (.long xy), .second, .val (.int xp), .val (.int xq), .val (.int xr), .val (.int xsel), .val (.int (xsel &&& (3 : Int32))), .val (.int (own_kb xsel)), .val (.long (own_nb xsel xn xy)), .second, .val (.long (own_yb xsel xn xy)), .second, .val (.int (own_rb xsel xp xq)), .val (.int (own_sb xsel xq xr)), .val (.int (own_lb xsel xp xr)), .val (.ref ad6), .val (.ref ad9), .val (.int (own_exp (xsel &&& (3 : Int32)) (own_kb xsel) xn xy (own_nb xsel xn xy) (own_yb xsel xn xy) xp xq xr (own_rb xsel xp xq) (own_sb xsel xq xr) (own_lb xsel xp xr))), .unset] [(.ref fo)])) (fun t_ K => st13 _ K) ?_
              refine own_go (T' := T13) (g' := (mkF m 205 #[.val (.long xn), .second, .val (.long xy), .second, .val (.int xp), .val (.int xq), .val (.int xr), .val (.int xsel), .val (.int (xsel &&& (3 : Int32))), .val (.int (own_kb xsel)), .val (.long (own_nb xsel xn xy)), .second, .val (.long (own_yb xsel xn xy)), .second, .val (.int (own_rb xsel xp xq)), .val (.int (own_sb xsel xq xr)), .val (.int (own_lb xsel xp xr)), .val (.ref ad6), .val (.ref ad9), .val (.int (own_exp (xsel &&& (3 : Int32)) (own_kb xsel) xn xy (own_nb xsel xn xy) (own_yb xsel xn xy) xp xq xr (own_rb xsel xp xq) (own_sb xsel xq xr) (own_lb xsel xp xr))), .val (.ref fo)] [])) (fun t_ K => XS.astore X13.here hx rfl (hb hby at_203) rfl rfl (l' := #[.val (.long xn), .second, .val (.long xy), .second, .val (.int xp), .val (.int xq), .val (.int xr), .val (.int xsel), .val (.int (xsel &&& (3 : Int32))), .val (.int (own_kb xsel)), .val (.long (own_nb xsel xn xy)), .second, .val (.long (own_yb xsel xn xy)), .second, .val (.int (own_rb xsel xp xq)), .val (.int (own_sb xsel xq xr)), .val (.int (own_lb xsel xp xr)), .val (.ref ad6), .val (.ref ad9), .val (.int (own_exp (xsel &&& (3 : Int32)) (own_kb xsel) xn xy (own_nb xsel xn xy) (own_yb xsel xn xy) xp xq xr (own_rb xsel xp xq) (own_sb xsel xq xr) (own_lb xsel xp xr))), .val (.ref fo)]) rfl K) ?_
              refine own_go (T' := T13) (g' := (mkF m 207 #[.val (.long xn), .second, .val (.long xy), .second, .val (.int xp), .val (.int xq), .val (.int xr), .val (.int xsel), .val (.int (xsel &&& (3 : Int32))), .val (.int (own_kb xsel)), .val (.long (own_nb xsel xn xy)), .second, .val (.long (own_yb xsel xn xy)), .second, .val (.int (own_rb xsel xp xq)), .val (.int (own_sb xsel xq xr)), .val (.int (own_lb xsel xp xr)), .val (.ref ad6), .val (.ref ad9), .val (.int (own_exp (xsel &&& (3 : Int32)) (own_kb xsel) xn xy (own_nb xsel xn xy) (own_yb xsel xn xy) xp xq xr (own_rb xsel xp xq) (own_sb xsel xq xr) (own_lb xsel xp xr))), .val (.ref fo)] [(.ref ad6)])) (fun t_ K => XS.aload X13.here hx rfl (hb hby at_205) rfl rfl K) ?_
              refine own_go (T' := T13) (g' := (mkF m 209 #[.val (.long xn), .second, .val (.long xy), .second, .val (.int xp), .val (.int xq), .val (.int xr), .val (.int xsel), .val (.int (xsel &&& (3 : Int32))), .val (.int (own_kb xsel)), .val (.long (own_nb xsel xn xy)), .second, .val (.long (own_yb xsel xn xy)), .second, .val (.int (own_rb xsel xp xq)), .val (.int (own_sb xsel xq xr)), .val (.int (own_lb xsel xp xr)), .val (.ref ad6), .val (.ref ad9), .val (.int (own_exp (xsel &&& (3 : Int32)) (own_kb xsel) xn xy (own_nb xsel xn xy) (own_yb xsel xn xy) xp xq xr (own_rb xsel xp xq) (own_sb xsel xq xr) (own_lb xsel xp xr))), .val (.ref fo)] [(.ref ad6), (.ref ad6)])) (fun t_ K => XS.aload X13.here hx rfl (hb hby at_207) rfl rfl K) ?_
              obtain ⟨T14, X14, e14, st14⟩ := own_callV (W := 0) (rm := { frames := 0, cells := 0, slots := 0, locals := 0 }) X13 hx hZ hown (hw _ (List.mem_of_getElem? (i := 37) rfl)) (hw _ (List.mem_of_getElem? (i := 38) rfl)) (hw _ (List.mem_of_getElem? (i := 40) rfl)) (notFace_of_selects (args := #[]) (mvT hZ (hw _ (List.mem_of_getElem? (i := 40) rfl)))) (hw _ (List.mem_of_getElem? (i := 39) rfl)) (hw _ (List.mem_of_getElem? (i := 2) rfl)) (hw _ (List.mem_of_getElem? (i := 41) rfl)) (by decide) e13 M8_13.1 (argsL := [(.ref ad6)]) (rest := []) (r := some (.int (own_eq (own_kind (xsel &&& (3 : Int32)) a_k0 a_k1 a_k2 a_k3) xn xy xp xq xr (own_kind (xsel &&& (3 : Int32)) a_k0 a_k1 a_k2 a_k3) xn xy xp xq xr))) (rm_eq l Z a0 hw ad6 ad6 (own_kind (xsel &&& (3 : Int32)) a_k0 a_k1 a_k2 a_k3) xn xy xp xq xr (own_kind (xsel &&& (3 : Int32)) a_k0 a_k1 a_k2 a_k3) xn xy xp xq xr T13.heap M8_13 M8_13) rfl rfl (by decide) (by decide) (by decide) (by decide) (g := (mkF m 209 #[.val (.long xn), .second, .val (.long xy), .second, .val (.int xp), .val (.int xq), .val (.int xr), .val (.int xsel), .val (.int (xsel &&& (3 : Int32))), .val (.int (own_kb xsel)), .val (.long (own_nb xsel xn xy)), .second, .val (.long (own_yb xsel xn xy)), .second, .val (.int (own_rb xsel xp xq)), .val (.int (own_sb xsel xq xr)), .val (.int (own_lb xsel xp xr)), .val (.ref ad6), .val (.ref ad9), .val (.int (own_exp (xsel &&& (3 : Int32)) (own_kb xsel) xn xy (own_nb xsel xn xy) (own_yb xsel xn xy) xp xq xr (own_rb xsel xp xq) (own_sb xsel xq xr) (own_lb xsel xp xr))), .val (.ref fo)] [(.ref ad6), (.ref ad6)])) rfl (by rw [hml]; rfl) (lenOf pd_5 rfl) rfl (by show 2 * 0 + _ ≤ _; exact Nat.le_of_eq rfl) (hb hby at_209)
              refine own_go (T' := T14) (g' := (mkF m 212 #[.val (.long xn), .second, .val (.long xy), .second, .val (.int xp), .val (.int xq), .val (.int xr), .val (.int xsel), .val (.int (xsel &&& (3 : Int32))), .val (.int (own_kb xsel)), .val (.long (own_nb xsel xn xy)), .second, .val (.long (own_yb xsel xn xy)), .second, .val (.int (own_rb xsel xp xq)), .val (.int (own_sb xsel xq xr)), .val (.int (own_lb xsel xp xr)), .val (.ref ad6), .val (.ref ad9), .val (.int (own_exp (xsel &&& (3 : Int32)) (own_kb xsel) xn xy (own_nb xsel xn xy) (own_yb xsel xn xy) xp xq xr (own_rb xsel xp xq) (own_sb xsel xq xr) (own_lb xsel xp xr))), .val (.ref fo)] [(.int (own_eq (own_kind (xsel &&& (3 : Int32)) a_k0 a_k1 a_k2 a_k3) xn xy xp xq xr (own_kind (xsel &&& (3 : Int32)) a_k0 a_k1 a_k2 a_k3) xn xy xp xq xr))])) (fun t_ K => st14 _ K) ?_
              refine own_go (T' := T14) (g' := (mkF m 215 #[.val (.long xn), .second, .val (.long xy), .second, .val (.int xp), .val (.int xq), .val (.int xr), .val (.int xsel), .val (.int (xsel &&& (3 : Int32))), .val (.int (own_kb xsel)), .val (.long (own_nb xsel xn xy)), .second, .val (.long (own_yb xsel xn xy)), .second, .val (.int (own_rb xsel xp xq)), .val (.int (own_sb xsel xq xr)), .val (.int (own_lb xsel xp xr)), .val (.ref ad6), .val (.ref ad9), .val (.int (own_exp (xsel &&& (3 : Int32)) (own_kb xsel) xn xy (own_nb xsel xn xy) (own_yb xsel xn xy) xp xq xr (own_rb xsel xp xq) (own_sb xsel xq xr) (own_lb xsel xp xr))), .val (.ref fo)] [])) (fun t_ K => XS.ifNo X14.here hx rfl (hb hby at_212) rfl ((if0 _ _).trans (feq (by rw [own_self]; decide)).1) K) ?_
              refine own_go (T' := T14) (g' := (mkF m 217 #[.val (.long xn), .second, .val (.long xy), .second, .val (.int xp), .val (.int xq), .val (.int xr), .val (.int xsel), .val (.int (xsel &&& (3 : Int32))), .val (.int (own_kb xsel)), .val (.long (own_nb xsel xn xy)), .second, .val (.long (own_yb xsel xn xy)), .second, .val (.int (own_rb xsel xp xq)), .val (.int (own_sb xsel xq xr)), .val (.int (own_lb xsel xp xr)), .val (.ref ad6), .val (.ref ad9), .val (.int (own_exp (xsel &&& (3 : Int32)) (own_kb xsel) xn xy (own_nb xsel xn xy) (own_yb xsel xn xy) xp xq xr (own_rb xsel xp xq) (own_sb xsel xq xr) (own_lb xsel xp xr))), .val (.ref fo)] [(.ref ad6)])) (fun t_ K => XS.aload X14.here hx rfl (hb hby at_215) rfl rfl K) ?_
              refine own_go (T' := T14) (g' := (mkF m 218 #[.val (.long xn), .second, .val (.long xy), .second, .val (.int xp), .val (.int xq), .val (.int xr), .val (.int xsel), .val (.int (xsel &&& (3 : Int32))), .val (.int (own_kb xsel)), .val (.long (own_nb xsel xn xy)), .second, .val (.long (own_yb xsel xn xy)), .second, .val (.int (own_rb xsel xp xq)), .val (.int (own_sb xsel xq xr)), .val (.int (own_lb xsel xp xr)), .val (.ref ad6), .val (.ref ad9), .val (.int (own_exp (xsel &&& (3 : Int32)) (own_kb xsel) xn xy (own_nb xsel xn xy) (own_yb xsel xn xy) xp xq xr (own_rb xsel xp xq) (own_sb xsel xq xr) (own_lb xsel xp xr))), .val (.ref fo)] [.null, (.ref ad6)])) (fun t_ K => XS.aconstNull X14.here hx rfl (hb hby at_217) K) ?_
              obtain ⟨T15, X15, e15, st15⟩ := own_callV (W := 0) (rm := { frames := 0, cells := 0, slots := 0, locals := 0 }) X14 hx hZ hown (hw _ (List.mem_of_getElem? (i := 37) rfl)) (hw _ (List.mem_of_getElem? (i := 38) rfl)) (hw _ (List.mem_of_getElem? (i := 40) rfl)) (notFace_of_selects (args := #[]) (mvT hZ (hw _ (List.mem_of_getElem? (i := 40) rfl)))) (hw _ (List.mem_of_getElem? (i := 39) rfl)) (hw _ (List.mem_of_getElem? (i := 2) rfl)) (hw _ (List.mem_of_getElem? (i := 41) rfl)) (by decide) e14 M8_13.1 (argsL := [.null]) (rest := []) (r := some (.int (0 : Int32))) (rm_eqn l Z a0 hw ad6 T13.heap) rfl rfl (by decide) (by decide) (by decide) (by decide) (g := (mkF m 218 #[.val (.long xn), .second, .val (.long xy), .second, .val (.int xp), .val (.int xq), .val (.int xr), .val (.int xsel), .val (.int (xsel &&& (3 : Int32))), .val (.int (own_kb xsel)), .val (.long (own_nb xsel xn xy)), .second, .val (.long (own_yb xsel xn xy)), .second, .val (.int (own_rb xsel xp xq)), .val (.int (own_sb xsel xq xr)), .val (.int (own_lb xsel xp xr)), .val (.ref ad6), .val (.ref ad9), .val (.int (own_exp (xsel &&& (3 : Int32)) (own_kb xsel) xn xy (own_nb xsel xn xy) (own_yb xsel xn xy) xp xq xr (own_rb xsel xp xq) (own_sb xsel xq xr) (own_lb xsel xp xr))), .val (.ref fo)] [.null, (.ref ad6)])) rfl (by rw [hml]; rfl) (lenOf pd_5 rfl) rfl (by show 2 * 0 + _ ≤ _; exact Nat.le_of_eq rfl) (hb hby at_218)
              refine own_go (T' := T15) (g' := (mkF m 221 #[.val (.long xn), .second, .val (.long xy), .second, .val (.int xp), .val (.int xq), .val (.int xr), .val (.int xsel), .val (.int (xsel &&& (3 : Int32))), .val (.int (own_kb xsel)), .val (.long (own_nb xsel xn xy)), .second, .val (.long (own_yb xsel xn xy)), .second, .val (.int (own_rb xsel xp xq)), .val (.int (own_sb xsel xq xr)), .val (.int (own_lb xsel xp xr)), .val (.ref ad6), .val (.ref ad9), .val (.int (own_exp (xsel &&& (3 : Int32)) (own_kb xsel) xn xy (own_nb xsel xn xy) (own_yb xsel xn xy) xp xq xr (own_rb xsel xp xq) (own_sb xsel xq xr) (own_lb xsel xp xr))), .val (.ref fo)] [(.int (0 : Int32))])) (fun t_ K => st15 _ K) ?_
              refine own_go (T' := T15) (g' := (mkF m 224 #[.val (.long xn), .second, .val (.long xy), .second, .val (.int xp), .val (.int xq), .val (.int xr), .val (.int xsel), .val (.int (xsel &&& (3 : Int32))), .val (.int (own_kb xsel)), .val (.long (own_nb xsel xn xy)), .second, .val (.long (own_yb xsel xn xy)), .second, .val (.int (own_rb xsel xp xq)), .val (.int (own_sb xsel xq xr)), .val (.int (own_lb xsel xp xr)), .val (.ref ad6), .val (.ref ad9), .val (.int (own_exp (xsel &&& (3 : Int32)) (own_kb xsel) xn xy (own_nb xsel xn xy) (own_yb xsel xn xy) xp xq xr (own_rb xsel xp xq) (own_sb xsel xq xr) (own_lb xsel xp xr))), .val (.ref fo)] [])) (fun t_ K => XS.ifNo X15.here hx rfl (hb hby at_221) rfl ((if0 _ _).trans (teq (by decide : (0 : Int32) = (0 : Int32))).2) K) ?_
              refine own_go (T' := T15) (g' := (mkF m 226 #[.val (.long xn), .second, .val (.long xy), .second, .val (.int xp), .val (.int xq), .val (.int xr), .val (.int xsel), .val (.int (xsel &&& (3 : Int32))), .val (.int (own_kb xsel)), .val (.long (own_nb xsel xn xy)), .second, .val (.long (own_yb xsel xn xy)), .second, .val (.int (own_rb xsel xp xq)), .val (.int (own_sb xsel xq xr)), .val (.int (own_lb xsel xp xr)), .val (.ref ad6), .val (.ref ad9), .val (.int (own_exp (xsel &&& (3 : Int32)) (own_kb xsel) xn xy (own_nb xsel xn xy) (own_yb xsel xn xy) xp xq xr (own_rb xsel xp xq) (own_sb xsel xq xr) (own_lb xsel xp xr))), .val (.ref fo)] [(.ref ad6)])) (fun t_ K => XS.aload X15.here hx rfl (hb hby at_224) rfl rfl K) ?_
              refine own_go (T' := T15) (g' := (mkF m 228 #[.val (.long xn), .second, .val (.long xy), .second, .val (.int xp), .val (.int xq), .val (.int xr), .val (.int xsel), .val (.int (xsel &&& (3 : Int32))), .val (.int (own_kb xsel)), .val (.long (own_nb xsel xn xy)), .second, .val (.long (own_yb xsel xn xy)), .second, .val (.int (own_rb xsel xp xq)), .val (.int (own_sb xsel xq xr)), .val (.int (own_lb xsel xp xr)), .val (.ref ad6), .val (.ref ad9), .val (.int (own_exp (xsel &&& (3 : Int32)) (own_kb xsel) xn xy (own_nb xsel xn xy) (own_yb xsel xn xy) xp xq xr (own_rb xsel xp xq) (own_sb xsel xq xr) (own_lb xsel xp xr))), .val (.ref fo)] [(.ref fo), (.ref ad6)])) (fun t_ K => XS.aload X15.here hx rfl (hb hby at_226) rfl rfl K) ?_
              obtain ⟨T16, X16, e16, st16⟩ := own_callV (W := 0) (rm := { frames := 0, cells := 0, slots := 0, locals := 0 }) X15 hx hZ hown (hw _ (List.mem_of_getElem? (i := 37) rfl)) (hw _ (List.mem_of_getElem? (i := 38) rfl)) (hw _ (List.mem_of_getElem? (i := 40) rfl)) (notFace_of_selects (args := #[]) (mvT hZ (hw _ (List.mem_of_getElem? (i := 40) rfl)))) (hw _ (List.mem_of_getElem? (i := 39) rfl)) (hw _ (List.mem_of_getElem? (i := 2) rfl)) (hw _ (List.mem_of_getElem? (i := 41) rfl)) (by decide) e15 M8_13.1 (argsL := [(.ref fo)]) (rest := []) (r := some (.int (0 : Int32))) (rm_eqi l Z a0 hw ad6 fo T13.heap Ef13) rfl rfl (by decide) (by decide) (by decide) (by decide) (g := (mkF m 228 #[.val (.long xn), .second, .val (.long xy), .second, .val (.int xp), .val (.int xq), .val (.int xr), .val (.int xsel), .val (.int (xsel &&& (3 : Int32))), .val (.int (own_kb xsel)), .val (.long (own_nb xsel xn xy)), .second, .val (.long (own_yb xsel xn xy)), .second, .val (.int (own_rb xsel xp xq)), .val (.int (own_sb xsel xq xr)), .val (.int (own_lb xsel xp xr)), .val (.ref ad6), .val (.ref ad9), .val (.int (own_exp (xsel &&& (3 : Int32)) (own_kb xsel) xn xy (own_nb xsel xn xy) (own_yb xsel xn xy) xp xq xr (own_rb xsel xp xq) (own_sb xsel xq xr) (own_lb xsel xp xr))), .val (.ref fo)] [(.ref fo), (.ref ad6)])) rfl (by rw [hml]; rfl) (lenOf pd_5 rfl) rfl (by show 2 * 0 + _ ≤ _; exact Nat.le_of_eq rfl) (hb hby at_228)
              refine own_go (T' := T16) (g' := (mkF m 231 #[.val (.long xn), .second, .val (.long xy), .second, .val (.int xp), .val (.int xq), .val (.int xr), .val (.int xsel), .val (.int (xsel &&& (3 : Int32))), .val (.int (own_kb xsel)), .val (.long (own_nb xsel xn xy)), .second, .val (.long (own_yb xsel xn xy)), .second, .val (.int (own_rb xsel xp xq)), .val (.int (own_sb xsel xq xr)), .val (.int (own_lb xsel xp xr)), .val (.ref ad6), .val (.ref ad9), .val (.int (own_exp (xsel &&& (3 : Int32)) (own_kb xsel) xn xy (own_nb xsel xn xy) (own_yb xsel xn xy) xp xq xr (own_rb xsel xp xq) (own_sb xsel xq xr) (own_lb xsel xp xr))), .val (.ref fo)] [(.int (0 : Int32))])) (fun t_ K => st16 _ K) ?_
              refine own_go (T' := T16) (g' := (mkF m 234 #[.val (.long xn), .second, .val (.long xy), .second, .val (.int xp), .val (.int xq), .val (.int xr), .val (.int xsel), .val (.int (xsel &&& (3 : Int32))), .val (.int (own_kb xsel)), .val (.long (own_nb xsel xn xy)), .second, .val (.long (own_yb xsel xn xy)), .second, .val (.int (own_rb xsel xp xq)), .val (.int (own_sb xsel xq xr)), .val (.int (own_lb xsel xp xr)), .val (.ref ad6), .val (.ref ad9), .val (.int (own_exp (xsel &&& (3 : Int32)) (own_kb xsel) xn xy (own_nb xsel xn xy) (own_yb xsel xn xy) xp xq xr (own_rb xsel xp xq) (own_sb xsel xq xr) (own_lb xsel xp xr))), .val (.ref fo)] [])) (fun t_ K => XS.ifNo X16.here hx rfl (hb hby at_231) rfl ((if0 _ _).trans (teq (by decide : (0 : Int32) = (0 : Int32))).2) K) ?_
              refine own_go (T' := T16) (g' := (mkF m 236 #[.val (.long xn), .second, .val (.long xy), .second, .val (.int xp), .val (.int xq), .val (.int xr), .val (.int xsel), .val (.int (xsel &&& (3 : Int32))), .val (.int (own_kb xsel)), .val (.long (own_nb xsel xn xy)), .second, .val (.long (own_yb xsel xn xy)), .second, .val (.int (own_rb xsel xp xq)), .val (.int (own_sb xsel xq xr)), .val (.int (own_lb xsel xp xr)), .val (.ref ad6), .val (.ref ad9), .val (.int (own_exp (xsel &&& (3 : Int32)) (own_kb xsel) xn xy (own_nb xsel xn xy) (own_yb xsel xn xy) xp xq xr (own_rb xsel xp xq) (own_sb xsel xq xr) (own_lb xsel xp xr))), .val (.ref fo)] [(.ref ad6)])) (fun t_ K => XS.aload X16.here hx rfl (hb hby at_234) rfl rfl K) ?_
              refine own_go (T' := T16) (g' := (mkF m 238 #[.val (.long xn), .second, .val (.long xy), .second, .val (.int xp), .val (.int xq), .val (.int xr), .val (.int xsel), .val (.int (xsel &&& (3 : Int32))), .val (.int (own_kb xsel)), .val (.long (own_nb xsel xn xy)), .second, .val (.long (own_yb xsel xn xy)), .second, .val (.int (own_rb xsel xp xq)), .val (.int (own_sb xsel xq xr)), .val (.int (own_lb xsel xp xr)), .val (.ref ad6), .val (.ref ad9), .val (.int (own_exp (xsel &&& (3 : Int32)) (own_kb xsel) xn xy (own_nb xsel xn xy) (own_yb xsel xn xy) xp xq xr (own_rb xsel xp xq) (own_sb xsel xq xr) (own_lb xsel xp xr))), .val (.ref fo)] [(.ref ad9), (.ref ad6)])) (fun t_ K => XS.aload X16.here hx rfl (hb hby at_236) rfl rfl K) ?_
              obtain ⟨T17, X17, e17, st17⟩ := own_callV (W := 0) (rm := { frames := 0, cells := 0, slots := 0, locals := 0 }) X16 hx hZ hown (hw _ (List.mem_of_getElem? (i := 37) rfl)) (hw _ (List.mem_of_getElem? (i := 38) rfl)) (hw _ (List.mem_of_getElem? (i := 40) rfl)) (notFace_of_selects (args := #[]) (mvT hZ (hw _ (List.mem_of_getElem? (i := 40) rfl)))) (hw _ (List.mem_of_getElem? (i := 39) rfl)) (hw _ (List.mem_of_getElem? (i := 2) rfl)) (hw _ (List.mem_of_getElem? (i := 41) rfl)) (by decide) e16 M8_13.1 (argsL := [(.ref ad9)]) (rest := []) (r := some (.int (own_eq (own_kind (xsel &&& (3 : Int32)) a_k0 a_k1 a_k2 a_k3) xn xy xp xq xr (own_kind (own_kb xsel) a_k0 a_k1 a_k2 a_k3) (own_nb xsel xn xy) (own_yb xsel xn xy) (own_rb xsel xp xq) (own_sb xsel xq xr) (own_lb xsel xp xr)))) (rm_eq l Z a0 hw ad6 ad9 (own_kind (xsel &&& (3 : Int32)) a_k0 a_k1 a_k2 a_k3) xn xy xp xq xr (own_kind (own_kb xsel) a_k0 a_k1 a_k2 a_k3) (own_nb xsel xn xy) (own_yb xsel xn xy) (own_rb xsel xp xq) (own_sb xsel xq xr) (own_lb xsel xp xr) T13.heap M8_13 M11_13) rfl rfl (by decide) (by decide) (by decide) (by decide) (g := (mkF m 238 #[.val (.long xn), .second, .val (.long xy), .second, .val (.int xp), .val (.int xq), .val (.int xr), .val (.int xsel), .val (.int (xsel &&& (3 : Int32))), .val (.int (own_kb xsel)), .val (.long (own_nb xsel xn xy)), .second, .val (.long (own_yb xsel xn xy)), .second, .val (.int (own_rb xsel xp xq)), .val (.int (own_sb xsel xq xr)), .val (.int (own_lb xsel xp xr)), .val (.ref ad6), .val (.ref ad9), .val (.int (own_exp (xsel &&& (3 : Int32)) (own_kb xsel) xn xy (own_nb xsel xn xy) (own_yb xsel xn xy) xp xq xr (own_rb xsel xp xq) (own_sb xsel xq xr) (own_lb xsel xp xr))), .val (.ref fo)] [(.ref ad9), (.ref ad6)])) rfl (by rw [hml]; rfl) (lenOf pd_5 rfl) rfl (by show 2 * 0 + _ ≤ _; exact Nat.le_of_eq rfl) (hb hby at_238)
              refine own_go (T' := T17) (g' := (mkF m 241 #[.val (.long xn), .second, .val (.long xy), .second, .val (.int xp), .val (.int xq), .val (.int xr), .val (.int xsel), .val (.int (xsel &&& (3 : Int32))), .val (.int (own_kb xsel)), .val (.long (own_nb xsel xn xy)), .second, .val (.long (own_yb xsel xn xy)), .second, .val (.int (own_rb xsel xp xq)), .val (.int (own_sb xsel xq xr)), .val (.int (own_lb xsel xp xr)), .val (.ref ad6), .val (.ref ad9), .val (.int (own_exp (xsel &&& (3 : Int32)) (own_kb xsel) xn xy (own_nb xsel xn xy) (own_yb xsel xn xy) xp xq xr (own_rb xsel xp xq) (own_sb xsel xq xr) (own_lb xsel xp xr))), .val (.ref fo)] [(.int (own_eq (own_kind (xsel &&& (3 : Int32)) a_k0 a_k1 a_k2 a_k3) xn xy xp xq xr (own_kind (own_kb xsel) a_k0 a_k1 a_k2 a_k3) (own_nb xsel xn xy) (own_yb xsel xn xy) (own_rb xsel xp xq) (own_sb xsel xq xr) (own_lb xsel xp xr)))])) (fun t_ K => st17 _ K) ?_
              refine own_go (T' := T17) (g' := (mkF m 243 #[.val (.long xn), .second, .val (.long xy), .second, .val (.int xp), .val (.int xq), .val (.int xr), .val (.int xsel), .val (.int (xsel &&& (3 : Int32))), .val (.int (own_kb xsel)), .val (.long (own_nb xsel xn xy)), .second, .val (.long (own_yb xsel xn xy)), .second, .val (.int (own_rb xsel xp xq)), .val (.int (own_sb xsel xq xr)), .val (.int (own_lb xsel xp xr)), .val (.ref ad6), .val (.ref ad9), .val (.int (own_exp (xsel &&& (3 : Int32)) (own_kb xsel) xn xy (own_nb xsel xn xy) (own_yb xsel xn xy) xp xq xr (own_rb xsel xp xq) (own_sb xsel xq xr) (own_lb xsel xp xr))), .val (.ref fo)] [(.int (own_exp (xsel &&& (3 : Int32)) (own_kb xsel) xn xy (own_nb xsel xn xy) (own_yb xsel xn xy) xp xq xr (own_rb xsel xp xq) (own_sb xsel xq xr) (own_lb xsel xp xr))), (.int (own_eq (own_kind (xsel &&& (3 : Int32)) a_k0 a_k1 a_k2 a_k3) xn xy xp xq xr (own_kind (own_kb xsel) a_k0 a_k1 a_k2 a_k3) (own_nb xsel xn xy) (own_yb xsel xn xy) (own_rb xsel xp xq) (own_sb xsel xq xr) (own_lb xsel xp xr)))])) (fun t_ K => XS.iload X17.here hx rfl (hb hby at_241) rfl K) ?_
              refine own_go (T' := T17) (g' := (mkF m 246 #[.val (.long xn), .second, .val (.long xy), .second, .val (.int xp), .val (.int xq), .val (.int xr), .val (.int xsel), .val (.int (xsel &&& (3 : Int32))), .val (.int (own_kb xsel)), .val (.long (own_nb xsel xn xy)), .second, .val (.long (own_yb xsel xn xy)), .second, .val (.int (own_rb xsel xp xq)), .val (.int (own_sb xsel xq xr)), .val (.int (own_lb xsel xp xr)), .val (.ref ad6), .val (.ref ad9), .val (.int (own_exp (xsel &&& (3 : Int32)) (own_kb xsel) xn xy (own_nb xsel xn xy) (own_yb xsel xn xy) xp xq xr (own_rb xsel xp xq) (own_sb xsel xq xr) (own_lb xsel xp xr))), .val (.ref fo)] [])) (fun t_ K => XS.icmpNo X17.here hx rfl (hb hby at_243) rfl (teq (own_ab (own_kinj xsel (XT.ushr xsel (2 : Int32)) a_k0 a_k1 a_k2 a_k3 n_k0_k1 n_k0_k2 n_k0_k3 n_k1_k2 n_k1_k3 n_k2_k3) xn xy (own_nb xsel xn xy) (own_yb xsel xn xy) xp xq xr (own_rb xsel xp xq) (own_sb xsel xq xr) (own_lb xsel xp xr))).2 K) ?_
              refine own_go (T' := T17) (g' := (mkF m 248 #[.val (.long xn), .second, .val (.long xy), .second, .val (.int xp), .val (.int xq), .val (.int xr), .val (.int xsel), .val (.int (xsel &&& (3 : Int32))), .val (.int (own_kb xsel)), .val (.long (own_nb xsel xn xy)), .second, .val (.long (own_yb xsel xn xy)), .second, .val (.int (own_rb xsel xp xq)), .val (.int (own_sb xsel xq xr)), .val (.int (own_lb xsel xp xr)), .val (.ref ad6), .val (.ref ad9), .val (.int (own_exp (xsel &&& (3 : Int32)) (own_kb xsel) xn xy (own_nb xsel xn xy) (own_yb xsel xn xy) xp xq xr (own_rb xsel xp xq) (own_sb xsel xq xr) (own_lb xsel xp xr))), .val (.ref fo)] [(.ref ad9)])) (fun t_ K => XS.aload X17.here hx rfl (hb hby at_246) rfl rfl K) ?_
              refine own_go (T' := T17) (g' := (mkF m 250 #[.val (.long xn), .second, .val (.long xy), .second, .val (.int xp), .val (.int xq), .val (.int xr), .val (.int xsel), .val (.int (xsel &&& (3 : Int32))), .val (.int (own_kb xsel)), .val (.long (own_nb xsel xn xy)), .second, .val (.long (own_yb xsel xn xy)), .second, .val (.int (own_rb xsel xp xq)), .val (.int (own_sb xsel xq xr)), .val (.int (own_lb xsel xp xr)), .val (.ref ad6), .val (.ref ad9), .val (.int (own_exp (xsel &&& (3 : Int32)) (own_kb xsel) xn xy (own_nb xsel xn xy) (own_yb xsel xn xy) xp xq xr (own_rb xsel xp xq) (own_sb xsel xq xr) (own_lb xsel xp xr))), .val (.ref fo)] [(.ref ad6), (.ref ad9)])) (fun t_ K => XS.aload X17.here hx rfl (hb hby at_248) rfl rfl K) ?_
              obtain ⟨T18, X18, e18, st18⟩ := own_callV (W := 0) (rm := { frames := 0, cells := 0, slots := 0, locals := 0 }) X17 hx hZ hown (hw _ (List.mem_of_getElem? (i := 37) rfl)) (hw _ (List.mem_of_getElem? (i := 38) rfl)) (hw _ (List.mem_of_getElem? (i := 40) rfl)) (notFace_of_selects (args := #[]) (mvT hZ (hw _ (List.mem_of_getElem? (i := 40) rfl)))) (hw _ (List.mem_of_getElem? (i := 39) rfl)) (hw _ (List.mem_of_getElem? (i := 2) rfl)) (hw _ (List.mem_of_getElem? (i := 41) rfl)) (by decide) e17 M11_13.1 (argsL := [(.ref ad6)]) (rest := []) (r := some (.int (own_eq (own_kind (own_kb xsel) a_k0 a_k1 a_k2 a_k3) (own_nb xsel xn xy) (own_yb xsel xn xy) (own_rb xsel xp xq) (own_sb xsel xq xr) (own_lb xsel xp xr) (own_kind (xsel &&& (3 : Int32)) a_k0 a_k1 a_k2 a_k3) xn xy xp xq xr))) (rm_eq l Z a0 hw ad9 ad6 (own_kind (own_kb xsel) a_k0 a_k1 a_k2 a_k3) (own_nb xsel xn xy) (own_yb xsel xn xy) (own_rb xsel xp xq) (own_sb xsel xq xr) (own_lb xsel xp xr) (own_kind (xsel &&& (3 : Int32)) a_k0 a_k1 a_k2 a_k3) xn xy xp xq xr T13.heap M11_13 M8_13) rfl rfl (by decide) (by decide) (by decide) (by decide) (g := (mkF m 250 #[.val (.long xn), .second, .val (.long xy), .second, .val (.int xp), .val (.int xq), .val (.int xr), .val (.int xsel), .val (.int (xsel &&& (3 : Int32))), .val (.int (own_kb xsel)), .val (.long (own_nb xsel xn xy)), .second, .val (.long (own_yb xsel xn xy)), .second, .val (.int (own_rb xsel xp xq)), .val (.int (own_sb xsel xq xr)), .val (.int (own_lb xsel xp xr)), .val (.ref ad6), .val (.ref ad9), .val (.int (own_exp (xsel &&& (3 : Int32)) (own_kb xsel) xn xy (own_nb xsel xn xy) (own_yb xsel xn xy) xp xq xr (own_rb xsel xp xq) (own_sb xsel xq xr) (own_lb xsel xp xr))), .val (.ref fo)] [(.ref ad6), (.ref ad9)])) rfl (by rw [hml]; rfl) (lenOf pd_5 rfl) rfl (by show 2 * 0 + _ ≤ _; exact Nat.le_of_eq rfl) (hb hby at_250)
              refine own_go (T' := T18) (g' := (mkF m 253 #[.val (.long xn), .second, .val (.long xy), .second, .val (.int xp), .val (.int xq), .val (.int xr), .val (.int xsel), .val (.int (xsel &&& (3 : Int32))), .val (.int (own_kb xsel)), .val (.long (own_nb xsel xn xy)), .second, .val (.long (own_yb xsel xn xy)), .second, .val (.int (own_rb xsel xp xq)), .val (.int (own_sb xsel xq xr)), .val (.int (own_lb xsel xp xr)), .val (.ref ad6), .val (.ref ad9), .val (.int (own_exp (xsel &&& (3 : Int32)) (own_kb xsel) xn xy (own_nb xsel xn xy) (own_yb xsel xn xy) xp xq xr (own_rb xsel xp xq) (own_sb xsel xq xr) (own_lb xsel xp xr))), .val (.ref fo)] [(.int (own_eq (own_kind (own_kb xsel) a_k0 a_k1 a_k2 a_k3) (own_nb xsel xn xy) (own_yb xsel xn xy) (own_rb xsel xp xq) (own_sb xsel xq xr) (own_lb xsel xp xr) (own_kind (xsel &&& (3 : Int32)) a_k0 a_k1 a_k2 a_k3) xn xy xp xq xr))])) (fun t_ K => st18 _ K) ?_
              refine own_go (T' := T18) (g' := (mkF m 255 #[.val (.long xn), .second, .val (.long xy), .second, .val (.int xp), .val (.int xq), .val (.int xr), .val (.int xsel), .val (.int (xsel &&& (3 : Int32))), .val (.int (own_kb xsel)), .val (.long (own_nb xsel xn xy)), .second, .val (.long (own_yb xsel xn xy)), .second, .val (.int (own_rb xsel xp xq)), .val (.int (own_sb xsel xq xr)), .val (.int (own_lb xsel xp xr)), .val (.ref ad6), .val (.ref ad9), .val (.int (own_exp (xsel &&& (3 : Int32)) (own_kb xsel) xn xy (own_nb xsel xn xy) (own_yb xsel xn xy) xp xq xr (own_rb xsel xp xq) (own_sb xsel xq xr) (own_lb xsel xp xr))), .val (.ref fo)] [(.int (own_exp (xsel &&& (3 : Int32)) (own_kb xsel) xn xy (own_nb xsel xn xy) (own_yb xsel xn xy) xp xq xr (own_rb xsel xp xq) (own_sb xsel xq xr) (own_lb xsel xp xr))), (.int (own_eq (own_kind (own_kb xsel) a_k0 a_k1 a_k2 a_k3) (own_nb xsel xn xy) (own_yb xsel xn xy) (own_rb xsel xp xq) (own_sb xsel xq xr) (own_lb xsel xp xr) (own_kind (xsel &&& (3 : Int32)) a_k0 a_k1 a_k2 a_k3) xn xy xp xq xr))])) (fun t_ K => XS.iload X18.here hx rfl (hb hby at_253) rfl K) ?_
              refine own_go (T' := T18) (g' := (mkF m 258 #[.val (.long xn), .second, .val (.long xy), .second, .val (.int xp), .val (.int xq), .val (.int xr), .val (.int xsel), .val (.int (xsel &&& (3 : Int32))), .val (.int (own_kb xsel)), .val (.long (own_nb xsel xn xy)), .second, .val (.long (own_yb xsel xn xy)), .second, .val (.int (own_rb xsel xp xq)), .val (.int (own_sb xsel xq xr)), .val (.int (own_lb xsel xp xr)), .val (.ref ad6), .val (.ref ad9), .val (.int (own_exp (xsel &&& (3 : Int32)) (own_kb xsel) xn xy (own_nb xsel xn xy) (own_yb xsel xn xy) xp xq xr (own_rb xsel xp xq) (own_sb xsel xq xr) (own_lb xsel xp xr))), .val (.ref fo)] [])) (fun t_ K => XS.icmpNo X18.here hx rfl (hb hby at_255) rfl (teq (own_ba (own_kinj xsel (XT.ushr xsel (2 : Int32)) a_k0 a_k1 a_k2 a_k3 n_k0_k1 n_k0_k2 n_k0_k3 n_k1_k2 n_k1_k3 n_k2_k3) xn xy (own_nb xsel xn xy) (own_yb xsel xn xy) xp xq xr (own_rb xsel xp xq) (own_sb xsel xq xr) (own_lb xsel xp xr))).2 K) ?_
              refine own_go (T' := T18) (g' := (mkF m 259 #[.val (.long xn), .second, .val (.long xy), .second, .val (.int xp), .val (.int xq), .val (.int xr), .val (.int xsel), .val (.int (xsel &&& (3 : Int32))), .val (.int (own_kb xsel)), .val (.long (own_nb xsel xn xy)), .second, .val (.long (own_yb xsel xn xy)), .second, .val (.int (own_rb xsel xp xq)), .val (.int (own_sb xsel xq xr)), .val (.int (own_lb xsel xp xr)), .val (.ref ad6), .val (.ref ad9), .val (.int (own_exp (xsel &&& (3 : Int32)) (own_kb xsel) xn xy (own_nb xsel xn xy) (own_yb xsel xn xy) xp xq xr (own_rb xsel xp xq) (own_sb xsel xq xr) (own_lb xsel xp xr))), .val (.ref fo)] [(.int (1 : Int32))])) (fun t_ K => XS.iconst X18.here hx rfl (hb hby at_258) K) ?_
              refine own_go (T' := T18) (g' := (mkF m 263 #[.val (.long xn), .second, .val (.long xy), .second, .val (.int xp), .val (.int xq), .val (.int xr), .val (.int xsel), .val (.int (xsel &&& (3 : Int32))), .val (.int (own_kb xsel)), .val (.long (own_nb xsel xn xy)), .second, .val (.long (own_yb xsel xn xy)), .second, .val (.int (own_rb xsel xp xq)), .val (.int (own_sb xsel xq xr)), .val (.int (own_lb xsel xp xr)), .val (.ref ad6), .val (.ref ad9), .val (.int (own_exp (xsel &&& (3 : Int32)) (own_kb xsel) xn xy (own_nb xsel xn xy) (own_yb xsel xn xy) xp xq xr (own_rb xsel xp xq) (own_sb xsel xq xr) (own_lb xsel xp xr))), .val (.ref fo)] [(.int (1 : Int32))])) (fun t_ K => XS.goto X18.here hx rfl (pc0 := 259) (pc' := 263) rfl (hb hby at_259) (by decide) (by decide) K) ?_
              exact own_retZ X18 hx Bd.returns hlk (Or.inr rfl) (hb hby at_263) ⟨rfl, N_13⟩ (by decide) (by decide)
            by_cases c153 : (xsel &&& (3 : Int32)) = (own_kb xsel)
            · refine own_go (T' := T11) (g' := (mkF m 156 #[.val (.long xn), .second, .val (.long xy), .second, .val (.int xp), .val (.int xq), .val (.int xr), .val (.int xsel), .val (.int (xsel &&& (3 : Int32))), .val (.int (own_kb xsel)), .val (.long (own_nb xsel xn xy)), .second, .val (.long (own_yb xsel xn xy)), .second, .val (.int (own_rb xsel xp xq)), .val (.int (own_sb xsel xq xr)), .val (.int (own_lb xsel xp xr)), .val (.ref ad6), .val (.ref ad9), .unset, .unset] [])) (fun t_ K => XS.icmpNo X11.here hx rfl (hb hby at_153) rfl (teq c153).2 K) ?_
              refine own_go (T' := T11) (g' := (mkF m 158 #[.val (.long xn), .second, .val (.long xy), .second, .val (.int xp), .val (.int xq), .val (.int xr), .val (.int xsel), .val (.int (xsel &&& (3 : Int32))), .val (.int (own_kb xsel)), .val (.long (own_nb xsel xn xy)), .second, .val (.long (own_yb xsel xn xy)), .second, .val (.int (own_rb xsel xp xq)), .val (.int (own_sb xsel xq xr)), .val (.int (own_lb xsel xp xr)), .val (.ref ad6), .val (.ref ad9), .unset, .unset] [(.long (own_nb xsel xn xy))])) (fun t_ K => XS.lload X11.here hx rfl (hb hby at_156) rfl K) ?_
              refine own_go (T' := T11) (g' := (mkF m 159 #[.val (.long xn), .second, .val (.long xy), .second, .val (.int xp), .val (.int xq), .val (.int xr), .val (.int xsel), .val (.int (xsel &&& (3 : Int32))), .val (.int (own_kb xsel)), .val (.long (own_nb xsel xn xy)), .second, .val (.long (own_yb xsel xn xy)), .second, .val (.int (own_rb xsel xp xq)), .val (.int (own_sb xsel xq xr)), .val (.int (own_lb xsel xp xr)), .val (.ref ad6), .val (.ref ad9), .unset, .unset] [(.long xn), (.long (own_nb xsel xn xy))])) (fun t_ K => XS.lloadN X11.here hx rfl (hb hby at_158) rfl K) ?_
              refine own_go (T' := T11) (g' := (mkF m 160 #[.val (.long xn), .second, .val (.long xy), .second, .val (.int xp), .val (.int xq), .val (.int xr), .val (.int xsel), .val (.int (xsel &&& (3 : Int32))), .val (.int (own_kb xsel)), .val (.long (own_nb xsel xn xy)), .second, .val (.long (own_yb xsel xn xy)), .second, .val (.int (own_rb xsel xp xq)), .val (.int (own_sb xsel xq xr)), .val (.int (own_lb xsel xp xr)), .val (.ref ad6), .val (.ref ad9), .unset, .unset] [(.int (lcmpW (own_nb xsel xn xy) xn))])) (fun t_ K => XS.lcmp X11.here hx rfl (hb hby at_159) rfl K) ?_
              by_cases c160 : (own_nb xsel xn xy) = xn
              · refine own_go (T' := T11) (g' := (mkF m 163 #[.val (.long xn), .second, .val (.long xy), .second, .val (.int xp), .val (.int xq), .val (.int xr), .val (.int xsel), .val (.int (xsel &&& (3 : Int32))), .val (.int (own_kb xsel)), .val (.long (own_nb xsel xn xy)), .second, .val (.long (own_yb xsel xn xy)), .second, .val (.int (own_rb xsel xp xq)), .val (.int (own_sb xsel xq xr)), .val (.int (own_lb xsel xp xr)), .val (.ref ad6), .val (.ref ad9), .unset, .unset] [])) (fun t_ K => XS.ifNo X11.here hx rfl (hb hby at_160) rfl ((if0 _ _).trans (teq ((lw_eq (own_nb xsel xn xy) xn).mpr c160)).2) K) ?_
                refine own_go (T' := T11) (g' := (mkF m 165 #[.val (.long xn), .second, .val (.long xy), .second, .val (.int xp), .val (.int xq), .val (.int xr), .val (.int xsel), .val (.int (xsel &&& (3 : Int32))), .val (.int (own_kb xsel)), .val (.long (own_nb xsel xn xy)), .second, .val (.long (own_yb xsel xn xy)), .second, .val (.int (own_rb xsel xp xq)), .val (.int (own_sb xsel xq xr)), .val (.int (own_lb xsel xp xr)), .val (.ref ad6), .val (.ref ad9), .unset, .unset] [(.long (own_yb xsel xn xy))])) (fun t_ K => XS.lload X11.here hx rfl (hb hby at_163) rfl K) ?_
                refine own_go (T' := T11) (g' := (mkF m 166 #[.val (.long xn), .second, .val (.long xy), .second, .val (.int xp), .val (.int xq), .val (.int xr), .val (.int xsel), .val (.int (xsel &&& (3 : Int32))), .val (.int (own_kb xsel)), .val (.long (own_nb xsel xn xy)), .second, .val (.long (own_yb xsel xn xy)), .second, .val (.int (own_rb xsel xp xq)), .val (.int (own_sb xsel xq xr)), .val (.int (own_lb xsel xp xr)), .val (.ref ad6), .val (.ref ad9), .unset, .unset] [(.long xy), (.long (own_yb xsel xn xy))])) (fun t_ K => XS.lloadN X11.here hx rfl (hb hby at_165) rfl K) ?_
                refine own_go (T' := T11) (g' := (mkF m 167 #[.val (.long xn), .second, .val (.long xy), .second, .val (.int xp), .val (.int xq), .val (.int xr), .val (.int xsel), .val (.int (xsel &&& (3 : Int32))), .val (.int (own_kb xsel)), .val (.long (own_nb xsel xn xy)), .second, .val (.long (own_yb xsel xn xy)), .second, .val (.int (own_rb xsel xp xq)), .val (.int (own_sb xsel xq xr)), .val (.int (own_lb xsel xp xr)), .val (.ref ad6), .val (.ref ad9), .unset, .unset] [(.int (lcmpW (own_yb xsel xn xy) xy))])) (fun t_ K => XS.lcmp X11.here hx rfl (hb hby at_166) rfl K) ?_
                by_cases c167 : (own_yb xsel xn xy) = xy
                · refine own_go (T' := T11) (g' := (mkF m 170 #[.val (.long xn), .second, .val (.long xy), .second, .val (.int xp), .val (.int xq), .val (.int xr), .val (.int xsel), .val (.int (xsel &&& (3 : Int32))), .val (.int (own_kb xsel)), .val (.long (own_nb xsel xn xy)), .second, .val (.long (own_yb xsel xn xy)), .second, .val (.int (own_rb xsel xp xq)), .val (.int (own_sb xsel xq xr)), .val (.int (own_lb xsel xp xr)), .val (.ref ad6), .val (.ref ad9), .unset, .unset] [])) (fun t_ K => XS.ifNo X11.here hx rfl (hb hby at_167) rfl ((if0 _ _).trans (teq ((lw_eq (own_yb xsel xn xy) xy).mpr c167)).2) K) ?_
                  refine own_go (T' := T11) (g' := (mkF m 172 #[.val (.long xn), .second, .val (.long xy), .second, .val (.int xp), .val (.int xq), .val (.int xr), .val (.int xsel), .val (.int (xsel &&& (3 : Int32))), .val (.int (own_kb xsel)), .val (.long (own_nb xsel xn xy)), .second, .val (.long (own_yb xsel xn xy)), .second, .val (.int (own_rb xsel xp xq)), .val (.int (own_sb xsel xq xr)), .val (.int (own_lb xsel xp xr)), .val (.ref ad6), .val (.ref ad9), .unset, .unset] [(.int (own_rb xsel xp xq))])) (fun t_ K => XS.iload X11.here hx rfl (hb hby at_170) rfl K) ?_
                  refine own_go (T' := T11) (g' := (mkF m 174 #[.val (.long xn), .second, .val (.long xy), .second, .val (.int xp), .val (.int xq), .val (.int xr), .val (.int xsel), .val (.int (xsel &&& (3 : Int32))), .val (.int (own_kb xsel)), .val (.long (own_nb xsel xn xy)), .second, .val (.long (own_yb xsel xn xy)), .second, .val (.int (own_rb xsel xp xq)), .val (.int (own_sb xsel xq xr)), .val (.int (own_lb xsel xp xr)), .val (.ref ad6), .val (.ref ad9), .unset, .unset] [(.int xp), (.int (own_rb xsel xp xq))])) (fun t_ K => XS.iload X11.here hx rfl (hb hby at_172) rfl K) ?_
                  by_cases c174 : (own_rb xsel xp xq) = xp
                  · refine own_go (T' := T11) (g' := (mkF m 177 #[.val (.long xn), .second, .val (.long xy), .second, .val (.int xp), .val (.int xq), .val (.int xr), .val (.int xsel), .val (.int (xsel &&& (3 : Int32))), .val (.int (own_kb xsel)), .val (.long (own_nb xsel xn xy)), .second, .val (.long (own_yb xsel xn xy)), .second, .val (.int (own_rb xsel xp xq)), .val (.int (own_sb xsel xq xr)), .val (.int (own_lb xsel xp xr)), .val (.ref ad6), .val (.ref ad9), .unset, .unset] [])) (fun t_ K => XS.icmpNo X11.here hx rfl (hb hby at_174) rfl (teq c174).2 K) ?_
                    refine own_go (T' := T11) (g' := (mkF m 179 #[.val (.long xn), .second, .val (.long xy), .second, .val (.int xp), .val (.int xq), .val (.int xr), .val (.int xsel), .val (.int (xsel &&& (3 : Int32))), .val (.int (own_kb xsel)), .val (.long (own_nb xsel xn xy)), .second, .val (.long (own_yb xsel xn xy)), .second, .val (.int (own_rb xsel xp xq)), .val (.int (own_sb xsel xq xr)), .val (.int (own_lb xsel xp xr)), .val (.ref ad6), .val (.ref ad9), .unset, .unset] [(.int (own_sb xsel xq xr))])) (fun t_ K => XS.iload X11.here hx rfl (hb hby at_177) rfl K) ?_
                    refine own_go (T' := T11) (g' := (mkF m 181 #[.val (.long xn), .second, .val (.long xy), .second, .val (.int xp), .val (.int xq), .val (.int xr), .val (.int xsel), .val (.int (xsel &&& (3 : Int32))), .val (.int (own_kb xsel)), .val (.long (own_nb xsel xn xy)), .second, .val (.long (own_yb xsel xn xy)), .second, .val (.int (own_rb xsel xp xq)), .val (.int (own_sb xsel xq xr)), .val (.int (own_lb xsel xp xr)), .val (.ref ad6), .val (.ref ad9), .unset, .unset] [(.int xq), (.int (own_sb xsel xq xr))])) (fun t_ K => XS.iload X11.here hx rfl (hb hby at_179) rfl K) ?_
                    by_cases c181 : (own_sb xsel xq xr) = xq
                    · refine own_go (T' := T11) (g' := (mkF m 184 #[.val (.long xn), .second, .val (.long xy), .second, .val (.int xp), .val (.int xq), .val (.int xr), .val (.int xsel), .val (.int (xsel &&& (3 : Int32))), .val (.int (own_kb xsel)), .val (.long (own_nb xsel xn xy)), .second, .val (.long (own_yb xsel xn xy)), .second, .val (.int (own_rb xsel xp xq)), .val (.int (own_sb xsel xq xr)), .val (.int (own_lb xsel xp xr)), .val (.ref ad6), .val (.ref ad9), .unset, .unset] [])) (fun t_ K => XS.icmpNo X11.here hx rfl (hb hby at_181) rfl (teq c181).2 K) ?_
                      refine own_go (T' := T11) (g' := (mkF m 186 #[.val (.long xn), .second, .val (.long xy), .second, .val (.int xp), .val (.int xq), .val (.int xr), .val (.int xsel), .val (.int (xsel &&& (3 : Int32))), .val (.int (own_kb xsel)), .val (.long (own_nb xsel xn xy)), .second, .val (.long (own_yb xsel xn xy)), .second, .val (.int (own_rb xsel xp xq)), .val (.int (own_sb xsel xq xr)), .val (.int (own_lb xsel xp xr)), .val (.ref ad6), .val (.ref ad9), .unset, .unset] [(.int (own_lb xsel xp xr))])) (fun t_ K => XS.iload X11.here hx rfl (hb hby at_184) rfl K) ?_
                      refine own_go (T' := T11) (g' := (mkF m 188 #[.val (.long xn), .second, .val (.long xy), .second, .val (.int xp), .val (.int xq), .val (.int xr), .val (.int xsel), .val (.int (xsel &&& (3 : Int32))), .val (.int (own_kb xsel)), .val (.long (own_nb xsel xn xy)), .second, .val (.long (own_yb xsel xn xy)), .second, .val (.int (own_rb xsel xp xq)), .val (.int (own_sb xsel xq xr)), .val (.int (own_lb xsel xp xr)), .val (.ref ad6), .val (.ref ad9), .unset, .unset] [(.int xr), (.int (own_lb xsel xp xr))])) (fun t_ K => XS.iload X11.here hx rfl (hb hby at_186) rfl K) ?_
                      by_cases c188 : (own_lb xsel xp xr) = xr
                      · refine own_go (T' := T11) (g' := (mkF m 191 #[.val (.long xn), .second, .val (.long xy), .second, .val (.int xp), .val (.int xq), .val (.int xr), .val (.int xsel), .val (.int (xsel &&& (3 : Int32))), .val (.int (own_kb xsel)), .val (.long (own_nb xsel xn xy)), .second, .val (.long (own_yb xsel xn xy)), .second, .val (.int (own_rb xsel xp xq)), .val (.int (own_sb xsel xq xr)), .val (.int (own_lb xsel xp xr)), .val (.ref ad6), .val (.ref ad9), .unset, .unset] [])) (fun t_ K => XS.icmpNo X11.here hx rfl (hb hby at_188) rfl (teq c188).2 K) ?_
                        refine own_go (T' := T11) (g' := (mkF m 192 #[.val (.long xn), .second, .val (.long xy), .second, .val (.int xp), .val (.int xq), .val (.int xr), .val (.int xsel), .val (.int (xsel &&& (3 : Int32))), .val (.int (own_kb xsel)), .val (.long (own_nb xsel xn xy)), .second, .val (.long (own_yb xsel xn xy)), .second, .val (.int (own_rb xsel xp xq)), .val (.int (own_sb xsel xq xr)), .val (.int (own_lb xsel xp xr)), .val (.ref ad6), .val (.ref ad9), .unset, .unset] [(.int (1 : Int32))])) (fun t_ K => XS.iconst X11.here hx rfl (hb hby at_191) K) ?_
                        refine own_go (T' := T11) (g' := (mkF m 196 #[.val (.long xn), .second, .val (.long xy), .second, .val (.int xp), .val (.int xq), .val (.int xr), .val (.int xsel), .val (.int (xsel &&& (3 : Int32))), .val (.int (own_kb xsel)), .val (.long (own_nb xsel xn xy)), .second, .val (.long (own_yb xsel xn xy)), .second, .val (.int (own_rb xsel xp xq)), .val (.int (own_sb xsel xq xr)), .val (.int (own_lb xsel xp xr)), .val (.ref ad6), .val (.ref ad9), .unset, .unset] [(.int (1 : Int32))])) (fun t_ K => XS.goto X11.here hx rfl (pc0 := 192) (pc' := 196) rfl (hb hby at_192) (by decide) (by decide) K) ?_
                        exact J12 _ _ (by rw [own_exp, if_pos c153, if_pos c160, if_pos c167, if_pos c174, if_pos c181, if_pos c188]) X11 e11
                      · refine own_go (T' := T11) (g' := (mkF m 195 #[.val (.long xn), .second, .val (.long xy), .second, .val (.int xp), .val (.int xq), .val (.int xr), .val (.int xsel), .val (.int (xsel &&& (3 : Int32))), .val (.int (own_kb xsel)), .val (.long (own_nb xsel xn xy)), .second, .val (.long (own_yb xsel xn xy)), .second, .val (.int (own_rb xsel xp xq)), .val (.int (own_sb xsel xq xr)), .val (.int (own_lb xsel xp xr)), .val (.ref ad6), .val (.ref ad9), .unset, .unset] [])) (fun t_ K => XS.icmpYes X11.here hx rfl (pc0 := 188) (pc' := 195) rfl (hb hby at_188) rfl (feq c188).2 (by decide) (by decide) K) ?_
                        refine own_go (T' := T11) (g' := (mkF m 196 #[.val (.long xn), .second, .val (.long xy), .second, .val (.int xp), .val (.int xq), .val (.int xr), .val (.int xsel), .val (.int (xsel &&& (3 : Int32))), .val (.int (own_kb xsel)), .val (.long (own_nb xsel xn xy)), .second, .val (.long (own_yb xsel xn xy)), .second, .val (.int (own_rb xsel xp xq)), .val (.int (own_sb xsel xq xr)), .val (.int (own_lb xsel xp xr)), .val (.ref ad6), .val (.ref ad9), .unset, .unset] [(.int (0 : Int32))])) (fun t_ K => XS.iconst X11.here hx rfl (hb hby at_195) K) ?_
                        exact J12 _ _ (by rw [own_exp, if_pos c153, if_pos c160, if_pos c167, if_pos c174, if_pos c181, if_neg c188]) X11 e11
                    · refine own_go (T' := T11) (g' := (mkF m 195 #[.val (.long xn), .second, .val (.long xy), .second, .val (.int xp), .val (.int xq), .val (.int xr), .val (.int xsel), .val (.int (xsel &&& (3 : Int32))), .val (.int (own_kb xsel)), .val (.long (own_nb xsel xn xy)), .second, .val (.long (own_yb xsel xn xy)), .second, .val (.int (own_rb xsel xp xq)), .val (.int (own_sb xsel xq xr)), .val (.int (own_lb xsel xp xr)), .val (.ref ad6), .val (.ref ad9), .unset, .unset] [])) (fun t_ K => XS.icmpYes X11.here hx rfl (pc0 := 181) (pc' := 195) rfl (hb hby at_181) rfl (feq c181).2 (by decide) (by decide) K) ?_
                      refine own_go (T' := T11) (g' := (mkF m 196 #[.val (.long xn), .second, .val (.long xy), .second, .val (.int xp), .val (.int xq), .val (.int xr), .val (.int xsel), .val (.int (xsel &&& (3 : Int32))), .val (.int (own_kb xsel)), .val (.long (own_nb xsel xn xy)), .second, .val (.long (own_yb xsel xn xy)), .second, .val (.int (own_rb xsel xp xq)), .val (.int (own_sb xsel xq xr)), .val (.int (own_lb xsel xp xr)), .val (.ref ad6), .val (.ref ad9), .unset, .unset] [(.int (0 : Int32))])) (fun t_ K => XS.iconst X11.here hx rfl (hb hby at_195) K) ?_
                      exact J12 _ _ (by rw [own_exp, if_pos c153, if_pos c160, if_pos c167, if_pos c174, if_neg c181]) X11 e11
                  · refine own_go (T' := T11) (g' := (mkF m 195 #[.val (.long xn), .second, .val (.long xy), .second, .val (.int xp), .val (.int xq), .val (.int xr), .val (.int xsel), .val (.int (xsel &&& (3 : Int32))), .val (.int (own_kb xsel)), .val (.long (own_nb xsel xn xy)), .second, .val (.long (own_yb xsel xn xy)), .second, .val (.int (own_rb xsel xp xq)), .val (.int (own_sb xsel xq xr)), .val (.int (own_lb xsel xp xr)), .val (.ref ad6), .val (.ref ad9), .unset, .unset] [])) (fun t_ K => XS.icmpYes X11.here hx rfl (pc0 := 174) (pc' := 195) rfl (hb hby at_174) rfl (feq c174).2 (by decide) (by decide) K) ?_
                    refine own_go (T' := T11) (g' := (mkF m 196 #[.val (.long xn), .second, .val (.long xy), .second, .val (.int xp), .val (.int xq), .val (.int xr), .val (.int xsel), .val (.int (xsel &&& (3 : Int32))), .val (.int (own_kb xsel)), .val (.long (own_nb xsel xn xy)), .second, .val (.long (own_yb xsel xn xy)), .second, .val (.int (own_rb xsel xp xq)), .val (.int (own_sb xsel xq xr)), .val (.int (own_lb xsel xp xr)), .val (.ref ad6), .val (.ref ad9), .unset, .unset] [(.int (0 : Int32))])) (fun t_ K => XS.iconst X11.here hx rfl (hb hby at_195) K) ?_
                    exact J12 _ _ (by rw [own_exp, if_pos c153, if_pos c160, if_pos c167, if_neg c174]) X11 e11
                · refine own_go (T' := T11) (g' := (mkF m 195 #[.val (.long xn), .second, .val (.long xy), .second, .val (.int xp), .val (.int xq), .val (.int xr), .val (.int xsel), .val (.int (xsel &&& (3 : Int32))), .val (.int (own_kb xsel)), .val (.long (own_nb xsel xn xy)), .second, .val (.long (own_yb xsel xn xy)), .second, .val (.int (own_rb xsel xp xq)), .val (.int (own_sb xsel xq xr)), .val (.int (own_lb xsel xp xr)), .val (.ref ad6), .val (.ref ad9), .unset, .unset] [])) (fun t_ K => XS.ifYes X11.here hx rfl (pc0 := 167) (pc' := 195) rfl (hb hby at_167) rfl ((if0 _ _).trans (feq (fun q => c167 ((lw_eq (own_yb xsel xn xy) xy).mp q))).2) (by decide) (by decide) K) ?_
                  refine own_go (T' := T11) (g' := (mkF m 196 #[.val (.long xn), .second, .val (.long xy), .second, .val (.int xp), .val (.int xq), .val (.int xr), .val (.int xsel), .val (.int (xsel &&& (3 : Int32))), .val (.int (own_kb xsel)), .val (.long (own_nb xsel xn xy)), .second, .val (.long (own_yb xsel xn xy)), .second, .val (.int (own_rb xsel xp xq)), .val (.int (own_sb xsel xq xr)), .val (.int (own_lb xsel xp xr)), .val (.ref ad6), .val (.ref ad9), .unset, .unset] [(.int (0 : Int32))])) (fun t_ K => XS.iconst X11.here hx rfl (hb hby at_195) K) ?_
                  exact J12 _ _ (by rw [own_exp, if_pos c153, if_pos c160, if_neg c167]) X11 e11
              · refine own_go (T' := T11) (g' := (mkF m 195 #[.val (.long xn), .second, .val (.long xy), .second, .val (.int xp), .val (.int xq), .val (.int xr), .val (.int xsel), .val (.int (xsel &&& (3 : Int32))), .val (.int (own_kb xsel)), .val (.long (own_nb xsel xn xy)), .second, .val (.long (own_yb xsel xn xy)), .second, .val (.int (own_rb xsel xp xq)), .val (.int (own_sb xsel xq xr)), .val (.int (own_lb xsel xp xr)), .val (.ref ad6), .val (.ref ad9), .unset, .unset] [])) (fun t_ K => XS.ifYes X11.here hx rfl (pc0 := 160) (pc' := 195) rfl (hb hby at_160) rfl ((if0 _ _).trans (feq (fun q => c160 ((lw_eq (own_nb xsel xn xy) xn).mp q))).2) (by decide) (by decide) K) ?_
                refine own_go (T' := T11) (g' := (mkF m 196 #[.val (.long xn), .second, .val (.long xy), .second, .val (.int xp), .val (.int xq), .val (.int xr), .val (.int xsel), .val (.int (xsel &&& (3 : Int32))), .val (.int (own_kb xsel)), .val (.long (own_nb xsel xn xy)), .second, .val (.long (own_yb xsel xn xy)), .second, .val (.int (own_rb xsel xp xq)), .val (.int (own_sb xsel xq xr)), .val (.int (own_lb xsel xp xr)), .val (.ref ad6), .val (.ref ad9), .unset, .unset] [(.int (0 : Int32))])) (fun t_ K => XS.iconst X11.here hx rfl (hb hby at_195) K) ?_
                exact J12 _ _ (by rw [own_exp, if_pos c153, if_neg c160]) X11 e11
            · refine own_go (T' := T11) (g' := (mkF m 195 #[.val (.long xn), .second, .val (.long xy), .second, .val (.int xp), .val (.int xq), .val (.int xr), .val (.int xsel), .val (.int (xsel &&& (3 : Int32))), .val (.int (own_kb xsel)), .val (.long (own_nb xsel xn xy)), .second, .val (.long (own_yb xsel xn xy)), .second, .val (.int (own_rb xsel xp xq)), .val (.int (own_sb xsel xq xr)), .val (.int (own_lb xsel xp xr)), .val (.ref ad6), .val (.ref ad9), .unset, .unset] [])) (fun t_ K => XS.icmpYes X11.here hx rfl (pc0 := 153) (pc' := 195) rfl (hb hby at_153) rfl (feq c153).2 (by decide) (by decide) K) ?_
              refine own_go (T' := T11) (g' := (mkF m 196 #[.val (.long xn), .second, .val (.long xy), .second, .val (.int xp), .val (.int xq), .val (.int xr), .val (.int xsel), .val (.int (xsel &&& (3 : Int32))), .val (.int (own_kb xsel)), .val (.long (own_nb xsel xn xy)), .second, .val (.long (own_yb xsel xn xy)), .second, .val (.int (own_rb xsel xp xq)), .val (.int (own_sb xsel xq xr)), .val (.int (own_lb xsel xp xr)), .val (.ref ad6), .val (.ref ad9), .unset, .unset] [(.int (0 : Int32))])) (fun t_ K => XS.iconst X11.here hx rfl (hb hby at_195) K) ?_
              exact J12 _ _ (by rw [own_exp, if_neg c153]) X11 e11
          by_cases c91 : (own_bt xsel (8 : Int32)) = (0 : Int32)
          · refine own_go (T' := T4) (g' := (mkF m 99 #[.val (.long xn), .second, .val (.long xy), .second, .val (.int xp), .val (.int xq), .val (.int xr), .val (.int xsel), .val (.int (xsel &&& (3 : Int32))), .val (.int (own_kb xsel)), .val (.long (own_nb xsel xn xy)), .second, .val (.long (own_yb xsel xn xy)), .second, .val (.int (own_rb xsel xp xq)), .val (.int (own_sb xsel xq xr)), .unset, .unset, .unset, .unset, .unset] [])) (fun t_ K => XS.ifYes X4.here hx rfl (pc0 := 91) (pc' := 99) rfl (hb hby at_91) rfl ((if0 _ _).trans (teq c91).1) (by decide) (by decide) K) ?_
            refine own_go (T' := T4) (g' := (mkF m 101 #[.val (.long xn), .second, .val (.long xy), .second, .val (.int xp), .val (.int xq), .val (.int xr), .val (.int xsel), .val (.int (xsel &&& (3 : Int32))), .val (.int (own_kb xsel)), .val (.long (own_nb xsel xn xy)), .second, .val (.long (own_yb xsel xn xy)), .second, .val (.int (own_rb xsel xp xq)), .val (.int (own_sb xsel xq xr)), .unset, .unset, .unset, .unset, .unset] [(.int xr)])) (fun t_ K => XS.iload X4.here hx rfl (hb hby at_99) rfl K) ?_
            exact J5 _ _ (by rw [own_lb, if_pos c91]) X4 e4
          · refine own_go (T' := T4) (g' := (mkF m 94 #[.val (.long xn), .second, .val (.long xy), .second, .val (.int xp), .val (.int xq), .val (.int xr), .val (.int xsel), .val (.int (xsel &&& (3 : Int32))), .val (.int (own_kb xsel)), .val (.long (own_nb xsel xn xy)), .second, .val (.long (own_yb xsel xn xy)), .second, .val (.int (own_rb xsel xp xq)), .val (.int (own_sb xsel xq xr)), .unset, .unset, .unset, .unset, .unset] [])) (fun t_ K => XS.ifNo X4.here hx rfl (hb hby at_91) rfl ((if0 _ _).trans (feq c91).1) K) ?_
            refine own_go (T' := T4) (g' := (mkF m 96 #[.val (.long xn), .second, .val (.long xy), .second, .val (.int xp), .val (.int xq), .val (.int xr), .val (.int xsel), .val (.int (xsel &&& (3 : Int32))), .val (.int (own_kb xsel)), .val (.long (own_nb xsel xn xy)), .second, .val (.long (own_yb xsel xn xy)), .second, .val (.int (own_rb xsel xp xq)), .val (.int (own_sb xsel xq xr)), .unset, .unset, .unset, .unset, .unset] [(.int xp)])) (fun t_ K => XS.iload X4.here hx rfl (hb hby at_94) rfl K) ?_
            refine own_go (T' := T4) (g' := (mkF m 101 #[.val (.long xn), .second, .val (.long xy), .second, .val (.int xp), .val (.int xq), .val (.int xr), .val (.int xsel), .val (.int (xsel &&& (3 : Int32))), .val (.int (own_kb xsel)), .val (.long (own_nb xsel xn xy)), .second, .val (.long (own_yb xsel xn xy)), .second, .val (.int (own_rb xsel xp xq)), .val (.int (own_sb xsel xq xr)), .unset, .unset, .unset, .unset, .unset] [(.int xp)])) (fun t_ K => XS.goto X4.here hx rfl (pc0 := 96) (pc' := 101) rfl (hb hby at_96) (by decide) (by decide) K) ?_
            exact J5 _ _ (by rw [own_lb, if_neg c91]) X4 e4
        by_cases c72 : (own_bt xsel (7 : Int32)) = (0 : Int32)
        · refine own_go (T' := T3) (g' := (mkF m 80 #[.val (.long xn), .second, .val (.long xy), .second, .val (.int xp), .val (.int xq), .val (.int xr), .val (.int xsel), .val (.int (xsel &&& (3 : Int32))), .val (.int (own_kb xsel)), .val (.long (own_nb xsel xn xy)), .second, .val (.long (own_yb xsel xn xy)), .second, .val (.int (own_rb xsel xp xq)), .unset, .unset, .unset, .unset, .unset, .unset] [])) (fun t_ K => XS.ifYes X3.here hx rfl (pc0 := 72) (pc' := 80) rfl (hb hby at_72) rfl ((if0 _ _).trans (teq c72).1) (by decide) (by decide) K) ?_
          refine own_go (T' := T3) (g' := (mkF m 82 #[.val (.long xn), .second, .val (.long xy), .second, .val (.int xp), .val (.int xq), .val (.int xr), .val (.int xsel), .val (.int (xsel &&& (3 : Int32))), .val (.int (own_kb xsel)), .val (.long (own_nb xsel xn xy)), .second, .val (.long (own_yb xsel xn xy)), .second, .val (.int (own_rb xsel xp xq)), .unset, .unset, .unset, .unset, .unset, .unset] [(.int xq)])) (fun t_ K => XS.iload X3.here hx rfl (hb hby at_80) rfl K) ?_
          exact J4 _ _ (by rw [own_sb, if_pos c72]) X3 e3
        · refine own_go (T' := T3) (g' := (mkF m 75 #[.val (.long xn), .second, .val (.long xy), .second, .val (.int xp), .val (.int xq), .val (.int xr), .val (.int xsel), .val (.int (xsel &&& (3 : Int32))), .val (.int (own_kb xsel)), .val (.long (own_nb xsel xn xy)), .second, .val (.long (own_yb xsel xn xy)), .second, .val (.int (own_rb xsel xp xq)), .unset, .unset, .unset, .unset, .unset, .unset] [])) (fun t_ K => XS.ifNo X3.here hx rfl (hb hby at_72) rfl ((if0 _ _).trans (feq c72).1) K) ?_
          refine own_go (T' := T3) (g' := (mkF m 77 #[.val (.long xn), .second, .val (.long xy), .second, .val (.int xp), .val (.int xq), .val (.int xr), .val (.int xsel), .val (.int (xsel &&& (3 : Int32))), .val (.int (own_kb xsel)), .val (.long (own_nb xsel xn xy)), .second, .val (.long (own_yb xsel xn xy)), .second, .val (.int (own_rb xsel xp xq)), .unset, .unset, .unset, .unset, .unset, .unset] [(.int xr)])) (fun t_ K => XS.iload X3.here hx rfl (hb hby at_75) rfl K) ?_
          refine own_go (T' := T3) (g' := (mkF m 82 #[.val (.long xn), .second, .val (.long xy), .second, .val (.int xp), .val (.int xq), .val (.int xr), .val (.int xsel), .val (.int (xsel &&& (3 : Int32))), .val (.int (own_kb xsel)), .val (.long (own_nb xsel xn xy)), .second, .val (.long (own_yb xsel xn xy)), .second, .val (.int (own_rb xsel xp xq)), .unset, .unset, .unset, .unset, .unset, .unset] [(.int xr)])) (fun t_ K => XS.goto X3.here hx rfl (pc0 := 77) (pc' := 82) rfl (hb hby at_77) (by decide) (by decide) K) ?_
          exact J4 _ _ (by rw [own_sb, if_neg c72]) X3 e3
      by_cases c53 : (own_bt xsel (6 : Int32)) = (0 : Int32)
      · refine own_go (T' := T2) (g' := (mkF m 61 #[.val (.long xn), .second, .val (.long xy), .second, .val (.int xp), .val (.int xq), .val (.int xr), .val (.int xsel), .val (.int (xsel &&& (3 : Int32))), .val (.int (own_kb xsel)), .val (.long (own_nb xsel xn xy)), .second, .val (.long (own_yb xsel xn xy)), .second, .unset, .unset, .unset, .unset, .unset, .unset, .unset] [])) (fun t_ K => XS.ifYes X2.here hx rfl (pc0 := 53) (pc' := 61) rfl (hb hby at_53) rfl ((if0 _ _).trans (teq c53).1) (by decide) (by decide) K) ?_
        refine own_go (T' := T2) (g' := (mkF m 63 #[.val (.long xn), .second, .val (.long xy), .second, .val (.int xp), .val (.int xq), .val (.int xr), .val (.int xsel), .val (.int (xsel &&& (3 : Int32))), .val (.int (own_kb xsel)), .val (.long (own_nb xsel xn xy)), .second, .val (.long (own_yb xsel xn xy)), .second, .unset, .unset, .unset, .unset, .unset, .unset, .unset] [(.int xp)])) (fun t_ K => XS.iload X2.here hx rfl (hb hby at_61) rfl K) ?_
        exact J3 _ _ (by rw [own_rb, if_pos c53]) X2 e2
      · refine own_go (T' := T2) (g' := (mkF m 56 #[.val (.long xn), .second, .val (.long xy), .second, .val (.int xp), .val (.int xq), .val (.int xr), .val (.int xsel), .val (.int (xsel &&& (3 : Int32))), .val (.int (own_kb xsel)), .val (.long (own_nb xsel xn xy)), .second, .val (.long (own_yb xsel xn xy)), .second, .unset, .unset, .unset, .unset, .unset, .unset, .unset] [])) (fun t_ K => XS.ifNo X2.here hx rfl (hb hby at_53) rfl ((if0 _ _).trans (feq c53).1) K) ?_
        refine own_go (T' := T2) (g' := (mkF m 58 #[.val (.long xn), .second, .val (.long xy), .second, .val (.int xp), .val (.int xq), .val (.int xr), .val (.int xsel), .val (.int (xsel &&& (3 : Int32))), .val (.int (own_kb xsel)), .val (.long (own_nb xsel xn xy)), .second, .val (.long (own_yb xsel xn xy)), .second, .unset, .unset, .unset, .unset, .unset, .unset, .unset] [(.int xq)])) (fun t_ K => XS.iload X2.here hx rfl (hb hby at_56) rfl K) ?_
        refine own_go (T' := T2) (g' := (mkF m 63 #[.val (.long xn), .second, .val (.long xy), .second, .val (.int xp), .val (.int xq), .val (.int xr), .val (.int xsel), .val (.int (xsel &&& (3 : Int32))), .val (.int (own_kb xsel)), .val (.long (own_nb xsel xn xy)), .second, .val (.long (own_yb xsel xn xy)), .second, .unset, .unset, .unset, .unset, .unset, .unset, .unset] [(.int xq)])) (fun t_ K => XS.goto X2.here hx rfl (pc0 := 58) (pc' := 63) rfl (hb hby at_58) (by decide) (by decide) K) ?_
        exact J3 _ _ (by rw [own_rb, if_neg c53]) X2 e2
    by_cases c36 : (own_bt xsel (5 : Int32)) = (0 : Int32)
    · refine own_go (T' := T1) (g' := (mkF m 43 #[.val (.long xn), .second, .val (.long xy), .second, .val (.int xp), .val (.int xq), .val (.int xr), .val (.int xsel), .val (.int (xsel &&& (3 : Int32))), .val (.int (own_kb xsel)), .val (.long (own_nb xsel xn xy)), .second, .unset, .unset, .unset, .unset, .unset, .unset, .unset, .unset, .unset] [])) (fun t_ K => XS.ifYes X1.here hx rfl (pc0 := 36) (pc' := 43) rfl (hb hby at_36) rfl ((if0 _ _).trans (teq c36).1) (by decide) (by decide) K) ?_
      refine own_go (T' := T1) (g' := (mkF m 44 #[.val (.long xn), .second, .val (.long xy), .second, .val (.int xp), .val (.int xq), .val (.int xr), .val (.int xsel), .val (.int (xsel &&& (3 : Int32))), .val (.int (own_kb xsel)), .val (.long (own_nb xsel xn xy)), .second, .unset, .unset, .unset, .unset, .unset, .unset, .unset, .unset, .unset] [(.long xy)])) (fun t_ K => XS.lloadN X1.here hx rfl (hb hby at_43) rfl K) ?_
      exact J2 _ _ (by rw [own_yb, if_pos c36]) X1 e1
    · refine own_go (T' := T1) (g' := (mkF m 39 #[.val (.long xn), .second, .val (.long xy), .second, .val (.int xp), .val (.int xq), .val (.int xr), .val (.int xsel), .val (.int (xsel &&& (3 : Int32))), .val (.int (own_kb xsel)), .val (.long (own_nb xsel xn xy)), .second, .unset, .unset, .unset, .unset, .unset, .unset, .unset, .unset, .unset] [])) (fun t_ K => XS.ifNo X1.here hx rfl (hb hby at_36) rfl ((if0 _ _).trans (feq c36).1) K) ?_
      refine own_go (T' := T1) (g' := (mkF m 40 #[.val (.long xn), .second, .val (.long xy), .second, .val (.int xp), .val (.int xq), .val (.int xr), .val (.int xsel), .val (.int (xsel &&& (3 : Int32))), .val (.int (own_kb xsel)), .val (.long (own_nb xsel xn xy)), .second, .unset, .unset, .unset, .unset, .unset, .unset, .unset, .unset, .unset] [(.long xn)])) (fun t_ K => XS.lloadN X1.here hx rfl (hb hby at_39) rfl K) ?_
      refine own_go (T' := T1) (g' := (mkF m 44 #[.val (.long xn), .second, .val (.long xy), .second, .val (.int xp), .val (.int xq), .val (.int xr), .val (.int xsel), .val (.int (xsel &&& (3 : Int32))), .val (.int (own_kb xsel)), .val (.long (own_nb xsel xn xy)), .second, .unset, .unset, .unset, .unset, .unset, .unset, .unset, .unset, .unset] [(.long xn)])) (fun t_ K => XS.goto X1.here hx rfl (pc0 := 40) (pc' := 44) rfl (hb hby at_40) (by decide) (by decide) K) ?_
      exact J2 _ _ (by rw [own_yb, if_neg c36]) X1 e1
  by_cases c20 : (own_bt xsel (4 : Int32)) = (0 : Int32)
  · refine own_go (T' := s₁) (g' := (mkF m 27 #[.val (.long xn), .second, .val (.long xy), .second, .val (.int xp), .val (.int xq), .val (.int xr), .val (.int xsel), .val (.int (xsel &&& (3 : Int32))), .val (.int (own_kb xsel)), .unset, .unset, .unset, .unset, .unset, .unset, .unset, .unset, .unset, .unset, .unset] [])) (fun t_ K => XS.ifYes X0.here hx rfl (pc0 := 20) (pc' := 27) rfl (hb hby at_20) rfl ((if0 _ _).trans (teq c20).1) (by decide) (by decide) K) ?_
    refine own_go (T' := s₁) (g' := (mkF m 28 #[.val (.long xn), .second, .val (.long xy), .second, .val (.int xp), .val (.int xq), .val (.int xr), .val (.int xsel), .val (.int (xsel &&& (3 : Int32))), .val (.int (own_kb xsel)), .unset, .unset, .unset, .unset, .unset, .unset, .unset, .unset, .unset, .unset, .unset] [(.long xn)])) (fun t_ K => XS.lloadN X0.here hx rfl (hb hby at_27) rfl K) ?_
    exact J1 _ _ (by rw [own_nb, if_pos c20]) X0 e0
  · refine own_go (T' := s₁) (g' := (mkF m 23 #[.val (.long xn), .second, .val (.long xy), .second, .val (.int xp), .val (.int xq), .val (.int xr), .val (.int xsel), .val (.int (xsel &&& (3 : Int32))), .val (.int (own_kb xsel)), .unset, .unset, .unset, .unset, .unset, .unset, .unset, .unset, .unset, .unset, .unset] [])) (fun t_ K => XS.ifNo X0.here hx rfl (hb hby at_20) rfl ((if0 _ _).trans (feq c20).1) K) ?_
    refine own_go (T' := s₁) (g' := (mkF m 24 #[.val (.long xn), .second, .val (.long xy), .second, .val (.int xp), .val (.int xq), .val (.int xr), .val (.int xsel), .val (.int (xsel &&& (3 : Int32))), .val (.int (own_kb xsel)), .unset, .unset, .unset, .unset, .unset, .unset, .unset, .unset, .unset, .unset, .unset] [(.long xy)])) (fun t_ K => XS.lloadN X0.here hx rfl (hb hby at_23) rfl K) ?_
    refine own_go (T' := s₁) (g' := (mkF m 28 #[.val (.long xn), .second, .val (.long xy), .second, .val (.int xp), .val (.int xq), .val (.int xr), .val (.int xsel), .val (.int (xsel &&& (3 : Int32))), .val (.int (own_kb xsel)), .unset, .unset, .unset, .unset, .unset, .unset, .unset, .unset, .unset, .unset, .unset] [(.long xy)])) (fun t_ K => XS.goto X0.here hx rfl (pc0 := 24) (pc' := 28) rfl (hb hby at_24) (by decide) (by decide) K) ?_
    exact J1 _ _ (by rw [own_nb, if_neg c20]) X0 e0
theorem own_len {args : Array Value} {s : State} {t : Term} {x : Addr} {cl : Cell} {ty : FieldType} {k : Int32} (ev : t.eval args s none [] s = some (.ref x)) (A : Arr s s.heap x cl ty) (h : (Jvm.Cond.eq (Term.length t) (Term.int k)).value args s none s [] = some true) : cl.slots.size < 2 ^ 31 ∧ cl.slots.size.toInt32 = k := by
  have e := own_eqi h
  obtain ⟨b, cell, e1, e2, e3⟩ := Term.length_spec e
  have h31 := SBG.length_lt e1 e2 e
  have q1 : x = b := Value.ref.inj (Option.some.inj (ev.symm.trans e1))
  subst q1
  have a := IntBox.arrayAt_of A.1 A.2.1 A.2.2
  have q2 : cl = cell := Option.some.inj (a.symm.trans e2)
  subst q2
  exact ⟨h31, (Value.int.inj e3).symm⟩
theorem own_cache_start {args : Array Value} {s : State} {C n d : String} {x : Addr} {cl : Cell} (ev : (Term.static C n d).eval args s none [] s = some (.ref x)) (A : Arr s s.heap x cl (.object "java/lang/Integer")) (hl : cl.slots.size < 2 ^ 31 ∧ cl.slots.size.toInt32 = (256 : Int32))
    (h : (Jvm.Cond.all (Term.static C n d) (.and (.exactly (.elem (Term.static C n d) (.index 0)) "java/lang/Integer") (.eq (.field (.elem (Term.static C n d) (.index 0)) "java/lang/Integer" "value" "I") (.sub (.index 0) (.int 128))))).value args s none s [] = some true) : own_cache s s.heap x := by
  have B := Bxs.start (val := fun j => .int (j - 128)) (fun _ => ev) A hl.1 hl.2 (by decide) h (fun X j nn q => eqv_i (Term.sub_int (idx_at nn) (Term.int_eval 128)) q)
  have sz : cl.slots.size = 256 := B.2.1.trans (by decide)
  refine ⟨cl, A, sz, fun i hi => ?_⟩
  have hj := idx_in (show i < cl.slots.size by omega) hl.1
  obtain ⟨r, e1, e2, -⟩ := B.2.2.2 _ hj
  have ei : (Nat.toInt32 i).toNatClampNeg = i := Int32.toNatClampNeg_ofNat_of_lt (by omega)
  exact ⟨r, ei ▸ e1, e2⟩
set_option maxRecDepth 65536 in
set_option maxHeartbeats 40000000 in
theorem comes_1 {Post : Tables → Env → Array Value → State → Outcome → State → Prop} (hpost : ∀ tb e args s v u, (limb_1_1.after args s (.returned v) u = true ∧ limb_1_2.after args s (.returned v) u = true ∧ True) → FrameEnd s (.returned v) u (Jvm.fieldLocs frame_1_writes args s ++ Jvm.arrayLocs frame_1_arrays args s ++ Jvm.staticLocs frame_1_statics s) 16 128 → Post tb e args s (.returned v) u) :
    ArmFor flags0 classFile x code maxLocals ret World_1 tables_1 room_1 Calls_1 rest_1 Pre_1 Post := by
  intro l hfl _ _ p e ha hc hk s m args below hf hA hF happ hP
  obtain ⟨hcalls, hrest, hpre⟩ := hP
  obtain ⟨-, -, -, hnamed, -, -, -, hat⟩ := (Spec.applies_iff hf).mp happ
  obtain ⟨hg, hn⟩ := and_e (Cond.before_iff.mp (show (Jvm.Cond.and given_1 narrow_1).before args s = true from hpre))
  obtain ⟨hcount, hk0⟩ := and_e hg
  obtain ⟨w0, w1, w2, w3, w4, w5, rfl⟩ : ∃ w0 w1 w2 w3 w4 w5 : Value, args = #[w0, w1, w2, w3, w4, w5] := by
    have hs : args.size = 6 := by simpa [Cond.value, given_1] using hcount
    obtain ⟨L⟩ := args
    match L, hs with
    | [w0, w1, w2, w3, w4, w5], _ => exact ⟨w0, w1, w2, w3, w4, w5, rfl⟩
  have hw := fun d (hd : d ∈ tables_1) => atoms_spec (ws := Jvm.Cond.code x code maxLocals ret :: tables_1) hat d (List.mem_cons_of_mem _ hd)
  have hfit : Fit s := fun {y c} hc i hi => by
    obtain ⟨ha, rfl⟩ := Array.getElem?_eq_some_iff.mp hc
    have q := List.all_eq_true.mp ((Array.all_eq_true_iff_forall_mem.mp hF) _ (Array.getElem_mem ha)) i (List.mem_range.mpr hi)
    simpa [Array.getElem?_eq_getElem hi] using q
  obtain ⟨ka0, hk1⟩ := and_e hk0
  obtain ⟨q0, f0⟩ := isL_v ka0
  obtain rfl : w0 = (.long q0) := Option.some.inj f0
  obtain ⟨ka1, hk2⟩ := and_e hk1
  obtain ⟨q1, f1⟩ := isL_v ka1
  obtain rfl : w1 = (.long q1) := Option.some.inj f1
  obtain ⟨ka2, hk3⟩ := and_e hk2
  obtain ⟨q2, f2⟩ := is_v ka2
  obtain rfl : w2 = (.int q2) := Option.some.inj f2
  obtain ⟨ka3, hk4⟩ := and_e hk3
  obtain ⟨q3, f3⟩ := is_v ka3
  obtain rfl : w3 = (.int q3) := Option.some.inj f3
  obtain ⟨ka4, hk5⟩ := and_e hk4
  obtain ⟨q4, f4⟩ := is_v ka4
  obtain rfl : w4 = (.int q4) := Option.some.inj f4
  obtain ⟨q5, f5⟩ := is_v hk5
  obtain rfl : w5 = (.int q5) := Option.some.inj f5
  obtain ⟨hz0, hn0⟩ := and_e hn
  obtain ⟨hz1, hn1⟩ := and_e hn0
  obtain ⟨hz2, hn2⟩ := and_e hn1
  obtain ⟨hz3, hn3⟩ := and_e hn2
  obtain ⟨hz4, hn4⟩ := and_e hn3
  obtain ⟨hz5, hn5⟩ := and_e hn4
  obtain ⟨hz6, hn6⟩ := and_e hn5
  have hz7 := hn6
  obtain ⟨a_k0, v_k0⟩ := exa_v hz1
  have S_k0 : Sta s s.heap "com/example/hosts_to_leader/hoststoleader/model/ElectionMessage$Kind" "INITIATING" "Lcom/example/hosts_to_leader/hoststoleader/model/ElectionMessage$Kind;" (.ref a_k0) := Sta.start v_k0 (Or.inr ⟨(hw _ (List.mem_of_getElem? (i := 8) rfl)), (hw _ (List.mem_of_getElem? (i := 29) rfl))⟩)
  have E_k0 : Exa s s.heap a_k0 "com/example/hosts_to_leader/hoststoleader/model/ElectionMessage$Kind" := Exa.start v_k0 hz1
  have O_k0 := own_ord v_k0 hz3
  obtain ⟨a_k1, v_k1⟩ := exa_v hz4
  have S_k1 : Sta s s.heap "com/example/hosts_to_leader/hoststoleader/model/ElectionMessage$Kind" "RELAY" "Lcom/example/hosts_to_leader/hoststoleader/model/ElectionMessage$Kind;" (.ref a_k1) := Sta.start v_k1 (Or.inr ⟨(hw _ (List.mem_of_getElem? (i := 8) rfl)), (hw _ (List.mem_of_getElem? (i := 48) rfl))⟩)
  have E_k1 : Exa s s.heap a_k1 "com/example/hosts_to_leader/hoststoleader/model/ElectionMessage$Kind" := Exa.start v_k1 hz4
  have O_k1 := own_ord v_k1 hz6
  obtain ⟨a_k2, v_k2⟩ := exa_v hz0
  have S_k2 : Sta s s.heap "com/example/hosts_to_leader/hoststoleader/model/ElectionMessage$Kind" "FINAL" "Lcom/example/hosts_to_leader/hoststoleader/model/ElectionMessage$Kind;" (.ref a_k2) := Sta.start v_k2 (Or.inr ⟨(hw _ (List.mem_of_getElem? (i := 8) rfl)), (hw _ (List.mem_of_getElem? (i := 9) rfl))⟩)
  have E_k2 : Exa s s.heap a_k2 "com/example/hosts_to_leader/hoststoleader/model/ElectionMessage$Kind" := Exa.start v_k2 hz0
  have O_k2 := own_ord v_k2 hz2
  obtain ⟨a_k3, v_k3⟩ := exa_v hz5
  have S_k3 : Sta s s.heap "com/example/hosts_to_leader/hoststoleader/model/ElectionMessage$Kind" "HEARTBEAT" "Lcom/example/hosts_to_leader/hoststoleader/model/ElectionMessage$Kind;" (.ref a_k3) := Sta.start v_k3 (Or.inr ⟨(hw _ (List.mem_of_getElem? (i := 8) rfl)), (hw _ (List.mem_of_getElem? (i := 50) rfl))⟩)
  have E_k3 : Exa s s.heap a_k3 "com/example/hosts_to_leader/hoststoleader/model/ElectionMessage$Kind" := Exa.start v_k3 hz5
  have O_k3 := own_ord v_k3 hz7
  have n_k0_k1 : a_k0 ≠ a_k1 := Fld.ne O_k0 O_k1 (fun q => absurd (Value.int.inj q) (by decide))
  have n_k0_k2 : a_k0 ≠ a_k2 := Fld.ne O_k0 O_k2 (fun q => absurd (Value.int.inj q) (by decide))
  have n_k0_k3 : a_k0 ≠ a_k3 := Fld.ne O_k0 O_k3 (fun q => absurd (Value.int.inj q) (by decide))
  have n_k1_k2 : a_k1 ≠ a_k2 := Fld.ne O_k1 O_k2 (fun q => absurd (Value.int.inj q) (by decide))
  have n_k1_k3 : a_k1 ≠ a_k3 := Fld.ne O_k1 O_k3 (fun q => absurd (Value.int.inj q) (by decide))
  have n_k2_k3 : a_k2 ≠ a_k3 := Fld.ne O_k2 O_k3 (fun q => absurd (Value.int.inj q) (by decide))
  have hr := Cond.before_iff.mp (show rest_1_c.before _ s = true from hrest)
  obtain ⟨r0, hr0⟩ := and_e hr
  obtain ⟨r1, hr1⟩ := and_e hr0
  obtain ⟨r2, hr2⟩ := and_e hr1
  obtain ⟨r3, hr3⟩ := and_e hr2
  obtain ⟨r4, hr4⟩ := and_e hr3
  obtain ⟨r5, hr5⟩ := and_e hr4
  obtain ⟨r6, hr6⟩ := and_e hr5
  obtain ⟨r7, hr7⟩ := and_e hr6
  have SH : Sta s s.heap "java/lang/Integer$IntegerCache" "high" "I" (.int (127 : Int32)) := Sta.start (own_eqi r3) (Or.inl (Cond.before_iff.mpr r1))
  obtain ⟨ca, v_ca⟩ := exa_v r5
  have SC : Sta s s.heap "java/lang/Integer$IntegerCache" "cache" "[Ljava/lang/Integer;" (.ref ca) := Sta.start v_ca (Or.inr ⟨(hw _ (List.mem_of_getElem? (i := 35) rfl)), Cond.before_iff.mpr r2⟩)
  obtain ⟨cl, Ar⟩ := Arr.start v_ca r4
  have CA := own_cache_start v_ca Ar (own_len v_ca Ar r6) r7
  obtain ⟨n, o, h1, h2, h3, _, L, rfl, hQ, hq⟩ := rm_law l s _ hw tables_1 q0 q1 q2 q3 q4 q5 a_k0 a_k1 a_k2 a_k3 ca s.heap.size s.heap (Nat.le_refl _) Ar.lt S_k0 S_k1 S_k2 S_k3 SH SC CA n_k0_k1 n_k0_k2 n_k0_k3 n_k1_k2 n_k1_k3 n_k2_k3 p e ha hc hk s m _ below hf ((Spec.applies_iff_loose hf).mp happ).1 ⟨rfl, State.Warmed39.refl s, rfl⟩ trivial
  obtain ⟨rfl, N⟩ := hQ
  refine ⟨n, _, h1, h2, h3, hpost _ _ _ _ _ _ ⟨Cond.after_iff.mpr rfl, Cond.after_iff.mpr (eq_i res_at (Term.int_eval (1)) rfl), trivial⟩ ⟨hq.1, hq.2.1, (hq.2.2.sift fun y hy => Or.inr (N y hy)).mono (by decide) (by decide)⟩⟩
theorem main_1_1 : Claimed_1_1 := comes_1 fun _ _ _ _ _ _ h hF => ⟨h.1, hF⟩
theorem main_1_2 : Claimed_1_2 := comes_1 fun _ _ _ _ _ _ h hF => ⟨h.2.1, hF⟩
end Jvm.Pilot.@@N@@
namespace Jvm.Pilot.@@N@@
open Jvm Jvm.ClassFile Sem Op Lib Jvm.Free Jvm.Stand Jvm.Pilot.@@N@@.Jvm.D
/-! MADE BY PROGRAM (witnessworld.py) out of the Statement's table words and the real class files: 18 classes; the members and pool entries that the words name. The judged class is class 1, her method 2. -/
namespace start1
open Jvm.ClassFile
def u (s : String) : CpInfo := .utf8 (stringToUtf16 s)
/-- a pool by its gaps: so many unusable entries, then the entry; so many at the end -/
def gap : Nat → List CpInfo → List CpInfo
  | 0, r => r
  | n + 1, r => .unusable :: gap n r
def poolList (es : List (Nat × CpInfo)) (last : Nat) : List CpInfo := es.foldr (fun e r => gap e.1 (e.2 :: r)) (gap last [])
def pool (es : List (Nat × CpInfo)) (last : Nat) : Array CpInfo := ⟨poolList es last⟩
def fileOf (pool : Array CpInfo) (this : Nat) (attrs : Array Attribute := #[]) (ms : Array MethodInfo := #[]) (fl : Nat := 33) (sup : Nat := 0) (ifs : Array Nat := #[]) (fds : Array FieldInfo := #[]) : ClassFile where
  minorVersion := 0
  majorVersion := 65
  constantPool := pool
  accessFlags := fl
  thisClass := this
  superClass := sup
  interfaces := ifs
  fields := fds
  methods := ms
  attributes := attrs
def plain (name : String) (sup : Option ClassId) : Class where
  name := name
  kind := .ordinary
  loader := none
  accessFlags := 33
  super := sup
  interfaces := #[]
  cf := none
  fields := #[]
  methods := #[]
  instanceTypes := #[]
  staticTypes := #[]
  resolved := #[]
  callSites := []
  init := .initialized
  statics := none
  mirror := none

def pool0 : Array CpInfo := pool [(5, u "<init>"), (0, u "()V"), (1, .class_ 10), (1, u "java/lang/Object")] 113

def k0c0 : Code := { maxStack := 0, maxLocals := 1, code := object_method_1_code, exceptionTable := #[], attributes := #[] }
def k0m0 : Method := { name := "<init>", desc := "()V", sig := { parameters := [], returnType := none }, accessFlags := 1, code := some k0c0 }
/-- java/lang/Object -/
def k0 : Class := { plain "java/lang/Object" none with
  accessFlags := 33
  interfaces := #[]
  cf := some (fileOf pool0 8 #[] #[{ accessFlags := 1, nameIndex := 5, descriptorIndex := 6, attributes := #[] }] 33 0 #[] #[])
  fields := #[]
  methods := #[k0m0]
  instanceTypes := #[]
  staticTypes := #[]
  resolved := Array.replicate 124 none
  statics := none }

def pool1 : Array CpInfo := pool [(2, .class_ 4), (1, u "java/lang/Object"), (0, u "<init>"), (0, u "()V"), (0, .fieldref 8 9), (0, .class_ 10), (0, .nameAndType 11 12), (0, u "com/example/hosts_to_leader/hoststoleader/model/ElectionMessage$Kind"), (0, u "INITIATING"), (0, u "Lcom/example/hosts_to_leader/hoststoleader/model/ElectionMessage$Kind;"), (0, .fieldref 8 14), (0, .nameAndType 15 12), (0, u "RELAY"), (0, .fieldref 8 17), (0, .nameAndType 18 12), (0, u "FINAL"), (0, .fieldref 8 20), (0, .nameAndType 21 12), (0, u "HEARTBEAT"), (0, .class_ 23), (0, u "com/example/hosts_to_leader/hoststoleader/model/ElectionMessage"), (0, .methodref 25 26), (0, .class_ 27), (0, .nameAndType 28 29), (0, u "com/example/hosts_to_leader/hoststoleader/model/ElectionMessageEqualsPinLaw"), (0, u "kindOf"), (0, u "(I)Lcom/example/hosts_to_leader/hoststoleader/model/ElectionMessage$Kind;"), (0, .methodref 22 31), (0, .nameAndType 5 32), (0, u "(Lcom/example/hosts_to_leader/hoststoleader/model/ElectionMessage$Kind;JJIII)V"), (0, .methodref 34 35), (0, .class_ 36), (0, .nameAndType 37 38), (0, u "java/lang/Integer"), (0, u "valueOf"), (0, u "(I)Ljava/lang/Integer;"), (0, .methodref 22 40), (0, .nameAndType 41 42), (0, u "equals"), (0, u "(Ljava/lang/Object;)Z"), (3, u "law"), (0, u "(JJIIII)Z")] 4

def k1m0 : Method := { name := "<init>", desc := "()V", sig := { parameters := [], returnType := none }, accessFlags := 1, code := none }
def k1c1 : Code := { maxStack := 2, maxLocals := 1, code := method_2_code, exceptionTable := #[], attributes := #[] }
def k1m1 : Method := { name := "kindOf", desc := "(I)Lcom/example/hosts_to_leader/hoststoleader/model/ElectionMessage$Kind;", sig := { parameters := [.int], returnType := some (.object "com/example/hosts_to_leader/hoststoleader/model/ElectionMessage$Kind") }, accessFlags := 10, code := some k1c1 }
def k1c2 : Code := { maxStack := 10, maxLocals := 21, code := code, exceptionTable := #[], attributes := #[] }
def k1m2 : Method := { name := "law", desc := "(JJIIII)Z", sig := { parameters := [.long, .long, .int, .int, .int, .int], returnType := some .boolean }, accessFlags := 9, code := some k1c2 }
/-- com/example/hosts_to_leader/hoststoleader/model/ElectionMessageEqualsPinLaw -/
def k1 : Class := { plain "com/example/hosts_to_leader/hoststoleader/model/ElectionMessageEqualsPinLaw" (some 0) with
  accessFlags := 49
  interfaces := #[]
  cf := some (fileOf pool1 25 #[] #[{ accessFlags := 1, nameIndex := 5, descriptorIndex := 6, attributes := #[] }, { accessFlags := 10, nameIndex := 28, descriptorIndex := 29, attributes := #[] }, { accessFlags := 9, nameIndex := 46, descriptorIndex := 47, attributes := #[] }] 49 2 #[] #[])
  fields := #[]
  methods := #[k1m0, k1m1, k1m2]
  instanceTypes := #[]
  staticTypes := #[]
  resolved := Array.replicate 52 none
  statics := none }

def pool2 : Array CpInfo := pool [(1, .methodref 2 3), (0, .class_ 4), (0, .nameAndType 5 6), (0, u "java/lang/Object"), (0, u "<init>"), (0, u "()V"), (0, .fieldref 8 9), (0, .class_ 10), (0, .nameAndType 11 12), (0, u "com/example/hosts_to_leader/hoststoleader/model/ElectionMessage"), (0, u "kind"), (0, u "Lcom/example/hosts_to_leader/hoststoleader/model/ElectionMessage$Kind;"), (0, .fieldref 8 14), (0, .nameAndType 15 16), (0, u "electionNumber"), (0, u "J"), (0, .fieldref 8 18), (0, .nameAndType 19 16), (0, u "electionKey"), (0, .fieldref 8 21), (0, .nameAndType 22 23), (0, u "round"), (0, u "I"), (0, .fieldref 8 25), (0, .nameAndType 26 23), (0, u "sender"), (0, .fieldref 8 28), (0, .nameAndType 29 23), (0, u "leader"), (7, .class_ 39), (1, u "com/example/hosts_to_leader/hoststoleader/model/ElectionMessage$Kind"), (28, u "NOT_A_MEMBER"), (2, u "UNNUMBERED"), (2, u "(Lcom/example/hosts_to_leader/hoststoleader/model/ElectionMessage$Kind;JJIII)V"), (13, u "equals"), (0, u "(Ljava/lang/Object;)Z")] 7

def k2c0 : Code := { maxStack := 3, maxLocals := 9, code := prog_8_method_1_code, exceptionTable := #[], attributes := #[] }
def k2m0 : Method := { name := "<init>", desc := "(Lcom/example/hosts_to_leader/hoststoleader/model/ElectionMessage$Kind;JJIII)V", sig := { parameters := [(.object "com/example/hosts_to_leader/hoststoleader/model/ElectionMessage$Kind"), .long, .long, .int, .int, .int], returnType := none }, accessFlags := 1, code := some k2c0 }
def k2c1 : Code := { maxStack := 4, maxLocals := 3, code := prog_8_method_9_code, exceptionTable := #[], attributes := #[] }
def k2m1 : Method := { name := "equals", desc := "(Ljava/lang/Object;)Z", sig := { parameters := [(.object "java/lang/Object")], returnType := some .boolean }, accessFlags := 1, code := some k2c1 }
/-- com/example/hosts_to_leader/hoststoleader/model/ElectionMessage -/
def k2 : Class := { plain "com/example/hosts_to_leader/hoststoleader/model/ElectionMessage" (some 0) with
  accessFlags := 49
  interfaces := #[]
  cf := some (fileOf pool2 8 #[.nestMembers #[37]] #[{ accessFlags := 1, nameIndex := 5, descriptorIndex := 74, attributes := #[] }, { accessFlags := 1, nameIndex := 88, descriptorIndex := 89, attributes := #[] }] 49 2 #[] #[{ accessFlags := 25, nameIndex := 68, descriptorIndex := 23, attributes := #[] }, { accessFlags := 25, nameIndex := 71, descriptorIndex := 16, attributes := #[] }, { accessFlags := 18, nameIndex := 11, descriptorIndex := 12, attributes := #[] }, { accessFlags := 18, nameIndex := 15, descriptorIndex := 16, attributes := #[] }, { accessFlags := 18, nameIndex := 19, descriptorIndex := 16, attributes := #[] }, { accessFlags := 18, nameIndex := 22, descriptorIndex := 23, attributes := #[] }, { accessFlags := 18, nameIndex := 26, descriptorIndex := 23, attributes := #[] }, { accessFlags := 18, nameIndex := 29, descriptorIndex := 23, attributes := #[] }])
  fields := #[{ name := "NOT_A_MEMBER", type := .int, accessFlags := 25, slot := 0, constantValue := 0 }, { name := "UNNUMBERED", type := .long, accessFlags := 25, slot := 1, constantValue := 0 }, { name := "kind", type := (.object "com/example/hosts_to_leader/hoststoleader/model/ElectionMessage$Kind"), accessFlags := 18, slot := 0, constantValue := 0 }, { name := "electionNumber", type := .long, accessFlags := 18, slot := 1, constantValue := 0 }, { name := "electionKey", type := .long, accessFlags := 18, slot := 2, constantValue := 0 }, { name := "round", type := .int, accessFlags := 18, slot := 3, constantValue := 0 }, { name := "sender", type := .int, accessFlags := 18, slot := 4, constantValue := 0 }, { name := "leader", type := .int, accessFlags := 18, slot := 5, constantValue := 0 }]
  methods := #[k2m0, k2m1]
  instanceTypes := #[(.object "com/example/hosts_to_leader/hoststoleader/model/ElectionMessage$Kind"), .long, .long, .int, .int, .int]
  staticTypes := #[.int, .long]
  resolved := Array.replicate 97 none
  statics := none }

def pool3 : Array CpInfo := pool [(1, .class_ 2), (0, u "java/lang/constant/Constable"), (0, .class_ 4), (0, u "java/lang/Object")] 6

/-- java/lang/constant/Constable -/
def k3 : Class := { plain "java/lang/constant/Constable" (some 0) with
  accessFlags := 1537
  interfaces := #[]
  cf := some (fileOf pool3 1 #[] #[] 1537 3 #[] #[])
  fields := #[]
  methods := #[]
  instanceTypes := #[]
  staticTypes := #[]
  resolved := Array.replicate 11 none
  statics := none }

def pool4 : Array CpInfo := pool [(1, .class_ 2), (0, u "java/lang/Comparable"), (0, .class_ 4), (0, u "java/lang/Object")] 7

/-- java/lang/Comparable -/
def k4 : Class := { plain "java/lang/Comparable" (some 0) with
  accessFlags := 1537
  interfaces := #[]
  cf := some (fileOf pool4 1 #[] #[] 1537 3 #[] #[])
  fields := #[]
  methods := #[]
  instanceTypes := #[]
  staticTypes := #[]
  resolved := Array.replicate 12 none
  statics := none }

def pool5 : Array CpInfo := pool [(1, .class_ 2), (0, u "java/io/Serializable"), (0, .class_ 4), (0, u "java/lang/Object")] 2

/-- java/io/Serializable -/
def k5 : Class := { plain "java/io/Serializable" (some 0) with
  accessFlags := 1537
  interfaces := #[]
  cf := some (fileOf pool5 1 #[] #[] 1537 3 #[] #[])
  fields := #[]
  methods := #[]
  instanceTypes := #[]
  staticTypes := #[]
  resolved := Array.replicate 7 none
  statics := none }

def pool6 : Array CpInfo := pool [(2, .class_ 4), (1, u "java/lang/Enum"), (0, u "name"), (0, u "Ljava/lang/String;"), (2, u "ordinal"), (0, u "I"), (1, .class_ 14), (1, u "java/lang/Object"), (4, u "hash"), (86, .class_ 108), (1, u "java/lang/Enum$EnumDesc"), (2, .class_ 112), (0, u "java/lang/constant/Constable"), (0, .class_ 114), (0, u "java/lang/Comparable"), (0, .class_ 116), (0, u "java/io/Serializable")] 87

/-- java/lang/Enum -/
def k6 : Class := { plain "java/lang/Enum" (some 0) with
  accessFlags := 1057
  interfaces := #[3, 4, 5]
  cf := some (fileOf pool6 2 #[.nestMembers #[106]] #[] 1057 12 #[111, 113, 115] #[{ accessFlags := 18, nameIndex := 5, descriptorIndex := 6, attributes := #[] }, { accessFlags := 18, nameIndex := 9, descriptorIndex := 10, attributes := #[] }, { accessFlags := 2, nameIndex := 19, descriptorIndex := 10, attributes := #[] }])
  fields := #[{ name := "name", type := (.object "java/lang/String"), accessFlags := 18, slot := 0, constantValue := 0 }, { name := "ordinal", type := .int, accessFlags := 18, slot := 1, constantValue := 0 }, { name := "hash", type := .int, accessFlags := 2, slot := 2, constantValue := 0 }]
  methods := #[]
  instanceTypes := #[(.object "java/lang/String"), .int, .int]
  staticTypes := #[]
  resolved := Array.replicate 204 none
  statics := none }

def pool7 : Array CpInfo := pool [(1, .class_ 2), (0, u "com/example/hosts_to_leader/hoststoleader/model/ElectionMessage$Kind"), (2, u "INITIATING"), (0, u "Lcom/example/hosts_to_leader/hoststoleader/model/ElectionMessage$Kind;"), (2, u "RELAY"), (2, u "FINAL"), (2, u "HEARTBEAT"), (2, u "$VALUES"), (0, u "[Lcom/example/hosts_to_leader/hoststoleader/model/ElectionMessage$Kind;"), (6, .class_ 28), (1, u "java/lang/Enum"), (27, .class_ 57), (0, u "com/example/hosts_to_leader/hoststoleader/model/ElectionMessage")] 2

/-- com/example/hosts_to_leader/hoststoleader/model/ElectionMessage$Kind -/
def k7 : Class := { plain "com/example/hosts_to_leader/hoststoleader/model/ElectionMessage$Kind" (some 6) with
  accessFlags := 16433
  interfaces := #[]
  cf := some (fileOf pool7 1 #[.nestHost 56] #[] 16433 26 #[] #[{ accessFlags := 16409, nameIndex := 5, descriptorIndex := 6, attributes := #[] }, { accessFlags := 16409, nameIndex := 9, descriptorIndex := 6, attributes := #[] }, { accessFlags := 16409, nameIndex := 12, descriptorIndex := 6, attributes := #[] }, { accessFlags := 16409, nameIndex := 15, descriptorIndex := 6, attributes := #[] }, { accessFlags := 4122, nameIndex := 18, descriptorIndex := 19, attributes := #[] }])
  fields := #[{ name := "INITIATING", type := (.object "com/example/hosts_to_leader/hoststoleader/model/ElectionMessage$Kind"), accessFlags := 16409, slot := 0, constantValue := 0 }, { name := "RELAY", type := (.object "com/example/hosts_to_leader/hoststoleader/model/ElectionMessage$Kind"), accessFlags := 16409, slot := 1, constantValue := 0 }, { name := "FINAL", type := (.object "com/example/hosts_to_leader/hoststoleader/model/ElectionMessage$Kind"), accessFlags := 16409, slot := 2, constantValue := 0 }, { name := "HEARTBEAT", type := (.object "com/example/hosts_to_leader/hoststoleader/model/ElectionMessage$Kind"), accessFlags := 16409, slot := 3, constantValue := 0 }, { name := "$VALUES", type := (.array (.object "com/example/hosts_to_leader/hoststoleader/model/ElectionMessage$Kind")), accessFlags := 4122, slot := 4, constantValue := 0 }]
  methods := #[]
  instanceTypes := #[(.object "java/lang/String"), .int, .int]
  staticTypes := #[(.object "com/example/hosts_to_leader/hoststoleader/model/ElectionMessage$Kind"), (.object "com/example/hosts_to_leader/hoststoleader/model/ElectionMessage$Kind"), (.object "com/example/hosts_to_leader/hoststoleader/model/ElectionMessage$Kind"), (.object "com/example/hosts_to_leader/hoststoleader/model/ElectionMessage$Kind"), (.array (.object "com/example/hosts_to_leader/hoststoleader/model/ElectionMessage$Kind"))]
  resolved := Array.replicate 60 none
  statics := some 0 }

def pool8 : Array CpInfo := pool [(1, .methodref 2 3), (0, .class_ 4), (0, .nameAndType 5 6), (0, u "java/lang/Object"), (0, u "<init>"), (0, u "()V"), (1, .class_ 10), (1, u "java/lang/Number"), (2, .class_ 14), (0, u "java/io/Serializable"), (0, u "serialVersionUID"), (0, u "J")] 20

def k8c0 : Code := { maxStack := 1, maxLocals := 1, code := jdk_18_method_1_code, exceptionTable := #[], attributes := #[] }
def k8m0 : Method := { name := "<init>", desc := "()V", sig := { parameters := [], returnType := none }, accessFlags := 1, code := some k8c0 }
/-- java/lang/Number -/
def k8 : Class := { plain "java/lang/Number" (some 0) with
  accessFlags := 1057
  interfaces := #[5]
  cf := some (fileOf pool8 8 #[] #[{ accessFlags := 1, nameIndex := 5, descriptorIndex := 6, attributes := #[] }] 1057 2 #[13] #[{ accessFlags := 26, nameIndex := 15, descriptorIndex := 16, attributes := #[] }])
  fields := #[{ name := "serialVersionUID", type := .long, accessFlags := 26, slot := 0, constantValue := 0 }]
  methods := #[k8m0]
  instanceTypes := #[]
  staticTypes := #[.long]
  resolved := Array.replicate 37 none
  statics := none }

def pool9 : Array CpInfo := pool [(1, .class_ 2), (0, u "java/lang/constant/ConstantDesc"), (0, .class_ 4), (0, u "java/lang/Object")] 32

/-- java/lang/constant/ConstantDesc -/
def k9 : Class := { plain "java/lang/constant/ConstantDesc" (some 0) with
  accessFlags := 1537
  interfaces := #[]
  cf := some (fileOf pool9 1 #[] #[] 1537 3 #[] #[])
  fields := #[]
  methods := #[]
  instanceTypes := #[]
  staticTypes := #[]
  resolved := Array.replicate 37 none
  statics := none }

def pool10 : Array CpInfo := pool [(1, .class_ 2), (0, u "java/lang/Integer"), (16, u "digits"), (0, u "[C"), (46, u "<init>"), (17, u "DigitOnes"), (0, u "[B"), (2, u "DigitTens"), (10, .nameAndType 67 101), (0, u "()V"), (85, u "valueOf"), (0, u "(I)Ljava/lang/Integer;"), (0, .class_ 190), (0, u "java/lang/Integer$IntegerCache"), (0, .fieldref 189 192), (0, .nameAndType 193 194), (0, u "high"), (0, u "I"), (0, .fieldref 189 196), (0, .nameAndType 197 198), (0, u "cache"), (0, u "[Ljava/lang/Integer;"), (0, .methodref 1 200), (0, .nameAndType 67 201), (0, u "(I)V"), (0, .methodref 203 100), (0, .class_ 204), (0, u "java/lang/Number"), (0, .fieldref 1 206), (0, .nameAndType 207 194), (0, u "value"), (94, u "TYPE"), (0, u "Ljava/lang/Class;"), (0, .class_ 305), (0, u "java/lang/Comparable"), (0, .class_ 307), (0, u "java/lang/constant/Constable"), (0, .class_ 309), (0, u "java/lang/constant/ConstantDesc"), (0, u "MIN_VALUE"), (1, u "MAX_VALUE"), (3, u "SIZE"), (1, u "BYTES"), (1, u "serialVersionUID"), (0, u "J")] 131

def k10c0 : Code := { maxStack := 3, maxLocals := 1, code := jdk_33_method_22_code, exceptionTable := #[], attributes := #[] }
def k10m0 : Method := { name := "valueOf", desc := "(I)Ljava/lang/Integer;", sig := { parameters := [.int], returnType := some (.object "java/lang/Integer") }, accessFlags := 9, code := some k10c0 }
def k10c1 : Code := { maxStack := 2, maxLocals := 2, code := jdk_33_method_23_code, exceptionTable := #[], attributes := #[] }
def k10m1 : Method := { name := "<init>", desc := "(I)V", sig := { parameters := [.int], returnType := none }, accessFlags := 1, code := some k10c1 }
/-- java/lang/Integer -/
def k10 : Class := { plain "java/lang/Integer" (some 8) with
  accessFlags := 49
  interfaces := #[4, 3, 9]
  cf := some (fileOf pool10 1 #[.nestMembers #[189]] #[{ accessFlags := 9, nameIndex := 187, descriptorIndex := 188, attributes := #[] }, { accessFlags := 1, nameIndex := 67, descriptorIndex := 201, attributes := #[] }] 49 203 #[304, 306, 308] #[{ accessFlags := 25, nameIndex := 310, descriptorIndex := 194, attributes := #[] }, { accessFlags := 25, nameIndex := 312, descriptorIndex := 194, attributes := #[] }, { accessFlags := 25, nameIndex := 302, descriptorIndex := 303, attributes := #[] }, { accessFlags := 24, nameIndex := 19, descriptorIndex := 20, attributes := #[] }, { accessFlags := 24, nameIndex := 89, descriptorIndex := 86, attributes := #[] }, { accessFlags := 24, nameIndex := 85, descriptorIndex := 86, attributes := #[] }, { accessFlags := 18, nameIndex := 207, descriptorIndex := 194, attributes := #[] }, { accessFlags := 25, nameIndex := 316, descriptorIndex := 194, attributes := #[] }, { accessFlags := 25, nameIndex := 318, descriptorIndex := 194, attributes := #[] }, { accessFlags := 26, nameIndex := 320, descriptorIndex := 321, attributes := #[] }])
  fields := #[{ name := "MIN_VALUE", type := .int, accessFlags := 25, slot := 0, constantValue := 0 }, { name := "MAX_VALUE", type := .int, accessFlags := 25, slot := 1, constantValue := 0 }, { name := "TYPE", type := (.object "java/lang/Class"), accessFlags := 25, slot := 2, constantValue := 0 }, { name := "digits", type := (.array .char), accessFlags := 24, slot := 3, constantValue := 0 }, { name := "DigitTens", type := (.array .byte), accessFlags := 24, slot := 4, constantValue := 0 }, { name := "DigitOnes", type := (.array .byte), accessFlags := 24, slot := 5, constantValue := 0 }, { name := "value", type := .int, accessFlags := 18, slot := 0, constantValue := 0 }, { name := "SIZE", type := .int, accessFlags := 25, slot := 6, constantValue := 0 }, { name := "BYTES", type := .int, accessFlags := 25, slot := 7, constantValue := 0 }, { name := "serialVersionUID", type := .long, accessFlags := 26, slot := 8, constantValue := 0 }]
  methods := #[k10m0, k10m1]
  instanceTypes := #[.int]
  staticTypes := #[.int, .int, (.object "java/lang/Class"), (.array .char), (.array .byte), (.array .byte), .int, .int, .long]
  resolved := Array.replicate 453 none
  statics := none }

def pool11 : Array CpInfo := pool [(2, .class_ 4), (1, u "java/lang/Object"), (0, u "<init>"), (0, u "()V"), (0, .class_ 8), (0, u "java/lang/Integer"), (7, .class_ 18), (1, u "java/lang/Integer$IntegerCache"), (0, u "$assertionsDisabled"), (0, u "Z"), (26, u "high"), (0, u "I"), (8, u "archivedCache"), (0, u "[Ljava/lang/Integer;"), (12, u "cache"), (0, u "low")] 27

def k11m0 : Method := { name := "<init>", desc := "()V", sig := { parameters := [], returnType := none }, accessFlags := 2, code := none }
/-- java/lang/Integer$IntegerCache -/
def k11 : Class := { plain "java/lang/Integer$IntegerCache" (some 0) with
  accessFlags := 48
  interfaces := #[]
  cf := some (fileOf pool11 16 #[.nestHost 7] #[{ accessFlags := 2, nameIndex := 5, descriptorIndex := 6, attributes := #[] }] 48 2 #[] #[{ accessFlags := 24, nameIndex := 72, descriptorIndex := 48, attributes := #[] }, { accessFlags := 24, nameIndex := 47, descriptorIndex := 48, attributes := #[] }, { accessFlags := 24, nameIndex := 71, descriptorIndex := 58, attributes := #[] }, { accessFlags := 8, nameIndex := 57, descriptorIndex := 58, attributes := #[] }, { accessFlags := 4120, nameIndex := 19, descriptorIndex := 20, attributes := #[] }])
  fields := #[{ name := "low", type := .int, accessFlags := 24, slot := 0, constantValue := 0 }, { name := "high", type := .int, accessFlags := 24, slot := 1, constantValue := 0 }, { name := "cache", type := (.array (.object "java/lang/Integer")), accessFlags := 24, slot := 2, constantValue := 0 }, { name := "archivedCache", type := (.array (.object "java/lang/Integer")), accessFlags := 8, slot := 3, constantValue := 0 }, { name := "$assertionsDisabled", type := .boolean, accessFlags := 4120, slot := 4, constantValue := 0 }]
  methods := #[k11m0]
  instanceTypes := #[]
  staticTypes := #[.int, .int, (.array (.object "java/lang/Integer")), (.array (.object "java/lang/Integer")), .boolean]
  resolved := Array.replicate 100 none
  statics := some 1 }

def pool12 : Array CpInfo := pool [(1, u "java/lang/Cloneable"), (0, .class_ 1), (0, u "java/lang/Object"), (0, .class_ 3)] 3

/-- java/lang/Cloneable -/
def k12 : Class := { plain "java/lang/Cloneable" (some 0) with
  accessFlags := 1537
  interfaces := #[]
  cf := some (fileOf pool12 2 #[] #[] 1537 4 #[] #[])
  fields := #[]
  methods := #[]
  instanceTypes := #[]
  staticTypes := #[]
  resolved := Array.replicate 8 none
  statics := none }

/-- the primitive byte -/
def k13 : Class := { plain "byte" none with kind := .primitive 'B', accessFlags := 0x411 }
/-- [B -/
def k14 : Class := { plain "[B" (some 0) with kind := .array 13 .byte, interfaces := #[12, 5], accessFlags := 1041 }

/-- the primitive int -/
def k15 : Class := { plain "int" none with kind := .primitive 'I', accessFlags := 0x411 }
/-- [I -/
def k16 : Class := { plain "[I" (some 0) with kind := .array 15 .int, interfaces := #[12, 5], accessFlags := 1041 }

/-- [Ljava/lang/Integer; -/
def k17 : Class := { plain "[Ljava/lang/Integer;" (some 0) with kind := .array 10 (.object "java/lang/Integer"), interfaces := #[12, 5], accessFlags := 1041 }

def heap : Heap := #[{ cls := 7, slots := #[.ref 259, .ref 260, .ref 261, .ref 262, .null], vm := .statics 7 },
  { cls := 11, slots := #[.int 0, .int 127, .ref 2, .null, .int 0], vm := .statics 11 },
  { cls := 17, slots := #[.ref 3, .ref 4, .ref 5, .ref 6, .ref 7, .ref 8, .ref 9, .ref 10, .ref 11, .ref 12, .ref 13, .ref 14, .ref 15, .ref 16, .ref 17, .ref 18, .ref 19, .ref 20, .ref 21, .ref 22, .ref 23, .ref 24, .ref 25, .ref 26, .ref 27, .ref 28, .ref 29, .ref 30, .ref 31, .ref 32, .ref 33, .ref 34, .ref 35, .ref 36, .ref 37, .ref 38, .ref 39, .ref 40, .ref 41, .ref 42, .ref 43, .ref 44, .ref 45, .ref 46, .ref 47, .ref 48, .ref 49, .ref 50, .ref 51, .ref 52, .ref 53, .ref 54, .ref 55, .ref 56, .ref 57, .ref 58, .ref 59, .ref 60, .ref 61, .ref 62, .ref 63, .ref 64, .ref 65, .ref 66, .ref 67, .ref 68, .ref 69, .ref 70, .ref 71, .ref 72, .ref 73, .ref 74, .ref 75, .ref 76, .ref 77, .ref 78, .ref 79, .ref 80, .ref 81, .ref 82, .ref 83, .ref 84, .ref 85, .ref 86, .ref 87, .ref 88, .ref 89, .ref 90, .ref 91, .ref 92, .ref 93, .ref 94, .ref 95, .ref 96, .ref 97, .ref 98, .ref 99, .ref 100, .ref 101, .ref 102, .ref 103, .ref 104, .ref 105, .ref 106, .ref 107, .ref 108, .ref 109, .ref 110, .ref 111, .ref 112, .ref 113, .ref 114, .ref 115, .ref 116, .ref 117, .ref 118, .ref 119, .ref 120, .ref 121, .ref 122, .ref 123, .ref 124, .ref 125, .ref 126, .ref 127, .ref 128, .ref 129, .ref 130, .ref 131, .ref 132, .ref 133, .ref 134, .ref 135, .ref 136, .ref 137, .ref 138, .ref 139, .ref 140, .ref 141, .ref 142, .ref 143, .ref 144, .ref 145, .ref 146, .ref 147, .ref 148, .ref 149, .ref 150, .ref 151, .ref 152, .ref 153, .ref 154, .ref 155, .ref 156, .ref 157, .ref 158, .ref 159, .ref 160, .ref 161, .ref 162, .ref 163, .ref 164, .ref 165, .ref 166, .ref 167, .ref 168, .ref 169, .ref 170, .ref 171, .ref 172, .ref 173, .ref 174, .ref 175, .ref 176, .ref 177, .ref 178, .ref 179, .ref 180, .ref 181, .ref 182, .ref 183, .ref 184, .ref 185, .ref 186, .ref 187, .ref 188, .ref 189, .ref 190, .ref 191, .ref 192, .ref 193, .ref 194, .ref 195, .ref 196, .ref 197, .ref 198, .ref 199, .ref 200, .ref 201, .ref 202, .ref 203, .ref 204, .ref 205, .ref 206, .ref 207, .ref 208, .ref 209, .ref 210, .ref 211, .ref 212, .ref 213, .ref 214, .ref 215, .ref 216, .ref 217, .ref 218, .ref 219, .ref 220, .ref 221, .ref 222, .ref 223, .ref 224, .ref 225, .ref 226, .ref 227, .ref 228, .ref 229, .ref 230, .ref 231, .ref 232, .ref 233, .ref 234, .ref 235, .ref 236, .ref 237, .ref 238, .ref 239, .ref 240, .ref 241, .ref 242, .ref 243, .ref 244, .ref 245, .ref 246, .ref 247, .ref 248, .ref 249, .ref 250, .ref 251, .ref 252, .ref 253, .ref 254, .ref 255, .ref 256, .ref 257, .ref 258], vm := .none },
  { cls := 10, slots := #[.int (-128)], vm := .none },
  { cls := 10, slots := #[.int (-127)], vm := .none },
  { cls := 10, slots := #[.int (-126)], vm := .none },
  { cls := 10, slots := #[.int (-125)], vm := .none },
  { cls := 10, slots := #[.int (-124)], vm := .none },
  { cls := 10, slots := #[.int (-123)], vm := .none },
  { cls := 10, slots := #[.int (-122)], vm := .none },
  { cls := 10, slots := #[.int (-121)], vm := .none },
  { cls := 10, slots := #[.int (-120)], vm := .none },
  { cls := 10, slots := #[.int (-119)], vm := .none },
  { cls := 10, slots := #[.int (-118)], vm := .none },
  { cls := 10, slots := #[.int (-117)], vm := .none },
  { cls := 10, slots := #[.int (-116)], vm := .none },
  { cls := 10, slots := #[.int (-115)], vm := .none },
  { cls := 10, slots := #[.int (-114)], vm := .none },
  { cls := 10, slots := #[.int (-113)], vm := .none },
  { cls := 10, slots := #[.int (-112)], vm := .none },
  { cls := 10, slots := #[.int (-111)], vm := .none },
  { cls := 10, slots := #[.int (-110)], vm := .none },
  { cls := 10, slots := #[.int (-109)], vm := .none },
  { cls := 10, slots := #[.int (-108)], vm := .none },
  { cls := 10, slots := #[.int (-107)], vm := .none },
  { cls := 10, slots := #[.int (-106)], vm := .none },
  { cls := 10, slots := #[.int (-105)], vm := .none },
  { cls := 10, slots := #[.int (-104)], vm := .none },
  { cls := 10, slots := #[.int (-103)], vm := .none },
  { cls := 10, slots := #[.int (-102)], vm := .none },
  { cls := 10, slots := #[.int (-101)], vm := .none },
  { cls := 10, slots := #[.int (-100)], vm := .none },
  { cls := 10, slots := #[.int (-99)], vm := .none },
  { cls := 10, slots := #[.int (-98)], vm := .none },
  { cls := 10, slots := #[.int (-97)], vm := .none },
  { cls := 10, slots := #[.int (-96)], vm := .none },
  { cls := 10, slots := #[.int (-95)], vm := .none },
  { cls := 10, slots := #[.int (-94)], vm := .none },
  { cls := 10, slots := #[.int (-93)], vm := .none },
  { cls := 10, slots := #[.int (-92)], vm := .none },
  { cls := 10, slots := #[.int (-91)], vm := .none },
  { cls := 10, slots := #[.int (-90)], vm := .none },
  { cls := 10, slots := #[.int (-89)], vm := .none },
  { cls := 10, slots := #[.int (-88)], vm := .none },
  { cls := 10, slots := #[.int (-87)], vm := .none },
  { cls := 10, slots := #[.int (-86)], vm := .none },
  { cls := 10, slots := #[.int (-85)], vm := .none },
  { cls := 10, slots := #[.int (-84)], vm := .none },
  { cls := 10, slots := #[.int (-83)], vm := .none },
  { cls := 10, slots := #[.int (-82)], vm := .none },
  { cls := 10, slots := #[.int (-81)], vm := .none },
  { cls := 10, slots := #[.int (-80)], vm := .none },
  { cls := 10, slots := #[.int (-79)], vm := .none },
  { cls := 10, slots := #[.int (-78)], vm := .none },
  { cls := 10, slots := #[.int (-77)], vm := .none },
  { cls := 10, slots := #[.int (-76)], vm := .none },
  { cls := 10, slots := #[.int (-75)], vm := .none },
  { cls := 10, slots := #[.int (-74)], vm := .none },
  { cls := 10, slots := #[.int (-73)], vm := .none },
  { cls := 10, slots := #[.int (-72)], vm := .none },
  { cls := 10, slots := #[.int (-71)], vm := .none },
  { cls := 10, slots := #[.int (-70)], vm := .none },
  { cls := 10, slots := #[.int (-69)], vm := .none },
  { cls := 10, slots := #[.int (-68)], vm := .none },
  { cls := 10, slots := #[.int (-67)], vm := .none },
  { cls := 10, slots := #[.int (-66)], vm := .none },
  { cls := 10, slots := #[.int (-65)], vm := .none },
  { cls := 10, slots := #[.int (-64)], vm := .none },
  { cls := 10, slots := #[.int (-63)], vm := .none },
  { cls := 10, slots := #[.int (-62)], vm := .none },
  { cls := 10, slots := #[.int (-61)], vm := .none },
  { cls := 10, slots := #[.int (-60)], vm := .none },
  { cls := 10, slots := #[.int (-59)], vm := .none },
  { cls := 10, slots := #[.int (-58)], vm := .none },
  { cls := 10, slots := #[.int (-57)], vm := .none },
  { cls := 10, slots := #[.int (-56)], vm := .none },
  { cls := 10, slots := #[.int (-55)], vm := .none },
  { cls := 10, slots := #[.int (-54)], vm := .none },
  { cls := 10, slots := #[.int (-53)], vm := .none },
  { cls := 10, slots := #[.int (-52)], vm := .none },
  { cls := 10, slots := #[.int (-51)], vm := .none },
  { cls := 10, slots := #[.int (-50)], vm := .none },
  { cls := 10, slots := #[.int (-49)], vm := .none },
  { cls := 10, slots := #[.int (-48)], vm := .none },
  { cls := 10, slots := #[.int (-47)], vm := .none },
  { cls := 10, slots := #[.int (-46)], vm := .none },
  { cls := 10, slots := #[.int (-45)], vm := .none },
  { cls := 10, slots := #[.int (-44)], vm := .none },
  { cls := 10, slots := #[.int (-43)], vm := .none },
  { cls := 10, slots := #[.int (-42)], vm := .none },
  { cls := 10, slots := #[.int (-41)], vm := .none },
  { cls := 10, slots := #[.int (-40)], vm := .none },
  { cls := 10, slots := #[.int (-39)], vm := .none },
  { cls := 10, slots := #[.int (-38)], vm := .none },
  { cls := 10, slots := #[.int (-37)], vm := .none },
  { cls := 10, slots := #[.int (-36)], vm := .none },
  { cls := 10, slots := #[.int (-35)], vm := .none },
  { cls := 10, slots := #[.int (-34)], vm := .none },
  { cls := 10, slots := #[.int (-33)], vm := .none },
  { cls := 10, slots := #[.int (-32)], vm := .none },
  { cls := 10, slots := #[.int (-31)], vm := .none },
  { cls := 10, slots := #[.int (-30)], vm := .none },
  { cls := 10, slots := #[.int (-29)], vm := .none },
  { cls := 10, slots := #[.int (-28)], vm := .none },
  { cls := 10, slots := #[.int (-27)], vm := .none },
  { cls := 10, slots := #[.int (-26)], vm := .none },
  { cls := 10, slots := #[.int (-25)], vm := .none },
  { cls := 10, slots := #[.int (-24)], vm := .none },
  { cls := 10, slots := #[.int (-23)], vm := .none },
  { cls := 10, slots := #[.int (-22)], vm := .none },
  { cls := 10, slots := #[.int (-21)], vm := .none },
  { cls := 10, slots := #[.int (-20)], vm := .none },
  { cls := 10, slots := #[.int (-19)], vm := .none },
  { cls := 10, slots := #[.int (-18)], vm := .none },
  { cls := 10, slots := #[.int (-17)], vm := .none },
  { cls := 10, slots := #[.int (-16)], vm := .none },
  { cls := 10, slots := #[.int (-15)], vm := .none },
  { cls := 10, slots := #[.int (-14)], vm := .none },
  { cls := 10, slots := #[.int (-13)], vm := .none },
  { cls := 10, slots := #[.int (-12)], vm := .none },
  { cls := 10, slots := #[.int (-11)], vm := .none },
  { cls := 10, slots := #[.int (-10)], vm := .none },
  { cls := 10, slots := #[.int (-9)], vm := .none },
  { cls := 10, slots := #[.int (-8)], vm := .none },
  { cls := 10, slots := #[.int (-7)], vm := .none },
  { cls := 10, slots := #[.int (-6)], vm := .none },
  { cls := 10, slots := #[.int (-5)], vm := .none },
  { cls := 10, slots := #[.int (-4)], vm := .none },
  { cls := 10, slots := #[.int (-3)], vm := .none },
  { cls := 10, slots := #[.int (-2)], vm := .none },
  { cls := 10, slots := #[.int (-1)], vm := .none },
  { cls := 10, slots := #[.int (0)], vm := .none },
  { cls := 10, slots := #[.int (1)], vm := .none },
  { cls := 10, slots := #[.int (2)], vm := .none },
  { cls := 10, slots := #[.int (3)], vm := .none },
  { cls := 10, slots := #[.int (4)], vm := .none },
  { cls := 10, slots := #[.int (5)], vm := .none },
  { cls := 10, slots := #[.int (6)], vm := .none },
  { cls := 10, slots := #[.int (7)], vm := .none },
  { cls := 10, slots := #[.int (8)], vm := .none },
  { cls := 10, slots := #[.int (9)], vm := .none },
  { cls := 10, slots := #[.int (10)], vm := .none },
  { cls := 10, slots := #[.int (11)], vm := .none },
  { cls := 10, slots := #[.int (12)], vm := .none },
  { cls := 10, slots := #[.int (13)], vm := .none },
  { cls := 10, slots := #[.int (14)], vm := .none },
  { cls := 10, slots := #[.int (15)], vm := .none },
  { cls := 10, slots := #[.int (16)], vm := .none },
  { cls := 10, slots := #[.int (17)], vm := .none },
  { cls := 10, slots := #[.int (18)], vm := .none },
  { cls := 10, slots := #[.int (19)], vm := .none },
  { cls := 10, slots := #[.int (20)], vm := .none },
  { cls := 10, slots := #[.int (21)], vm := .none },
  { cls := 10, slots := #[.int (22)], vm := .none },
  { cls := 10, slots := #[.int (23)], vm := .none },
  { cls := 10, slots := #[.int (24)], vm := .none },
  { cls := 10, slots := #[.int (25)], vm := .none },
  { cls := 10, slots := #[.int (26)], vm := .none },
  { cls := 10, slots := #[.int (27)], vm := .none },
  { cls := 10, slots := #[.int (28)], vm := .none },
  { cls := 10, slots := #[.int (29)], vm := .none },
  { cls := 10, slots := #[.int (30)], vm := .none },
  { cls := 10, slots := #[.int (31)], vm := .none },
  { cls := 10, slots := #[.int (32)], vm := .none },
  { cls := 10, slots := #[.int (33)], vm := .none },
  { cls := 10, slots := #[.int (34)], vm := .none },
  { cls := 10, slots := #[.int (35)], vm := .none },
  { cls := 10, slots := #[.int (36)], vm := .none },
  { cls := 10, slots := #[.int (37)], vm := .none },
  { cls := 10, slots := #[.int (38)], vm := .none },
  { cls := 10, slots := #[.int (39)], vm := .none },
  { cls := 10, slots := #[.int (40)], vm := .none },
  { cls := 10, slots := #[.int (41)], vm := .none },
  { cls := 10, slots := #[.int (42)], vm := .none },
  { cls := 10, slots := #[.int (43)], vm := .none },
  { cls := 10, slots := #[.int (44)], vm := .none },
  { cls := 10, slots := #[.int (45)], vm := .none },
  { cls := 10, slots := #[.int (46)], vm := .none },
  { cls := 10, slots := #[.int (47)], vm := .none },
  { cls := 10, slots := #[.int (48)], vm := .none },
  { cls := 10, slots := #[.int (49)], vm := .none },
  { cls := 10, slots := #[.int (50)], vm := .none },
  { cls := 10, slots := #[.int (51)], vm := .none },
  { cls := 10, slots := #[.int (52)], vm := .none },
  { cls := 10, slots := #[.int (53)], vm := .none },
  { cls := 10, slots := #[.int (54)], vm := .none },
  { cls := 10, slots := #[.int (55)], vm := .none },
  { cls := 10, slots := #[.int (56)], vm := .none },
  { cls := 10, slots := #[.int (57)], vm := .none },
  { cls := 10, slots := #[.int (58)], vm := .none },
  { cls := 10, slots := #[.int (59)], vm := .none },
  { cls := 10, slots := #[.int (60)], vm := .none },
  { cls := 10, slots := #[.int (61)], vm := .none },
  { cls := 10, slots := #[.int (62)], vm := .none },
  { cls := 10, slots := #[.int (63)], vm := .none },
  { cls := 10, slots := #[.int (64)], vm := .none },
  { cls := 10, slots := #[.int (65)], vm := .none },
  { cls := 10, slots := #[.int (66)], vm := .none },
  { cls := 10, slots := #[.int (67)], vm := .none },
  { cls := 10, slots := #[.int (68)], vm := .none },
  { cls := 10, slots := #[.int (69)], vm := .none },
  { cls := 10, slots := #[.int (70)], vm := .none },
  { cls := 10, slots := #[.int (71)], vm := .none },
  { cls := 10, slots := #[.int (72)], vm := .none },
  { cls := 10, slots := #[.int (73)], vm := .none },
  { cls := 10, slots := #[.int (74)], vm := .none },
  { cls := 10, slots := #[.int (75)], vm := .none },
  { cls := 10, slots := #[.int (76)], vm := .none },
  { cls := 10, slots := #[.int (77)], vm := .none },
  { cls := 10, slots := #[.int (78)], vm := .none },
  { cls := 10, slots := #[.int (79)], vm := .none },
  { cls := 10, slots := #[.int (80)], vm := .none },
  { cls := 10, slots := #[.int (81)], vm := .none },
  { cls := 10, slots := #[.int (82)], vm := .none },
  { cls := 10, slots := #[.int (83)], vm := .none },
  { cls := 10, slots := #[.int (84)], vm := .none },
  { cls := 10, slots := #[.int (85)], vm := .none },
  { cls := 10, slots := #[.int (86)], vm := .none },
  { cls := 10, slots := #[.int (87)], vm := .none },
  { cls := 10, slots := #[.int (88)], vm := .none },
  { cls := 10, slots := #[.int (89)], vm := .none },
  { cls := 10, slots := #[.int (90)], vm := .none },
  { cls := 10, slots := #[.int (91)], vm := .none },
  { cls := 10, slots := #[.int (92)], vm := .none },
  { cls := 10, slots := #[.int (93)], vm := .none },
  { cls := 10, slots := #[.int (94)], vm := .none },
  { cls := 10, slots := #[.int (95)], vm := .none },
  { cls := 10, slots := #[.int (96)], vm := .none },
  { cls := 10, slots := #[.int (97)], vm := .none },
  { cls := 10, slots := #[.int (98)], vm := .none },
  { cls := 10, slots := #[.int (99)], vm := .none },
  { cls := 10, slots := #[.int (100)], vm := .none },
  { cls := 10, slots := #[.int (101)], vm := .none },
  { cls := 10, slots := #[.int (102)], vm := .none },
  { cls := 10, slots := #[.int (103)], vm := .none },
  { cls := 10, slots := #[.int (104)], vm := .none },
  { cls := 10, slots := #[.int (105)], vm := .none },
  { cls := 10, slots := #[.int (106)], vm := .none },
  { cls := 10, slots := #[.int (107)], vm := .none },
  { cls := 10, slots := #[.int (108)], vm := .none },
  { cls := 10, slots := #[.int (109)], vm := .none },
  { cls := 10, slots := #[.int (110)], vm := .none },
  { cls := 10, slots := #[.int (111)], vm := .none },
  { cls := 10, slots := #[.int (112)], vm := .none },
  { cls := 10, slots := #[.int (113)], vm := .none },
  { cls := 10, slots := #[.int (114)], vm := .none },
  { cls := 10, slots := #[.int (115)], vm := .none },
  { cls := 10, slots := #[.int (116)], vm := .none },
  { cls := 10, slots := #[.int (117)], vm := .none },
  { cls := 10, slots := #[.int (118)], vm := .none },
  { cls := 10, slots := #[.int (119)], vm := .none },
  { cls := 10, slots := #[.int (120)], vm := .none },
  { cls := 10, slots := #[.int (121)], vm := .none },
  { cls := 10, slots := #[.int (122)], vm := .none },
  { cls := 10, slots := #[.int (123)], vm := .none },
  { cls := 10, slots := #[.int (124)], vm := .none },
  { cls := 10, slots := #[.int (125)], vm := .none },
  { cls := 10, slots := #[.int (126)], vm := .none },
  { cls := 10, slots := #[.int (127)], vm := .none },
  { cls := 7, slots := #[.null, .int 0, .int 0], vm := .none },
  { cls := 7, slots := #[.null, .int 1, .int 0], vm := .none },
  { cls := 7, slots := #[.null, .int 2, .int 0], vm := .none },
  { cls := 7, slots := #[.null, .int 3, .int 0], vm := .none }]
def classes : Array Class := #[k0, k1, k2, k3, k4, k5, k6, k7, k8, k9, k10, k11, k12, k13, k14, k15, k16, k17]
def interned : List (Array UInt16 × Addr) := []
def slotsUsed : Nat := 534
def theMethod : MethodId := ⟨1, 2⟩
def args0 : Array Value := #[.long 5, .long 6, .int 7, .int 8, .int 9, .int 3]
def aboutOver (below : List Frame) : State where
  vm := { classes := classes, interned := interned.toArray }
  heap := heap
  slotsUsed := slotsUsed
  threads := #[{ frames := .invoking theMethod args0 :: below }]
def below0 : List Frame := [.native { method := ⟨0, 0⟩, args := #[] }]
def about1 : State := aboutOver below0
def p0 : Program := .bare "" "" ""
def e0 : Env := launch0.env 0 0 0
theorem w_frames : about1.frames = Frame.invoking theMethod args0 :: below0 := rfl
set_option maxRecDepth 65536 in
theorem w_args : argsFit about1.vm theMethod args0 = true := by decide +kernel
set_option maxRecDepth 65536 in
theorem w_heap : heapFits about1 = true := by decide +kernel
set_option maxRecDepth 65536 in
theorem w_runnable : about1.curStatus? = some .runnable := by decide +kernel
set_option maxRecDepth 65536 in
theorem w_alone : about1.alone = true := by decide +kernel
set_option maxRecDepth 65536 in
theorem w_named : about1.methodNamed? x = some theMethod := by decide +kernel
set_option maxRecDepth 65536 in
theorem w_hears : about1.hears theMethod below0 = true := by decide +kernel
set_option maxRecDepth 65536 in
theorem w_ripe : about1.ripe theMethod args0 below0 = true := by decide +kernel
theorem w_running : about1.status = .running := rfl
set_option maxRecDepth 65536 in
theorem w_room : about1.hasRoom e0.platform room_1 = true :=
  launch0.hasRoom_least _ room_1 (by decide +kernel) (by decide +kernel) (by decide +kernel) (by decide +kernel) (by decide +kernel) (by decide +kernel)
theorem allAtoms_all (ts : List Jvm.Cond) (a : Array Jvm.Value) (st : Jvm.State) : (allAtoms ts).before a st = ts.all (fun c => c.before a st) := by
  induction ts with
  | nil => rfl
  | cons c t ih =>
    show (Jvm.Cond.and c (allAtoms t)).before a st = _
    rw [Jvm.Cond.before_and, ih, List.all_cons]
def words1 : List Jvm.Cond := Jvm.Cond.code x code maxLocals ret :: tables_1
/-- a 'code' word, met by the world's own term for the bytes: nothing is compared byte by byte -/
theorem code_word {y : MethodName} {bytes : ByteArray} {mx : Nat} {rt : Option FieldType} {a : Array Value} {s : State} {m : MethodId} {meth : Method} {c : Code} (h1 : s.methodNamed? y = some m) (h2 : s.vm.method? m = some meth) (h3 : meth.code = some c) (h4 : c.code = bytes)
    (h5 : (c.maxLocals == mx && c.exceptionTable.isEmpty && decide (c.maxStack ≤ mostOperands) && decide (meth.sig.returnType = rt) && !meth.locks && decide (parseMethodDescriptor y.desc = some meth.sig)) = true) : (Jvm.Cond.code y bytes mx rt).before a s = true := by
  simp only [Bool.and_eq_true, beq_iff_eq, Bool.not_eq_true', decide_eq_true_eq] at h5
  obtain ⟨⟨⟨⟨⟨g1, g2⟩, g3⟩, g4⟩, g5⟩, g6⟩ := h5
  simp [Cond.before, Cond.holds, Cond.value, h1, h2, h3, h4, g1, g2, g3, g4, g5, g6]
def isCode : Jvm.Cond → Bool
  | .code _ _ _ _ => true
  | _ => false
theorem all_split {L : List Jvm.Cond} {P : Jvm.Cond → Bool} (h1 : L.all (fun c => isCode c || P c) = true) (h2 : ∀ c ∈ L.filter isCode, P c = true) : L.all P = true := by
  refine List.all_eq_true.mpr fun c hc => ?_
  have h := List.all_eq_true.mp h1 c hc
  rcases Bool.eq_false_or_eq_true (isCode c) with hi | hi
  · exact h2 c (List.mem_filter.mpr ⟨hc, hi⟩)
  · simpa [hi] using h
set_option maxRecDepth 65536 in
theorem w_c0 : (Jvm.Cond.code x code maxLocals ret).before args0 about1 = true := code_word (m := ⟨1, 2⟩) (meth := k1m2) (c := k1c2) (by decide +kernel) rfl rfl rfl (by decide +kernel)
set_option maxRecDepth 65536 in
theorem w_c1 : (Jvm.Cond.code ({ cls := "com/example/hosts_to_leader/hoststoleader/model/ElectionMessageEqualsPinLaw", name := "kindOf", desc := "(I)Lcom/example/hosts_to_leader/hoststoleader/model/ElectionMessage$Kind;" } : Jvm.MethodName) method_2_code (1 : Nat) (Option.some (Jvm.ClassFile.FieldType.object "com/example/hosts_to_leader/hoststoleader/model/ElectionMessage$Kind"))).before args0 about1 = true := code_word (m := ⟨1, 1⟩) (meth := k1m1) (c := k1c1) (by decide +kernel) rfl rfl rfl (by decide +kernel)
set_option maxRecDepth 65536 in
theorem w_c2 : (Jvm.Cond.code ({ cls := "com/example/hosts_to_leader/hoststoleader/model/ElectionMessage", name := "<init>", desc := "(Lcom/example/hosts_to_leader/hoststoleader/model/ElectionMessage$Kind;JJIII)V" } : Jvm.MethodName) prog_8_method_1_code (9 : Nat) (Option.none : Option Jvm.ClassFile.FieldType)).before args0 about1 = true := code_word (m := ⟨2, 0⟩) (meth := k2m0) (c := k2c0) (by decide +kernel) rfl rfl rfl (by decide +kernel)
set_option maxRecDepth 65536 in
theorem w_c3 : (Jvm.Cond.code ({ cls := "java/lang/Object", name := "<init>", desc := "()V" } : Jvm.MethodName) object_method_1_code (1 : Nat) (Option.none : Option Jvm.ClassFile.FieldType)).before args0 about1 = true := code_word (m := ⟨0, 0⟩) (meth := k0m0) (c := k0c0) (by decide +kernel) rfl rfl rfl (by decide +kernel)
set_option maxRecDepth 65536 in
theorem w_c4 : (Jvm.Cond.code ({ cls := "java/lang/Integer", name := "valueOf", desc := "(I)Ljava/lang/Integer;" } : Jvm.MethodName) jdk_33_method_22_code (1 : Nat) (Option.some (Jvm.ClassFile.FieldType.object "java/lang/Integer"))).before args0 about1 = true := code_word (m := ⟨10, 0⟩) (meth := k10m0) (c := k10c0) (by decide +kernel) rfl rfl rfl (by decide +kernel)
set_option maxRecDepth 65536 in
theorem w_c5 : (Jvm.Cond.code ({ cls := "com/example/hosts_to_leader/hoststoleader/model/ElectionMessage", name := "equals", desc := "(Ljava/lang/Object;)Z" } : Jvm.MethodName) prog_8_method_9_code (3 : Nat) (Option.some Jvm.ClassFile.FieldType.boolean)).before args0 about1 = true := code_word (m := ⟨2, 1⟩) (meth := k2m1) (c := k2c1) (by decide +kernel) rfl rfl rfl (by decide +kernel)
set_option maxRecDepth 65536 in
theorem w_c6 : (Jvm.Cond.code ({ cls := "java/lang/Integer", name := "<init>", desc := "(I)V" } : Jvm.MethodName) jdk_33_method_23_code (2 : Nat) (Option.none : Option Jvm.ClassFile.FieldType)).before args0 about1 = true := code_word (m := ⟨10, 1⟩) (meth := k10m1) (c := k10c1) (by decide +kernel) rfl rfl rfl (by decide +kernel)
set_option maxRecDepth 65536 in
theorem w_c7 : (Jvm.Cond.code ({ cls := "java/lang/Number", name := "<init>", desc := "()V" } : Jvm.MethodName) jdk_18_method_1_code (1 : Nat) (Option.none : Option Jvm.ClassFile.FieldType)).before args0 about1 = true := code_word (m := ⟨8, 0⟩) (meth := k8m0) (c := k8c0) (by decide +kernel) rfl rfl rfl (by decide +kernel)
def codes1 : List Jvm.Cond := [Jvm.Cond.code x code maxLocals ret, Jvm.Cond.code ({ cls := "com/example/hosts_to_leader/hoststoleader/model/ElectionMessageEqualsPinLaw", name := "kindOf", desc := "(I)Lcom/example/hosts_to_leader/hoststoleader/model/ElectionMessage$Kind;" } : Jvm.MethodName) method_2_code (1 : Nat) (Option.some (Jvm.ClassFile.FieldType.object "com/example/hosts_to_leader/hoststoleader/model/ElectionMessage$Kind")), Jvm.Cond.code ({ cls := "com/example/hosts_to_leader/hoststoleader/model/ElectionMessage", name := "<init>", desc := "(Lcom/example/hosts_to_leader/hoststoleader/model/ElectionMessage$Kind;JJIII)V" } : Jvm.MethodName) prog_8_method_1_code (9 : Nat) (Option.none : Option Jvm.ClassFile.FieldType), Jvm.Cond.code ({ cls := "java/lang/Object", name := "<init>", desc := "()V" } : Jvm.MethodName) object_method_1_code (1 : Nat) (Option.none : Option Jvm.ClassFile.FieldType), Jvm.Cond.code ({ cls := "java/lang/Integer", name := "valueOf", desc := "(I)Ljava/lang/Integer;" } : Jvm.MethodName) jdk_33_method_22_code (1 : Nat) (Option.some (Jvm.ClassFile.FieldType.object "java/lang/Integer")), Jvm.Cond.code ({ cls := "com/example/hosts_to_leader/hoststoleader/model/ElectionMessage", name := "equals", desc := "(Ljava/lang/Object;)Z" } : Jvm.MethodName) prog_8_method_9_code (3 : Nat) (Option.some Jvm.ClassFile.FieldType.boolean), Jvm.Cond.code ({ cls := "java/lang/Integer", name := "<init>", desc := "(I)V" } : Jvm.MethodName) jdk_33_method_23_code (2 : Nat) (Option.none : Option Jvm.ClassFile.FieldType), Jvm.Cond.code ({ cls := "java/lang/Number", name := "<init>", desc := "()V" } : Jvm.MethodName) jdk_18_method_1_code (1 : Nat) (Option.none : Option Jvm.ClassFile.FieldType)]
set_option maxRecDepth 65536 in
theorem codes_eq : words1.filter isCode = codes1 := rfl
theorem w_codes : ∀ c ∈ words1.filter isCode, c.before args0 about1 = true := by
  rw [codes_eq]
  intro c hc
  simp only [codes1, List.mem_cons, List.not_mem_nil, or_false] at hc
  rcases hc with rfl | rfl | rfl | rfl | rfl | rfl | rfl | rfl
  · exact w_c0
  · exact w_c1
  · exact w_c2
  · exact w_c3
  · exact w_c4
  · exact w_c5
  · exact w_c6
  · exact w_c7
set_option maxRecDepth 65536 in
theorem w_t1 : (words1.take 24).all (fun c => isCode c || c.before args0 about1) = true := by decide +kernel
set_option maxRecDepth 65536 in
theorem w_t2 : ((words1.drop 24).take 24).all (fun c => isCode c || c.before args0 about1) = true := by decide +kernel
set_option maxRecDepth 65536 in
theorem w_t3 : ((words1.drop 24).drop 24).all (fun c => isCode c || c.before args0 about1) = true := by decide +kernel
theorem w_tables : (allAtoms (Jvm.Cond.code x code maxLocals ret :: tables_1)).before args0 about1 = true := by
  rw [allAtoms_all]
  show words1.all (fun c => c.before args0 about1) = true
  refine all_split ?_ w_codes
  rw [← List.take_append_drop 24 words1, List.all_append, w_t1, ← List.take_append_drop 24 (words1.drop 24), List.all_append, w_t2, w_t3]
  rfl
set_option maxRecDepth 65536 in
theorem w_rest : rest_1_c.before args0 about1 = true := by decide +kernel
set_option maxRecDepth 65536 in
theorem w_case : (Jvm.Cond.and given_1 narrow_1).before args0 about1 = true := by decide +kernel
theorem w_applies : (headSpec (Jvm.Cond.code x code maxLocals ret :: tables_1) room_1).applies x e0.platform about1 = true :=
  (Spec.applies_iff w_frames).mpr ⟨w_running, w_runnable, w_alone, w_named, w_hears, w_ripe, w_room, w_tables⟩
theorem atStart : AtStart classFile x code maxLocals ret World_1 tables_1 room_1 Calls_1 rest_1 Pre_1 launch0 p0 e0 about1 theMethod args0 below0 :=
  ⟨lists_1, trivial, launch0.admits_env _ _ _, launch0.least_env, fairChoices_fair.cas, fairChoices_fair.clock, w_frames, w_args, w_heap, w_applies, trivial, w_rest, w_case⟩
end start1
theorem witness_1 : WitnessClaimed_1 := ⟨start1.p0, start1.e0, start1.about1, start1.theMethod, start1.args0, start1.below0, start1.atStart⟩
end Jvm.Pilot.@@N@@
