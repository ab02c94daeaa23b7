import JvmDerived
import JvmDerived.Pilot.@@N@@Statement
import JvmDerived.Pilot.@@N@@Code
set_option linter.unusedVariables false
set_option linter.unusedSimpArgs false
@@BLOCK:NumsL.lean.txt@@
namespace Jvm.Pilot.@@N@@
open Jvm Jvm.ClassFile Sem Op Lib Jvm.Free Jvm.Stand Jvm.LawKit Jvm.RoadKit Bundle Jvm.Pilot.@@N@@.Jvm.D
/-! The walk in the continuation's form: 'Goes' says of a place (state, frame) that from it the body ends as Q says. -/
def Goes (p : Program) (e : Env) (below : List Frame) (s : State) (Q : Option Value → Heap → List Loc → Prop) (k n : Nat) (T : State) (g : JFrame) : Prop :=
  ∃ s₂ o, Steps p.tables e below (T.setTop g) s₂ ∧ s₂.status = .running ∧ Ended s₂ below o ∧ ∃ v L, o = .returned v ∧ Q v s₂.heap L ∧ FrameEnd s o s₂ L k n
section OwnKit
variable {p : Program} {l : Launch} {e : Env} {R : Room} {s : State} {m : MethodId} {args : Array Value} {below : List Frame} {meth : Method} {c : Code} {T T' : State} {locs : List Loc} {cells slots : Nat} {Q : Option Value → Heap → List Loc → Prop} {k n : Nat} {g g' : JFrame}
theorem own_go (f : ∀ t, Steps p.tables e below (T'.setTop g') t → Steps p.tables e below (T.setTop g) t) (h : Goes p e below s Q k n T' g') : Goes p e below s Q k n T g := by
  obtain ⟨a, b, h1, r⟩ := h
  exact ⟨a, b, f _ h1, r⟩
theorem own_tr (f : Steps p.tables e below (T.setTop g) (T'.setTop g')) (h : Goes p e below s Q k n T' g') : Goes p e below s Q k n T g := by
  obtain ⟨a, b, h1, r⟩ := h
  exact ⟨a, b, f.trans h1, r⟩
theorem own_ret (X : Stand p l e R s m args below meth c T locs cells slots) (hx : p.tables.exec = Jvm.exec) {pc : Nat} {Ls : Array Slot} {w : Value} {t : FieldType} {i : Instr} {rest : List Value} (hret : meth.sig.returnType = some t) (hlocks : meth.locks = false) (hn : narrow t w = w)
    (hi : (i = .ireturn ∧ (t = .int ∨ t = .boolean ∨ t = .byte ∨ t = .char ∨ t = .short) ∧ ∃ z, w = .int z) ∨ (i = .lreturn ∧ t = .long ∧ ∃ z, w = .long z) ∨ (i = .dreturn ∧ t = .double ∧ ∃ z, w = .double z) ∨ (i = .freturn ∧ t = .float ∧ ∃ z, w = .float z) ∨ (i = .areturn ∧ t.isReference = true ∧ w.isRef = true))
    (hd : decode c.code pc = .ok (i, 1)) (hQ : Q (some w) T.heap locs) (hc : cells ≤ k) (hs : slots ≤ n) : Goes p e below s Q k n T (mkF m pc Ls (w :: rest)) := by
  obtain ⟨fs, hr, hrun, hended, hW, hsame⟩ := X.leave (v := some w) (fun h => by rw [hret] at h; cases h) hlocks
  exact ⟨_, _, retOut X hx hret hn hi hd hr, hrun, hended, _, _, rfl, hQ, ⟨_, rfl⟩, hW, hsame.mono hc hs⟩
theorem own_retI (X : Stand p l e R s m args below meth c T locs cells slots) (hx : p.tables.exec = Jvm.exec) {pc : Nat} {Ls : Array Slot} {z : Int32} {rest : List Value} (hret : meth.sig.returnType = some .int) (hlocks : meth.locks = false)
    (hd : decode c.code pc = .ok (.ireturn, 1)) (hQ : Q (some (.int z)) T.heap locs) (hc : cells ≤ k) (hs : slots ≤ n) : Goes p e below s Q k n T (mkF m pc Ls (.int z :: rest)) :=
  own_ret X hx hret hlocks rfl (Or.inl ⟨rfl, Or.inl rfl, z, rfl⟩) hd hQ hc hs
theorem own_retZ (X : Stand p l e R s m args below meth c T locs cells slots) (hx : p.tables.exec = Jvm.exec) {pc : Nat} {Ls : Array Slot} {z : Int32} {rest : List Value} (hret : meth.sig.returnType = some .boolean) (hlocks : meth.locks = false) (hz : z = 0 ∨ z = 1)
    (hd : decode c.code pc = .ok (.ireturn, 1)) (hQ : Q (some (.int z)) T.heap locs) (hc : cells ≤ k) (hs : slots ≤ n) : Goes p e below s Q k n T (mkF m pc Ls (.int z :: rest)) :=
  own_ret X hx hret hlocks (by rcases hz with rfl | rfl <;> rfl) (Or.inl ⟨rfl, Or.inr (Or.inl rfl), z, rfl⟩) hd hQ hc hs
theorem own_retJ (X : Stand p l e R s m args below meth c T locs cells slots) (hx : p.tables.exec = Jvm.exec) {pc : Nat} {Ls : Array Slot} {z : Int64} {rest : List Value} (hret : meth.sig.returnType = some .long) (hlocks : meth.locks = false)
    (hd : decode c.code pc = .ok (.lreturn, 1)) (hQ : Q (some (.long z)) T.heap locs) (hc : cells ≤ k) (hs : slots ≤ n) : Goes p e below s Q k n T (mkF m pc Ls (.long z :: rest)) :=
  own_ret X hx hret hlocks rfl (Or.inr (Or.inl ⟨rfl, rfl, z, rfl⟩)) hd hQ hc hs
theorem own_retA (X : Stand p l e R s m args below meth c T locs cells slots) (hx : p.tables.exec = Jvm.exec) {pc : Nat} {Ls : Array Slot} {w : Value} {t : FieldType} {rest : List Value} (hret : meth.sig.returnType = some t) (ht : t.isReference = true) (hlocks : meth.locks = false) (hw : w.isRef = true)
    (hd : decode c.code pc = .ok (.areturn, 1)) (hQ : Q (some w) T.heap locs) (hc : cells ≤ k) (hs : slots ≤ n) : Goes p e below s Q k n T (mkF m pc Ls (w :: rest)) :=
  own_ret X hx hret hlocks (by cases t <;> simp [FieldType.isReference] at ht <;> cases w <;> simp [Value.isRef] at hw <;> rfl) (Or.inr (Or.inr (Or.inr (Or.inr ⟨rfl, ht, hw⟩)))) hd hQ hc hs
theorem own_retV (X : Stand p l e R s m args below meth c T locs cells slots) (hx : p.tables.exec = Jvm.exec) {pc : Nat} {Ls : Array Slot} (hret : meth.sig.returnType = none) (hlocks : meth.locks = false)
    (hd : decode c.code pc = .ok (.return_, 1)) (hQ : Q none T.heap locs) (hc : cells ≤ k) (hs : slots ≤ n) : Goes p e below s Q k n T (mkF m pc Ls []) := by
  obtain ⟨fs, hr, hrun, hended, hW, hsame⟩ := X.leave (v := none) (fun _ => rfl) hlocks
  exact ⟨_, _, X.returnOut hx hret hd hr, hrun, hended, _, _, rfl, hQ, ⟨_, rfl⟩, hW, hsame.mono hc hs⟩
/-- what a callee that writes nothing leaves: its value r, the heap as it was -/
def own_pure (r : Option Value) (h0 : Heap) : Option Value → Heap → List Loc → Prop := fun v h L => v = r ∧ L = [] ∧ h = h0
/-- a callee's contract -/
abbrev Pays (l : Launch) (Z : State) (y : MethodName) (bytes : ByteArray) (maxL : Nat) (ret : Option FieldType) (rm : Room) (as' : Array Value) (h0 : Heap) (Q : Option Value → Heap → List Loc → Prop) : Prop :=
  MetFree l y (head1 [Jvm.Cond.code y bytes maxL ret] rm) (fun a U => a = as' ∧ Z.Warmed39 U.vm ∧ U.heap = h0) (fun _ _ _ _ _ => True) (fun _ U o U' => ∃ v L, o = .returned v ∧ Q v U'.heap L ∧ FrameEnd U o U' L rm.cells rm.slots)
theorem own_callS {Z : State} {a0 : Array Value} {h : Heap} {rm : Room} {W : Nat} {own : String} {index : Nat} {y : MethodName} {bytes : ByteArray} {maxL : Nat} {ret : Option FieldType} {argsL rest : List Value} {r : Option Value}
    (X : Stand p l e R s m args below meth c T locs cells slots) (hx : p.tables.exec = Jvm.exec) (hZ : Z.Warmed39 s.vm) (hown : s.vm.findClass own = some m.cls)
    (wl : (Jvm.Cond.methodLink own index y).before a0 Z = true) (wst : (Jvm.Cond.static y).before a0 Z = true) (wi : (Jvm.Cond.initialized y.cls).before a0 Z = true) (wc : (Jvm.Cond.code y bytes maxL ret).before a0 Z = true)
    (hy : y.cls ≠ "java/lang/invoke/MethodHandle" ∧ y.cls ≠ "java/lang/invoke/VarHandle") (eT : T.heap = h)
    (hM : Pays l Z y bytes maxL ret rm argsL.toArray h (own_pure r h)) (hrc : rm.cells = 0) (hrs : rm.slots = 0) (hcl : cells ≤ R.cells) (hsl : slots ≤ R.slots) (hf : rm.frames + 1 ≤ R.frames) (hl : W + (maxL + 11) + rm.locals ≤ R.locals)
    (hg : g.method = m) (hsize : g.locals.size = c.maxLocals) (hlen : ∀ sig, parseMethodDescriptor y.desc = some sig → argsL.length = sig.parameters.length)
    (hstack : g.stack = argsL.reverse ++ rest) (hW : 2 * g.monitorRoom + (rest.map fun v => v.category).sum ≤ W) (hdg : decode c.code g.pc = .ok (.invokestatic index, 3)) :
    ∃ T', Stand p l e R s m args below meth c T' locs cells slots ∧ T'.heap = h ∧ ∀ t, Steps p.tables e below (T'.setTop { g with pc := g.pc + 3, stack := r.toList ++ rest }) t → Steps p.tables e below (T.setTop g) t := by
  obtain ⟨v, vm₁, ⟨T1, L1, k1, n1⟩, hw1, X1, ⟨Lc, hQ, l1, y1, z1⟩, st⟩ := Jvm.LawKit.callS X hx (y := y) hown (mvT hZ wl) (mvT hZ wst) (mvT hZ wi) (mvT hZ wc) hy (backOf (W := W) hM hZ wc wi hf hl) hg hsize hlen hstack hW hdg (fun _ _ => ⟨rfl, eT, by rw [hrc]; exact hcl, by rw [hrs]; exact hsl⟩)
  dsimp only [Pt.U, Pt.locs, Pt.cells, Pt.slots] at X1 l1 y1 z1 st hQ
  obtain ⟨rfl, rfl, hh⟩ := hQ
  subst l1 y1 z1
  rw [List.append_nil, hrc, hrs, Nat.add_zero, Nat.add_zero] at X1
  exact ⟨T1, X1, hh, st⟩
theorem own_callV {Z : State} {a0 : Array Value} {h : Heap} {rm : Room} {W : Nat} {own C : String} {index : Nat} {y z : MethodName} {bytes : ByteArray} {maxL : Nat} {ret : Option FieldType} {argsL rest : List Value} {r : Option Value} {b : Addr}
    (X : Stand p l e R s m args below meth c T locs cells slots) (hx : p.tables.exec = Jvm.exec) (hZ : Z.Warmed39 s.vm) (hown : s.vm.findClass own = some m.cls)
    (wl : (Jvm.Cond.methodLink own index y).before a0 Z = true) (wd : (Jvm.Cond.declares y).before a0 Z = true) (wsel : (Jvm.Cond.selects C y z).before a0 Z = true) (hnf : NotFace s y) (win : (Jvm.Cond.instanceMethod z).before a0 Z = true) (wi : (Jvm.Cond.initialized z.cls).before a0 Z = true) (wc : (Jvm.Cond.code z bytes maxL ret).before a0 Z = true)
    (hy : y.cls ≠ "java/lang/invoke/MethodHandle" ∧ y.cls ≠ "java/lang/invoke/VarHandle") (eT : T.heap = h) (E : Exa Z h b C)
    (hM : Pays l Z z bytes maxL ret rm (.ref b :: argsL).toArray h (own_pure r h)) (hrc : rm.cells = 0) (hrs : rm.slots = 0) (hcl : cells ≤ R.cells) (hsl : slots ≤ R.slots) (hf : rm.frames + 1 ≤ R.frames) (hl : W + (maxL + 11) + rm.locals ≤ R.locals)
    (hg : g.method = m) (hsize : g.locals.size = c.maxLocals) (hlen : ∀ sig, parseMethodDescriptor y.desc = some sig → argsL.length = sig.parameters.length)
    (hstack : g.stack = argsL.reverse ++ .ref b :: rest) (hW : 2 * g.monitorRoom + (rest.map fun v => v.category).sum ≤ W) (hdg : decode c.code g.pc = .ok (.invokevirtual index, 3)) :
    ∃ T', Stand p l e R s m args below meth c T' locs cells slots ∧ T'.heap = h ∧ ∀ t, Steps p.tables e below (T'.setTop { g with pc := g.pc + 3, stack := r.toList ++ rest }) t → Steps p.tables e below (T.setTop g) t := by
  obtain ⟨cq, kq, qa, qb, qc⟩ := isOf hZ eT E
  obtain ⟨v, vm₁, ⟨T1, L1, k1, n1⟩, hw1, X1, ⟨Lc, hQ, l1, y1, z1⟩, st⟩ := X.virtualBack hx (y := y) (z := z) hown (mvT hZ wl) (mvT hZ wd) hnf (mvT hZ wsel) (mvT hZ win) hy (backOf (W := W) hM hZ wc wi hf hl) qa qc hg hsize (Steps.refl _) hlen hstack hW hdg (fun _ _ => ⟨rfl, eT, by rw [hrc]; exact hcl, by rw [hrs]; exact hsl⟩)
  dsimp only [Pt.U, Pt.locs, Pt.cells, Pt.slots] at X1 l1 y1 z1 st hQ
  obtain ⟨rfl, rfl, hh⟩ := hQ
  subst l1 y1 z1
  rw [List.append_nil, hrc, hrs, Nat.add_zero, Nat.add_zero] at X1
  exact ⟨T1, X1, hh, fun t k => st.trans k⟩
/-- what a law that makes objects leaves: true, and nothing old written -/
def own_one (n0 : Nat) : Option Value → Heap → List Loc → Prop := fun v h L => v = some (.int 1) ∧ Fr n0 L
theorem own_callI {Z : State} {a0 : Array Value} {h : Heap} {rm : Room} {W : Nat} {own : String} {index : Nat} {y : MethodName} {bytes : ByteArray} {maxL : Nat} {argsL rest : List Value} {a : Addr}
    (X : Stand p l e R s m args below meth c T locs cells slots) (hx : p.tables.exec = Jvm.exec) (hZ : Z.Warmed39 s.vm) (hown : s.vm.findClass own = some m.cls) (hy1 : y.name = "<init>")
    (wl : (Jvm.Cond.methodLink own index y).before a0 Z = true) (win : (Jvm.Cond.instanceMethod y).before a0 Z = true) (wi : (Jvm.Cond.initialized y.cls).before a0 Z = true) (wc : (Jvm.Cond.code y bytes maxL none).before a0 Z = true)
    (hy : y.cls ≠ "java/lang/invoke/MethodHandle" ∧ y.cls ≠ "java/lang/invoke/VarHandle") (eT : T.heap = h)
    (hM : Pays l Z y bytes maxL none rm (.ref a :: argsL).toArray h (own_pure none h)) (hrc : rm.cells = 0) (hrs : rm.slots = 0) (hcl : cells ≤ R.cells) (hsl : slots ≤ R.slots) (hf : rm.frames + 1 ≤ R.frames) (hl : W + (maxL + 11) + rm.locals ≤ R.locals)
    (hg : g.method = m) (hsize : g.locals.size = c.maxLocals) (hlen : ∀ sig, parseMethodDescriptor y.desc = some sig → argsL.length = sig.parameters.length)
    (hstack : g.stack = argsL.reverse ++ .ref a :: rest) (hW : 2 * g.monitorRoom + (rest.map fun v => v.category).sum ≤ W) (hdg : decode c.code g.pc = .ok (.invokespecial index, 3)) :
    ∃ T', Stand p l e R s m args below meth c T' locs cells slots ∧ T'.heap = h ∧ ∀ t, Steps p.tables e below (T'.setTop { g with pc := g.pc + 3, stack := rest }) t → Steps p.tables e below (T.setTop g) t := by
  obtain ⟨v, vm₁, ⟨T1, L1, k1, n1⟩, hw1, X1, ⟨Lc, hQ, l1, y1, z1⟩, st⟩ := X.specialBack hx (y := y) hy1 hown (mvT hZ wl) (mvT hZ win) (mvT hZ wc) hy (backOf (W := W) hM hZ wc wi hf hl) hg hsize (Steps.refl _) hlen hstack hW hdg (fun _ _ => ⟨rfl, eT, by rw [hrc]; exact hcl, by rw [hrs]; exact hsl⟩)
  dsimp only [Pt.U, Pt.locs, Pt.cells, Pt.slots] at X1 l1 y1 z1 st hQ
  obtain ⟨rfl, rfl, hh⟩ := hQ
  subst l1 y1 z1
  rw [List.append_nil, hrc, hrs, Nat.add_zero, Nat.add_zero] at X1
  exact ⟨T1, X1, hh, fun t k => st.trans k⟩
theorem own_eqi {args : Array Value} {first s : State} {o : Option Outcome} {idx : List Nat} {t : Term} {k : Int32} (h : (Jvm.Cond.eq t (Term.int k)).value args first o s idx = some true) : t.eval args first o idx s = some (.int k) := by
  obtain ⟨x, y, e1, e2, k1, k2⟩ := cmp_v (Or.inl h)
  rw [Term.int_eval] at e2
  cases e2
  obtain ⟨z, rfl⟩ := k2
  have h2 : (Jvm.Cond.eq t (Term.int k)).value args first o s idx = some (decide (z = k)) := by simp [Cond.value, e1, Term.int_eval]
  rw [gotT h2 h] at e1
  exact e1
theorem own_ord {args : Array Value} {s : State} {t : Term} {x : Addr} {C n : String} {k : Int32} (ev : t.eval args s none [] s = some (.ref x)) (h : (Jvm.Cond.eq (Term.field t C n "I") (Term.int k)).value args s none s [] = some true) : Fld s s.heap x C n "I" (.int k) :=
  Fld.start ((fld_at ev).symm.trans (own_eqi h))
theorem own_sta_keep {Z : State} {h h' : Heap} {C n d D : String} {v : Value} {a : Addr} (F : Sta Z h C n d v) (K : Keep h h' [a]) (E : Exa Z h a D) : Sta Z h' C n d v := by
  obtain ⟨cf, i, k, f, st, cell, h1, h2, h3, h4, h5, h6, h7⟩ := F
  refine ⟨cf, i, k, f, st, cell, h1, h2, h3, h4, K.2.1 st cell h5 (fun q => ?_), h6, h7⟩
  obtain ⟨cell', k', g1, -, -, g4, -⟩ := E
  cases List.mem_singleton.mp q
  rw [h5] at g1
  cases g1
  rw [h6] at g4
  cases g4
end OwnKit
theorem ef_vs (m : MethodId)  : entryFrame m #[] 0 = mkF m 0 #[] [] := by first | (simp [entryFrame, mkF, argsToLocals, Value.category]; done) | rfl
theorem pn_0 : plainName "com/example/store_and_forward/storeandforward/wire/PacketType" = true := by first | (simp [plainName, overriddenIn]; done) | decide +kernel
theorem d_vs_0 : decode prog_46_method_1_code 0 = .ok (.getstatic 15, 3) := by decide +kernel
theorem d_vs_3 : decode prog_46_method_1_code 3 = .ok (.invokevirtual 19, 3) := by decide +kernel
theorem d_vs_6 : decode prog_46_method_1_code 6 = .ok (.checkcast 20, 3) := by decide +kernel
theorem d_vs_9 : decode prog_46_method_1_code 9 = .ok (.areturn, 1) := by decide +kernel
theorem ef_of (m : MethodId) (x0 : Int32) : entryFrame m #[(.int x0)] 6 = mkF m 0 #[.val (.int x0), .unset, .unset, .unset, .unset, .unset] [] := by first | (simp [entryFrame, mkF, argsToLocals, Value.category]; done) | rfl
theorem d_of_0 : decode prog_46_method_5_code 0 = .ok (.iload_n 0, 1) := by decide +kernel
theorem d_of_1 : decode prog_46_method_5_code 1 = .ok (.bipush 15, 2) := by decide +kernel
theorem d_of_3 : decode prog_46_method_5_code 3 = .ok (.iand, 1) := by decide +kernel
theorem d_of_4 : decode prog_46_method_5_code 4 = .ok (.istore_n 1, 1) := by decide +kernel
theorem d_of_5 : decode prog_46_method_5_code 5 = .ok (.invokestatic 44, 3) := by decide +kernel
theorem pd_0 : parseMethodDescriptor "()[Lcom/example/store_and_forward/storeandforward/wire/PacketType;" = some ⟨[], some (.array (.object "com/example/store_and_forward/storeandforward/wire/PacketType"))⟩ := by decide +kernel
theorem d_of_8 : decode prog_46_method_5_code 8 = .ok (.astore_n 2, 1) := by decide +kernel
theorem d_of_9 : decode prog_46_method_5_code 9 = .ok (.aload_n 2, 1) := by decide +kernel
theorem d_of_10 : decode prog_46_method_5_code 10 = .ok (.arraylength, 1) := by decide +kernel
theorem d_of_11 : decode prog_46_method_5_code 11 = .ok (.istore_n 3, 1) := by decide +kernel
theorem d_of_12 : decode prog_46_method_5_code 12 = .ok (.iconst 0, 1) := by decide +kernel
theorem d_of_13 : decode prog_46_method_5_code 13 = .ok (.istore 4, 2) := by decide +kernel
theorem d_of_15 : decode prog_46_method_5_code 15 = .ok (.iload 4, 2) := by decide +kernel
theorem d_of_17 : decode prog_46_method_5_code 17 = .ok (.iload_n 3, 1) := by decide +kernel
theorem d_of_18 : decode prog_46_method_5_code 18 = .ok (.if_icmp .ge 27, 3) := by decide +kernel
theorem d_of_21 : decode prog_46_method_5_code 21 = .ok (.aload_n 2, 1) := by decide +kernel
theorem d_of_22 : decode prog_46_method_5_code 22 = .ok (.iload 4, 2) := by decide +kernel
theorem d_of_24 : decode prog_46_method_5_code 24 = .ok (.aaload, 1) := by decide +kernel
theorem d_of_25 : decode prog_46_method_5_code 25 = .ok (.astore 5, 2) := by decide +kernel
theorem d_of_27 : decode prog_46_method_5_code 27 = .ok (.aload 5, 2) := by decide +kernel
theorem d_of_29 : decode prog_46_method_5_code 29 = .ok (.getfield 34, 3) := by decide +kernel
theorem d_of_32 : decode prog_46_method_5_code 32 = .ok (.iload_n 1, 1) := by decide +kernel
theorem d_of_33 : decode prog_46_method_5_code 33 = .ok (.if_icmp .ne 6, 3) := by decide +kernel
theorem d_of_36 : decode prog_46_method_5_code 36 = .ok (.aload 5, 2) := by decide +kernel
theorem d_of_38 : decode prog_46_method_5_code 38 = .ok (.areturn, 1) := by decide +kernel
theorem d_of_39 : decode prog_46_method_5_code 39 = .ok (.iinc 4 1, 3) := by decide +kernel
theorem d_of_42 : decode prog_46_method_5_code 42 = .ok (.goto (-27), 3) := by decide +kernel
theorem d_of_45 : decode prog_46_method_5_code 45 = .ok (.aconst_null, 1) := by decide +kernel
theorem d_of_46 : decode prog_46_method_5_code 46 = .ok (.areturn, 1) := by decide +kernel
theorem ef_ex (m : MethodId) (x0 : Int32) : entryFrame m #[(.int x0)] 2 = mkF m 0 #[.val (.int x0), .unset] [] := by first | (simp [entryFrame, mkF, argsToLocals, Value.category]; done) | rfl
theorem pn_1 : plainName "com/example/store_and_forward/storeandforward/wire/PacketTypeOfFlagsPinLaw" = true := by first | (simp [plainName, overriddenIn]; done) | decide +kernel
theorem d_ex_0 : decode method_2_code 0 = .ok (.iload_n 0, 1) := by decide +kernel
theorem d_ex_1 : decode method_2_code 1 = .ok (.bipush 15, 2) := by decide +kernel
theorem d_ex_3 : decode method_2_code 3 = .ok (.iand, 1) := by decide +kernel
theorem d_ex_4 : decode method_2_code 4 = .ok (.istore_n 1, 1) := by decide +kernel
theorem d_ex_5 : decode method_2_code 5 = .ok (.iload_n 1, 1) := by decide +kernel
theorem d_ex_6 : decode method_2_code 6 = .ok (.iconst 1, 1) := by decide +kernel
theorem d_ex_7 : decode method_2_code 7 = .ok (.if_icmp .ne 7, 3) := by decide +kernel
theorem d_ex_10 : decode method_2_code 10 = .ok (.getstatic 7, 3) := by decide +kernel
theorem d_ex_13 : decode method_2_code 13 = .ok (.areturn, 1) := by decide +kernel
theorem d_ex_14 : decode method_2_code 14 = .ok (.iload_n 1, 1) := by decide +kernel
theorem d_ex_15 : decode method_2_code 15 = .ok (.iconst 2, 1) := by decide +kernel
theorem d_ex_16 : decode method_2_code 16 = .ok (.if_icmp .ne 7, 3) := by decide +kernel
theorem d_ex_19 : decode method_2_code 19 = .ok (.getstatic 13, 3) := by decide +kernel
theorem d_ex_22 : decode method_2_code 22 = .ok (.areturn, 1) := by decide +kernel
theorem d_ex_23 : decode method_2_code 23 = .ok (.iload_n 1, 1) := by decide +kernel
theorem d_ex_24 : decode method_2_code 24 = .ok (.iconst 3, 1) := by decide +kernel
theorem d_ex_25 : decode method_2_code 25 = .ok (.if_icmp .ne 7, 3) := by decide +kernel
theorem d_ex_28 : decode method_2_code 28 = .ok (.getstatic 16, 3) := by decide +kernel
theorem d_ex_31 : decode method_2_code 31 = .ok (.areturn, 1) := by decide +kernel
theorem d_ex_32 : decode method_2_code 32 = .ok (.aconst_null, 1) := by decide +kernel
theorem d_ex_33 : decode method_2_code 33 = .ok (.areturn, 1) := by decide +kernel
theorem ef_law (m : MethodId) (x0 : Int32) : entryFrame m #[(.int x0)] maxLocals = mkF m 0 #[.val (.int x0), .unset] [] := by first | (simp [entryFrame, mkF, argsToLocals, Value.category, maxLocals]; done) | rfl
theorem pd_1 : parseMethodDescriptor "(I)Lcom/example/store_and_forward/storeandforward/wire/PacketType;" = some ⟨[.int], some (.object "com/example/store_and_forward/storeandforward/wire/PacketType")⟩ := by decide +kernel
def own_vq (Z : State) (kc : ClassId) (a_sa a_es a_cp : Addr) (h0 : Heap) : Option Value → Heap → List Loc → Prop := fun v h L => v = some (.ref h0.size) ∧ L = [] ∧ Ext h0 h ∧ Arv Z h h0.size kc (.object "com/example/store_and_forward/storeandforward/wire/PacketType") (3 : Int32) [.ref a_sa, .ref a_es, .ref a_cp] .null
set_option maxRecDepth 65536 in
set_option maxHeartbeats 40000000 in
theorem rm_vs (l : Launch) (Z : State) (a0 : Array Value) (hw : ∀ d ∈ tables_1, d.before a0 Z = true) (va : Addr) (kc : ClassId) (a_sa a_es a_cp : Addr) (h0 : Heap) (SV : Sta Z h0 "com/example/store_and_forward/storeandforward/wire/PacketType" "$VALUES" "[Lcom/example/store_and_forward/storeandforward/wire/PacketType;" (.ref va)) (AV : Arv Z h0 va kc (.object "com/example/store_and_forward/storeandforward/wire/PacketType") (3 : Int32) [.ref a_sa, .ref a_es, .ref a_cp] .null) (EV : Exa Z h0 va "[Lcom/example/store_and_forward/storeandforward/wire/PacketType;") :
    Pays l Z (⟨"com/example/store_and_forward/storeandforward/wire/PacketType", "values", "()[Lcom/example/store_and_forward/storeandforward/wire/PacketType;"⟩ : MethodName) prog_46_method_1_code 0 (some (.array (.object "com/example/store_and_forward/storeandforward/wire/PacketType"))) ({ frames := 1, cells := 1, slots := 3, locals := 14 } : Room) #[] h0 (own_vq Z kc a_sa a_es a_cp h0) := by
  refine MetFree.of_bodySF (plainFor_of_name pn_0) hisR ?_
  intro p e s m args below meth c s₁ Bd hml0 hP hK
  obtain ⟨rfl, hZ, hh⟩ := hP
  have hx := Bd.exec
  have hby := Bd.bytes
  have hml : c.maxLocals = 0 := hml0
  have hown : s.vm.findClass "com/example/store_and_forward/storeandforward/wire/PacketType" = some m.cls := findClass_of_methodNamed Bd.named
  have hnm := (name_of_methodNamed Bd.named Bd.method).1
  have hlk : meth.locks = false := BodyLoose.notSynchronized Bd
  have X0 : Stand p l e ({ frames := 1, cells := 1, slots := 3, locals := 14 } : Room) s m #[] below meth c s₁ [] 0 0 := Stand.of_body Bd
  have e0 : s₁.heap = h0 := by rw [← hh, Bd.state]; rfl
  show Goes p e below s (own_vq Z kc a_sa a_es a_cp h0) ({ frames := 1, cells := 1, slots := 3, locals := 14 } : Room).cells ({ frames := 1, cells := 1, slots := 3, locals := 14 } : Room).slots s₁ (entryFrame m #[] 0)
  rw [ef_vs m ]
  obtain ⟨T1, X1, e1, st1⟩ := getS2 X0 hx hZ hown (host := "") (Or.inl (hw _ (List.mem_of_getElem? (i := 7) rfl))) Via.refl e0 SV (g := (mkF m 0 #[] [])) rfl (hb hby d_vs_0)
  refine own_go (T' := T1) (g' := (mkF m 3 #[] [(.ref va)])) (fun t_ K => st1 _ K) ?_
  obtain ⟨T2, h2, X2, e2, E2, A2, Ex2, st2⟩ := cloneH X1 hx hZ hown (hw _ (List.mem_of_getElem? (i := 9) rfl)) (hw _ (List.mem_of_getElem? (i := 10) rfl)) (hw _ (List.mem_of_getElem? (i := 14) rfl)) (hw _ (List.mem_of_getElem? (i := 12) rfl)) (hw _ (List.mem_of_getElem? (i := 13) rfl)) (hw _ (List.mem_of_getElem? (i := 15) rfl)) e1 AV.arh EV (g := (mkF m 3 #[] [(.ref va)])) rfl (by rw [hml]; rfl) rfl (hb hby d_vs_3) (by decide) (W := 0) (cap := 3) (by show 2 * 0 + _ ≤ _; exact Nat.le_of_eq rfl) (by decide) (by decide) (by decide) (by decide)
  refine own_go (T' := T2) (g' := (mkF m 6 #[] [(.ref h0.size)])) (fun t_ K => st2 _ K) ?_
  obtain ⟨T3, X3, e3, st3⟩ := castY X2 hx hZ hown (hw _ (List.mem_of_getElem? (i := 20) rfl)) e2 (Ins.self Ex2) (g := (mkF m 6 #[] [(.ref h0.size)])) rfl rfl (hb hby d_vs_6)
  refine own_go (T' := T3) (g' := (mkF m 9 #[] [(.ref h0.size)])) (fun t_ K => st3 _ K) ?_
  exact own_retA X3 hx Bd.returns rfl hlk rfl (hb hby d_vs_9) ⟨rfl, rfl, (by rw [e3]; exact E2), (by rw [e3]; exact A2)⟩ (by decide) (by decide)
def own_of (k : Int32) (a_sa a_es a_cp : Addr) : Value := if (1 : Int32) = k then .ref a_sa else if (2 : Int32) = k then .ref a_es else if (3 : Int32) = k then .ref a_cp else .null
def own_oq (w : Value) (h0 : Heap) : Option Value → Heap → List Loc → Prop := fun v h L => v = some w ∧ L = [] ∧ Ext h0 h
set_option maxRecDepth 65536 in
set_option maxHeartbeats 40000000 in
theorem rm_of (l : Launch) (Z : State) (a0 : Array Value) (hw : ∀ d ∈ tables_1, d.before a0 Z = true) (fl : Int32) (wv : Value) (va : Addr) (kc : ClassId) (a_sa a_es a_cp : Addr) (h0 : Heap) (S_sa : Sta Z h0 "com/example/store_and_forward/storeandforward/wire/PacketType" "SESSION_ACK" "Lcom/example/store_and_forward/storeandforward/wire/PacketType;" (.ref a_sa)) (S_es : Sta Z h0 "com/example/store_and_forward/storeandforward/wire/PacketType" "ESTABLISH_CONNECTION" "Lcom/example/store_and_forward/storeandforward/wire/PacketType;" (.ref a_es)) (S_cp : Sta Z h0 "com/example/store_and_forward/storeandforward/wire/PacketType" "CONNECTION_PARAMETERS" "Lcom/example/store_and_forward/storeandforward/wire/PacketType;" (.ref a_cp)) (F_sa : Fld Z h0 a_sa "com/example/store_and_forward/storeandforward/wire/PacketType" "code" "I" (.int (1 : Int32))) (F_es : Fld Z h0 a_es "com/example/store_and_forward/storeandforward/wire/PacketType" "code" "I" (.int (2 : Int32))) (F_cp : Fld Z h0 a_cp "com/example/store_and_forward/storeandforward/wire/PacketType" "code" "I" (.int (3 : Int32))) (SV : Sta Z h0 "com/example/store_and_forward/storeandforward/wire/PacketType" "$VALUES" "[Lcom/example/store_and_forward/storeandforward/wire/PacketType;" (.ref va)) (AV : Arv Z h0 va kc (.object "com/example/store_and_forward/storeandforward/wire/PacketType") (3 : Int32) [.ref a_sa, .ref a_es, .ref a_cp] .null) (EV : Exa Z h0 va "[Lcom/example/store_and_forward/storeandforward/wire/PacketType;") (hwv : wv = own_of (fl &&& (15 : Int32)) a_sa a_es a_cp) :
    Pays l Z (⟨"com/example/store_and_forward/storeandforward/wire/PacketType", "ofFlags", "(I)Lcom/example/store_and_forward/storeandforward/wire/PacketType;"⟩ : MethodName) prog_46_method_5_code 6 (some (.object "com/example/store_and_forward/storeandforward/wire/PacketType")) ({ frames := 2, cells := 1, slots := 3, locals := 25 } : Room) #[(.int fl)] h0 (own_oq wv h0) := by
  refine MetFree.of_bodySF (plainFor_of_name pn_0) hisR ?_
  intro p e s m args below meth c s₁ Bd hml0 hP hK
  obtain ⟨rfl, hZ, hh⟩ := hP
  have hx := Bd.exec
  have hby := Bd.bytes
  have hml : c.maxLocals = 6 := hml0
  have hown : s.vm.findClass "com/example/store_and_forward/storeandforward/wire/PacketType" = some m.cls := findClass_of_methodNamed Bd.named
  have hnm := (name_of_methodNamed Bd.named Bd.method).1
  have hlk : meth.locks = false := BodyLoose.notSynchronized Bd
  have X0 : Stand p l e ({ frames := 2, cells := 1, slots := 3, locals := 25 } : Room) s m #[(.int fl)] below meth c s₁ [] 0 0 := Stand.of_body Bd
  have e0 : s₁.heap = h0 := by rw [← hh, Bd.state]; rfl
  show Goes p e below s (own_oq wv h0) ({ frames := 2, cells := 1, slots := 3, locals := 25 } : Room).cells ({ frames := 2, cells := 1, slots := 3, locals := 25 } : Room).slots s₁ (entryFrame m #[(.int fl)] 6)
  rw [ef_of m fl]
  refine own_go (T' := s₁) (g' := (mkF m 1 #[.val (.int fl), .unset, .unset, .unset, .unset, .unset] [(.int fl)])) (fun t_ K => XS.iloadN X0.here hx rfl (hb hby d_of_0) rfl K) ?_
  refine own_go (T' := s₁) (g' := (mkF m 3 #[.val (.int fl), .unset, .unset, .unset, .unset, .unset] [(.int (15 : Int32)), (.int fl)])) (fun t_ K => XS.bipush X0.here hx rfl (hb hby d_of_1) K) ?_
  refine own_go (T' := s₁) (g' := (mkF m 4 #[.val (.int fl), .unset, .unset, .unset, .unset, .unset] [(.int (fl &&& (15 : Int32)))])) (fun t_ K => XS.iand X0.here hx rfl (hb hby d_of_3) rfl K) ?_
  refine own_go (T' := s₁) (g' := (mkF m 5 #[.val (.int fl), .val (.int (fl &&& (15 : Int32))), .unset, .unset, .unset, .unset] [])) (fun t_ K => XS.istoreN X0.here hx rfl (hb hby d_of_4) rfl (l' := #[.val (.int fl), .val (.int (fl &&& (15 : Int32))), .unset, .unset, .unset, .unset]) rfl K) ?_
  obtain ⟨_, _, ⟨T1, L1, k1, n1⟩, -, X1, ⟨Lc1, hQ1, l1, y1, z1⟩, st1⟩ := Jvm.LawKit.callS X0 hx (y := (⟨"com/example/store_and_forward/storeandforward/wire/PacketType", "values", "()[Lcom/example/store_and_forward/storeandforward/wire/PacketType;"⟩ : MethodName)) hown (mvT hZ (hw _ (List.mem_of_getElem? (i := 4) rfl))) (mvT hZ (hw _ (List.mem_of_getElem? (i := 5) rfl))) (mvT hZ (hw _ (List.mem_of_getElem? (i := 2) rfl))) (mvT hZ (hw _ (List.mem_of_getElem? (i := 6) rfl))) (by decide) (backOf (W := 0) (rm_vs l Z a0 hw va kc a_sa a_es a_cp h0 SV AV EV) hZ (hw _ (List.mem_of_getElem? (i := 6) rfl)) (hw _ (List.mem_of_getElem? (i := 2) rfl)) (by decide) (by decide)) (g := (mkF m 5 #[.val (.int fl), .val (.int (fl &&& (15 : Int32))), .unset, .unset, .unset, .unset] [])) rfl (by rw [hml]; rfl) (argsL := []) (rest := []) (lenOf pd_0 rfl) rfl (by show 2 * 0 + _ ≤ _; exact Nat.le_of_eq rfl) (hb hby d_of_5) (fun _ _ => ⟨rfl, e0, (by decide : 0 + 1 ≤ _), (by decide : 0 + 3 ≤ _)⟩)
  dsimp only [Pt.U, Pt.locs, Pt.cells, Pt.slots] at X1 l1 y1 z1 st1 hQ1
  subst l1 y1 z1
  obtain ⟨rfl, rfl, E1, AV1⟩ := hQ1
  have e1 : T1.heap = T1.heap := rfl
  obtain ⟨cl, Ar, q1, Sz, Nn, Hs, Gs⟩ := AV1
  obtain ⟨b, gb⟩ : ∃ z, z = h0.size := ⟨_, rfl⟩
  rw [← gb] at Ar st1
  have F_sa' := F_sa.ext E1
  have F_es' := F_es.ext E1
  have F_cp' := F_cp.ext E1
  refine own_go (T' := T1) (g' := (mkF m 8 #[.val (.int fl), .val (.int (fl &&& (15 : Int32))), .unset, .unset, .unset, .unset] [(.ref b)])) (fun t_ K => st1 _ K) ?_
  refine own_go (T' := T1) (g' := (mkF m 9 #[.val (.int fl), .val (.int (fl &&& (15 : Int32))), .val (.ref b), .unset, .unset, .unset] [])) (fun t_ K => XS.astoreN X1.here hx rfl (hb hby d_of_8) rfl rfl (l' := #[.val (.int fl), .val (.int (fl &&& (15 : Int32))), .val (.ref b), .unset, .unset, .unset]) rfl K) ?_
  refine own_go (T' := T1) (g' := (mkF m 10 #[.val (.int fl), .val (.int (fl &&& (15 : Int32))), .val (.ref b), .unset, .unset, .unset] [(.ref b)])) (fun t_ K => XS.aloadN X1.here hx rfl (hb hby d_of_9) rfl rfl K) ?_
  refine own_go (T' := T1) (g' := (mkF m 11 #[.val (.int fl), .val (.int (fl &&& (15 : Int32))), .val (.ref b), .unset, .unset, .unset] [(.int cl.slots.size.toInt32)])) (fun t_ K => X1.arraylength hx (by rw [e1]; exact Ar.1) (State.isArrayOf_alike hZ.alike Ar.2.1) (g := (mkF m 10 #[.val (.int fl), .val (.int (fl &&& (15 : Int32))), .val (.ref b), .unset, .unset, .unset] [(.ref b)])) rfl rfl (hb hby d_of_10) _ K) ?_
  rw [len_of Sz Nn]
  refine own_go (T' := T1) (g' := (mkF m 12 #[.val (.int fl), .val (.int (fl &&& (15 : Int32))), .val (.ref b), .val (.int (3 : Int32)), .unset, .unset] [])) (fun t_ K => XS.istoreN X1.here hx rfl (hb hby d_of_11) rfl (l' := #[.val (.int fl), .val (.int (fl &&& (15 : Int32))), .val (.ref b), .val (.int (3 : Int32)), .unset, .unset]) rfl K) ?_
  refine own_go (T' := T1) (g' := (mkF m 13 #[.val (.int fl), .val (.int (fl &&& (15 : Int32))), .val (.ref b), .val (.int (3 : Int32)), .unset, .unset] [(.int (0 : Int32))])) (fun t_ K => XS.iconst X1.here hx rfl (hb hby d_of_12) K) ?_
  refine own_go (T' := T1) (g' := (mkF m 15 #[.val (.int fl), .val (.int (fl &&& (15 : Int32))), .val (.ref b), .val (.int (3 : Int32)), .val (.int (0 : Int32)), .unset] [])) (fun t_ K => XS.istore X1.here hx rfl (hb hby d_of_13) rfl (l' := #[.val (.int fl), .val (.int (fl &&& (15 : Int32))), .val (.ref b), .val (.int (3 : Int32)), .val (.int (0 : Int32)), .unset]) rfl K) ?_
  refine own_go (T' := T1) (g' := (mkF m 17 #[.val (.int fl), .val (.int (fl &&& (15 : Int32))), .val (.ref b), .val (.int (3 : Int32)), .val (.int (0 : Int32)), .unset] [(.int (0 : Int32))])) (fun t_ K => XS.iload X1.here hx rfl (hb hby d_of_15) rfl K) ?_
  refine own_go (T' := T1) (g' := (mkF m 18 #[.val (.int fl), .val (.int (fl &&& (15 : Int32))), .val (.ref b), .val (.int (3 : Int32)), .val (.int (0 : Int32)), .unset] [(.int (3 : Int32)), (.int (0 : Int32))])) (fun t_ K => XS.iloadN X1.here hx rfl (hb hby d_of_17) rfl K) ?_
  refine own_go (T' := T1) (g' := (mkF m 21 #[.val (.int fl), .val (.int (fl &&& (15 : Int32))), .val (.ref b), .val (.int (3 : Int32)), .val (.int (0 : Int32)), .unset] [])) (fun t_ K => XS.icmpNo X1.here hx rfl (hb hby d_of_18) rfl (tlt (by decide : (0 : Int32) < (3 : Int32))).2.1 K) ?_
  refine own_go (T' := T1) (g' := (mkF m 22 #[.val (.int fl), .val (.int (fl &&& (15 : Int32))), .val (.ref b), .val (.int (3 : Int32)), .val (.int (0 : Int32)), .unset] [(.ref b)])) (fun t_ K => XS.aloadN X1.here hx rfl (hb hby d_of_21) rfl rfl K) ?_
  refine own_go (T' := T1) (g' := (mkF m 24 #[.val (.int fl), .val (.int (fl &&& (15 : Int32))), .val (.ref b), .val (.int (3 : Int32)), .val (.int (0 : Int32)), .unset] [(.int (0 : Int32)), (.ref b)])) (fun t_ K => XS.iload X1.here hx rfl (hb hby d_of_22) rfl K) ?_
  have hin0 : ¬ ((0 : Int32) < 0 ∨ cl.slots.size ≤ ((0 : Int32)).toNatClampNeg) := inb_of Sz ⟨by decide, by decide⟩
  refine own_go (T' := T1) (g' := (mkF m 25 #[.val (.int fl), .val (.int (fl &&& (15 : Int32))), .val (.ref b), .val (.int (3 : Int32)), .val (.int (0 : Int32)), .unset] [(.ref a_sa)])) (fun t_ K => X1.aaload hx (j := (0 : Int32)) (v := (.ref a_sa)) (by rw [e1]; exact Ar.1) (State.isArrayOf_alike hZ.alike Ar.2.1) rfl Ar.2.2 hin0 (Has.at Hs hin0 rfl) (g := (mkF m 24 #[.val (.int fl), .val (.int (fl &&& (15 : Int32))), .val (.ref b), .val (.int (3 : Int32)), .val (.int (0 : Int32)), .unset] [(.int (0 : Int32)), (.ref b)])) rfl rfl (hb hby d_of_24) _ K) ?_
  refine own_go (T' := T1) (g' := (mkF m 27 #[.val (.int fl), .val (.int (fl &&& (15 : Int32))), .val (.ref b), .val (.int (3 : Int32)), .val (.int (0 : Int32)), .val (.ref a_sa)] [])) (fun t_ K => XS.astore X1.here hx rfl (hb hby d_of_25) rfl rfl (l' := #[.val (.int fl), .val (.int (fl &&& (15 : Int32))), .val (.ref b), .val (.int (3 : Int32)), .val (.int (0 : Int32)), .val (.ref a_sa)]) rfl K) ?_
  refine own_go (T' := T1) (g' := (mkF m 29 #[.val (.int fl), .val (.int (fl &&& (15 : Int32))), .val (.ref b), .val (.int (3 : Int32)), .val (.int (0 : Int32)), .val (.ref a_sa)] [(.ref a_sa)])) (fun t_ K => XS.aload X1.here hx rfl (hb hby d_of_27) rfl rfl K) ?_
  obtain ⟨T2, X2, e2, st2⟩ := getF X1 hx hZ hown (host := "") (Or.inl (hw _ (List.mem_of_getElem? (i := 22) rfl))) Via.refl e1 F_sa' (g := (mkF m 29 #[.val (.int fl), .val (.int (fl &&& (15 : Int32))), .val (.ref b), .val (.int (3 : Int32)), .val (.int (0 : Int32)), .val (.ref a_sa)] [(.ref a_sa)])) rfl rfl (hb hby d_of_29)
  refine own_go (T' := T2) (g' := (mkF m 32 #[.val (.int fl), .val (.int (fl &&& (15 : Int32))), .val (.ref b), .val (.int (3 : Int32)), .val (.int (0 : Int32)), .val (.ref a_sa)] [(.int (1 : Int32))])) (fun t_ K => st2 _ K) ?_
  refine own_go (T' := T2) (g' := (mkF m 33 #[.val (.int fl), .val (.int (fl &&& (15 : Int32))), .val (.ref b), .val (.int (3 : Int32)), .val (.int (0 : Int32)), .val (.ref a_sa)] [(.int (fl &&& (15 : Int32))), (.int (1 : Int32))])) (fun t_ K => XS.iloadN X2.here hx rfl (hb hby d_of_32) rfl K) ?_
  by_cases c33_1 : (1 : Int32) = (fl &&& (15 : Int32))
  · refine own_go (T' := T2) (g' := (mkF m 36 #[.val (.int fl), .val (.int (fl &&& (15 : Int32))), .val (.ref b), .val (.int (3 : Int32)), .val (.int (0 : Int32)), .val (.ref a_sa)] [])) (fun t_ K => XS.icmpNo X2.here hx rfl (hb hby d_of_33) rfl (teq c33_1).2 K) ?_
    refine own_go (T' := T2) (g' := (mkF m 38 #[.val (.int fl), .val (.int (fl &&& (15 : Int32))), .val (.ref b), .val (.int (3 : Int32)), .val (.int (0 : Int32)), .val (.ref a_sa)] [(.ref a_sa)])) (fun t_ K => XS.aload X2.here hx rfl (hb hby d_of_36) rfl rfl K) ?_
    exact own_retA X2 hx Bd.returns rfl hlk rfl (hb hby d_of_38) ⟨(by rw [hwv, own_of, if_pos c33_1]), rfl, (by rw [e2]; exact E1)⟩ (by decide) (by decide)
  · refine own_go (T' := T2) (g' := (mkF m 39 #[.val (.int fl), .val (.int (fl &&& (15 : Int32))), .val (.ref b), .val (.int (3 : Int32)), .val (.int (0 : Int32)), .val (.ref a_sa)] [])) (fun t_ K => XS.icmpYes X2.here hx rfl (pc0 := 33) (pc' := 39) rfl (hb hby d_of_33) rfl (feq c33_1).2 (by decide) (by decide) K) ?_
    refine own_go (T' := T2) (g' := (mkF m 42 #[.val (.int fl), .val (.int (fl &&& (15 : Int32))), .val (.ref b), .val (.int (3 : Int32)), .val (.int (1 : Int32)), .val (.ref a_sa)] [])) (fun t_ K => XS.iinc X2.here hx rfl (hb hby d_of_39) rfl (l' := #[.val (.int fl), .val (.int (fl &&& (15 : Int32))), .val (.ref b), .val (.int (3 : Int32)), .val (.int (1 : Int32)), .val (.ref a_sa)]) rfl K) ?_
    refine own_go (T' := T2) (g' := (mkF m 15 #[.val (.int fl), .val (.int (fl &&& (15 : Int32))), .val (.ref b), .val (.int (3 : Int32)), .val (.int (1 : Int32)), .val (.ref a_sa)] [])) (fun t_ K => XS.goto X2.here hx rfl (pc0 := 42) (pc' := 15) rfl (hb hby d_of_42) (by decide) (by decide) K) ?_
    refine own_go (T' := T2) (g' := (mkF m 17 #[.val (.int fl), .val (.int (fl &&& (15 : Int32))), .val (.ref b), .val (.int (3 : Int32)), .val (.int (1 : Int32)), .val (.ref a_sa)] [(.int (1 : Int32))])) (fun t_ K => XS.iload X2.here hx rfl (hb hby d_of_15) rfl K) ?_
    refine own_go (T' := T2) (g' := (mkF m 18 #[.val (.int fl), .val (.int (fl &&& (15 : Int32))), .val (.ref b), .val (.int (3 : Int32)), .val (.int (1 : Int32)), .val (.ref a_sa)] [(.int (3 : Int32)), (.int (1 : Int32))])) (fun t_ K => XS.iloadN X2.here hx rfl (hb hby d_of_17) rfl K) ?_
    refine own_go (T' := T2) (g' := (mkF m 21 #[.val (.int fl), .val (.int (fl &&& (15 : Int32))), .val (.ref b), .val (.int (3 : Int32)), .val (.int (1 : Int32)), .val (.ref a_sa)] [])) (fun t_ K => XS.icmpNo X2.here hx rfl (hb hby d_of_18) rfl (tlt (by decide : (1 : Int32) < (3 : Int32))).2.1 K) ?_
    refine own_go (T' := T2) (g' := (mkF m 22 #[.val (.int fl), .val (.int (fl &&& (15 : Int32))), .val (.ref b), .val (.int (3 : Int32)), .val (.int (1 : Int32)), .val (.ref a_sa)] [(.ref b)])) (fun t_ K => XS.aloadN X2.here hx rfl (hb hby d_of_21) rfl rfl K) ?_
    refine own_go (T' := T2) (g' := (mkF m 24 #[.val (.int fl), .val (.int (fl &&& (15 : Int32))), .val (.ref b), .val (.int (3 : Int32)), .val (.int (1 : Int32)), .val (.ref a_sa)] [(.int (1 : Int32)), (.ref b)])) (fun t_ K => XS.iload X2.here hx rfl (hb hby d_of_22) rfl K) ?_
    have hin1 : ¬ ((1 : Int32) < 0 ∨ cl.slots.size ≤ ((1 : Int32)).toNatClampNeg) := inb_of Sz ⟨by decide, by decide⟩
    refine own_go (T' := T2) (g' := (mkF m 25 #[.val (.int fl), .val (.int (fl &&& (15 : Int32))), .val (.ref b), .val (.int (3 : Int32)), .val (.int (1 : Int32)), .val (.ref a_sa)] [(.ref a_es)])) (fun t_ K => X2.aaload hx (j := (1 : Int32)) (v := (.ref a_es)) (by rw [e2]; exact Ar.1) (State.isArrayOf_alike hZ.alike Ar.2.1) rfl Ar.2.2 hin1 (Has.at Hs hin1 rfl) (g := (mkF m 24 #[.val (.int fl), .val (.int (fl &&& (15 : Int32))), .val (.ref b), .val (.int (3 : Int32)), .val (.int (1 : Int32)), .val (.ref a_sa)] [(.int (1 : Int32)), (.ref b)])) rfl rfl (hb hby d_of_24) _ K) ?_
    refine own_go (T' := T2) (g' := (mkF m 27 #[.val (.int fl), .val (.int (fl &&& (15 : Int32))), .val (.ref b), .val (.int (3 : Int32)), .val (.int (1 : Int32)), .val (.ref a_es)] [])) (fun t_ K => XS.astore X2.here hx rfl (hb hby d_of_25) rfl rfl (l' := #[.val (.int fl), .val (.int (fl &&& (15 : Int32))), .val (.ref b), .val (.int (3 : Int32)), .val (.int (1 : Int32)), .val (.ref a_es)]) rfl K) ?_
    refine own_go (T' := T2) (g' := (mkF m 29 #[.val (.int fl), .val (.int (fl &&& (15 : Int32))), .val (.ref b), .val (.int (3 : Int32)), .val (.int (1 : Int32)), .val (.ref a_es)] [(.ref a_es)])) (fun t_ K => XS.aload X2.here hx rfl (hb hby d_of_27) rfl rfl K) ?_
    obtain ⟨T3, X3, e3, st3⟩ := getF X2 hx hZ hown (host := "") (Or.inl (hw _ (List.mem_of_getElem? (i := 22) rfl))) Via.refl e2 F_es' (g := (mkF m 29 #[.val (.int fl), .val (.int (fl &&& (15 : Int32))), .val (.ref b), .val (.int (3 : Int32)), .val (.int (1 : Int32)), .val (.ref a_es)] [(.ref a_es)])) rfl rfl (hb hby d_of_29)
    refine own_go (T' := T3) (g' := (mkF m 32 #[.val (.int fl), .val (.int (fl &&& (15 : Int32))), .val (.ref b), .val (.int (3 : Int32)), .val (.int (1 : Int32)), .val (.ref a_es)] [(.int (2 : Int32))])) (fun t_ K => st3 _ K) ?_
    refine own_go (T' := T3) (g' := (mkF m 33 #[.val (.int fl), .val (.int (fl &&& (15 : Int32))), .val (.ref b), .val (.int (3 : Int32)), .val (.int (1 : Int32)), .val (.ref a_es)] [(.int (fl &&& (15 : Int32))), (.int (2 : Int32))])) (fun t_ K => XS.iloadN X3.here hx rfl (hb hby d_of_32) rfl K) ?_
    by_cases c33_2 : (2 : Int32) = (fl &&& (15 : Int32))
    · refine own_go (T' := T3) (g' := (mkF m 36 #[.val (.int fl), .val (.int (fl &&& (15 : Int32))), .val (.ref b), .val (.int (3 : Int32)), .val (.int (1 : Int32)), .val (.ref a_es)] [])) (fun t_ K => XS.icmpNo X3.here hx rfl (hb hby d_of_33) rfl (teq c33_2).2 K) ?_
      refine own_go (T' := T3) (g' := (mkF m 38 #[.val (.int fl), .val (.int (fl &&& (15 : Int32))), .val (.ref b), .val (.int (3 : Int32)), .val (.int (1 : Int32)), .val (.ref a_es)] [(.ref a_es)])) (fun t_ K => XS.aload X3.here hx rfl (hb hby d_of_36) rfl rfl K) ?_
      exact own_retA X3 hx Bd.returns rfl hlk rfl (hb hby d_of_38) ⟨(by rw [hwv, own_of, if_neg c33_1, if_pos c33_2]), rfl, (by rw [e3]; exact E1)⟩ (by decide) (by decide)
    · refine own_go (T' := T3) (g' := (mkF m 39 #[.val (.int fl), .val (.int (fl &&& (15 : Int32))), .val (.ref b), .val (.int (3 : Int32)), .val (.int (1 : Int32)), .val (.ref a_es)] [])) (fun t_ K => XS.icmpYes X3.here hx rfl (pc0 := 33) (pc' := 39) rfl (hb hby d_of_33) rfl (feq c33_2).2 (by decide) (by decide) K) ?_
      refine own_go (T' := T3) (g' := (mkF m 42 #[.val (.int fl), .val (.int (fl &&& (15 : Int32))), .val (.ref b), .val (.int (3 : Int32)), .val (.int (2 : Int32)), .val (.ref a_es)] [])) (fun t_ K => XS.iinc X3.here hx rfl (hb hby d_of_39) rfl (l' := #[.val (.int fl), .val (.int (fl &&& (15 : Int32))), .val (.ref b), .val (.int (3 : Int32)), .val (.int (2 : Int32)), .val (.ref a_es)]) rfl K) ?_
      refine own_go (T' := T3) (g' := (mkF m 15 #[.val (.int fl), .val (.int (fl &&& (15 : Int32))), .val (.ref b), .val (.int (3 : Int32)), .val (.int (2 : Int32)), .val (.ref a_es)] [])) (fun t_ K => XS.goto X3.here hx rfl (pc0 := 42) (pc' := 15) rfl (hb hby d_of_42) (by decide) (by decide) K) ?_
      refine own_go (T' := T3) (g' := (mkF m 17 #[.val (.int fl), .val (.int (fl &&& (15 : Int32))), .val (.ref b), .val (.int (3 : Int32)), .val (.int (2 : Int32)), .val (.ref a_es)] [(.int (2 : Int32))])) (fun t_ K => XS.iload X3.here hx rfl (hb hby d_of_15) rfl K) ?_
      refine own_go (T' := T3) (g' := (mkF m 18 #[.val (.int fl), .val (.int (fl &&& (15 : Int32))), .val (.ref b), .val (.int (3 : Int32)), .val (.int (2 : Int32)), .val (.ref a_es)] [(.int (3 : Int32)), (.int (2 : Int32))])) (fun t_ K => XS.iloadN X3.here hx rfl (hb hby d_of_17) rfl K) ?_
      refine own_go (T' := T3) (g' := (mkF m 21 #[.val (.int fl), .val (.int (fl &&& (15 : Int32))), .val (.ref b), .val (.int (3 : Int32)), .val (.int (2 : Int32)), .val (.ref a_es)] [])) (fun t_ K => XS.icmpNo X3.here hx rfl (hb hby d_of_18) rfl (tlt (by decide : (2 : Int32) < (3 : Int32))).2.1 K) ?_
      refine own_go (T' := T3) (g' := (mkF m 22 #[.val (.int fl), .val (.int (fl &&& (15 : Int32))), .val (.ref b), .val (.int (3 : Int32)), .val (.int (2 : Int32)), .val (.ref a_es)] [(.ref b)])) (fun t_ K => XS.aloadN X3.here hx rfl (hb hby d_of_21) rfl rfl K) ?_
      refine own_go (T' := T3) (g' := (mkF m 24 #[.val (.int fl), .val (.int (fl &&& (15 : Int32))), .val (.ref b), .val (.int (3 : Int32)), .val (.int (2 : Int32)), .val (.ref a_es)] [(.int (2 : Int32)), (.ref b)])) (fun t_ K => XS.iload X3.here hx rfl (hb hby d_of_22) rfl K) ?_
      have hin2 : ¬ ((2 : Int32) < 0 ∨ cl.slots.size ≤ ((2 : Int32)).toNatClampNeg) := inb_of Sz ⟨by decide, by decide⟩
      refine own_go (T' := T3) (g' := (mkF m 25 #[.val (.int fl), .val (.int (fl &&& (15 : Int32))), .val (.ref b), .val (.int (3 : Int32)), .val (.int (2 : Int32)), .val (.ref a_es)] [(.ref a_cp)])) (fun t_ K => X3.aaload hx (j := (2 : Int32)) (v := (.ref a_cp)) (by rw [e3]; exact Ar.1) (State.isArrayOf_alike hZ.alike Ar.2.1) rfl Ar.2.2 hin2 (Has.at Hs hin2 rfl) (g := (mkF m 24 #[.val (.int fl), .val (.int (fl &&& (15 : Int32))), .val (.ref b), .val (.int (3 : Int32)), .val (.int (2 : Int32)), .val (.ref a_es)] [(.int (2 : Int32)), (.ref b)])) rfl rfl (hb hby d_of_24) _ K) ?_
      refine own_go (T' := T3) (g' := (mkF m 27 #[.val (.int fl), .val (.int (fl &&& (15 : Int32))), .val (.ref b), .val (.int (3 : Int32)), .val (.int (2 : Int32)), .val (.ref a_cp)] [])) (fun t_ K => XS.astore X3.here hx rfl (hb hby d_of_25) rfl rfl (l' := #[.val (.int fl), .val (.int (fl &&& (15 : Int32))), .val (.ref b), .val (.int (3 : Int32)), .val (.int (2 : Int32)), .val (.ref a_cp)]) rfl K) ?_
      refine own_go (T' := T3) (g' := (mkF m 29 #[.val (.int fl), .val (.int (fl &&& (15 : Int32))), .val (.ref b), .val (.int (3 : Int32)), .val (.int (2 : Int32)), .val (.ref a_cp)] [(.ref a_cp)])) (fun t_ K => XS.aload X3.here hx rfl (hb hby d_of_27) rfl rfl K) ?_
      obtain ⟨T4, X4, e4, st4⟩ := getF X3 hx hZ hown (host := "") (Or.inl (hw _ (List.mem_of_getElem? (i := 22) rfl))) Via.refl e3 F_cp' (g := (mkF m 29 #[.val (.int fl), .val (.int (fl &&& (15 : Int32))), .val (.ref b), .val (.int (3 : Int32)), .val (.int (2 : Int32)), .val (.ref a_cp)] [(.ref a_cp)])) rfl rfl (hb hby d_of_29)
      refine own_go (T' := T4) (g' := (mkF m 32 #[.val (.int fl), .val (.int (fl &&& (15 : Int32))), .val (.ref b), .val (.int (3 : Int32)), .val (.int (2 : Int32)), .val (.ref a_cp)] [(.int (3 : Int32))])) (fun t_ K => st4 _ K) ?_
      refine own_go (T' := T4) (g' := (mkF m 33 #[.val (.int fl), .val (.int (fl &&& (15 : Int32))), .val (.ref b), .val (.int (3 : Int32)), .val (.int (2 : Int32)), .val (.ref a_cp)] [(.int (fl &&& (15 : Int32))), (.int (3 : Int32))])) (fun t_ K => XS.iloadN X4.here hx rfl (hb hby d_of_32) rfl K) ?_
      by_cases c33_3 : (3 : Int32) = (fl &&& (15 : Int32))
      · refine own_go (T' := T4) (g' := (mkF m 36 #[.val (.int fl), .val (.int (fl &&& (15 : Int32))), .val (.ref b), .val (.int (3 : Int32)), .val (.int (2 : Int32)), .val (.ref a_cp)] [])) (fun t_ K => XS.icmpNo X4.here hx rfl (hb hby d_of_33) rfl (teq c33_3).2 K) ?_
        refine own_go (T' := T4) (g' := (mkF m 38 #[.val (.int fl), .val (.int (fl &&& (15 : Int32))), .val (.ref b), .val (.int (3 : Int32)), .val (.int (2 : Int32)), .val (.ref a_cp)] [(.ref a_cp)])) (fun t_ K => XS.aload X4.here hx rfl (hb hby d_of_36) rfl rfl K) ?_
        exact own_retA X4 hx Bd.returns rfl hlk rfl (hb hby d_of_38) ⟨(by rw [hwv, own_of, if_neg c33_1, if_neg c33_2, if_pos c33_3]), rfl, (by rw [e4]; exact E1)⟩ (by decide) (by decide)
      · refine own_go (T' := T4) (g' := (mkF m 39 #[.val (.int fl), .val (.int (fl &&& (15 : Int32))), .val (.ref b), .val (.int (3 : Int32)), .val (.int (2 : Int32)), .val (.ref a_cp)] [])) (fun t_ K => XS.icmpYes X4.here hx rfl (pc0 := 33) (pc' := 39) rfl (hb hby d_of_33) rfl (feq c33_3).2 (by decide) (by decide) K) ?_
        refine own_go (T' := T4) (g' := (mkF m 42 #[.val (.int fl), .val (.int (fl &&& (15 : Int32))), .val (.ref b), .val (.int (3 : Int32)), .val (.int (3 : Int32)), .val (.ref a_cp)] [])) (fun t_ K => XS.iinc X4.here hx rfl (hb hby d_of_39) rfl (l' := #[.val (.int fl), .val (.int (fl &&& (15 : Int32))), .val (.ref b), .val (.int (3 : Int32)), .val (.int (3 : Int32)), .val (.ref a_cp)]) rfl K) ?_
        refine own_go (T' := T4) (g' := (mkF m 15 #[.val (.int fl), .val (.int (fl &&& (15 : Int32))), .val (.ref b), .val (.int (3 : Int32)), .val (.int (3 : Int32)), .val (.ref a_cp)] [])) (fun t_ K => XS.goto X4.here hx rfl (pc0 := 42) (pc' := 15) rfl (hb hby d_of_42) (by decide) (by decide) K) ?_
        refine own_go (T' := T4) (g' := (mkF m 17 #[.val (.int fl), .val (.int (fl &&& (15 : Int32))), .val (.ref b), .val (.int (3 : Int32)), .val (.int (3 : Int32)), .val (.ref a_cp)] [(.int (3 : Int32))])) (fun t_ K => XS.iload X4.here hx rfl (hb hby d_of_15) rfl K) ?_
        refine own_go (T' := T4) (g' := (mkF m 18 #[.val (.int fl), .val (.int (fl &&& (15 : Int32))), .val (.ref b), .val (.int (3 : Int32)), .val (.int (3 : Int32)), .val (.ref a_cp)] [(.int (3 : Int32)), (.int (3 : Int32))])) (fun t_ K => XS.iloadN X4.here hx rfl (hb hby d_of_17) rfl K) ?_
        refine own_go (T' := T4) (g' := (mkF m 45 #[.val (.int fl), .val (.int (fl &&& (15 : Int32))), .val (.ref b), .val (.int (3 : Int32)), .val (.int (3 : Int32)), .val (.ref a_cp)] [])) (fun t_ K => XS.icmpYes X4.here hx rfl (pc0 := 18) (pc' := 45) rfl (hb hby d_of_18) rfl (flt (by decide : ¬ ((3 : Int32) < (3 : Int32)))).2.1 (by decide) (by decide) K) ?_
        refine own_go (T' := T4) (g' := (mkF m 46 #[.val (.int fl), .val (.int (fl &&& (15 : Int32))), .val (.ref b), .val (.int (3 : Int32)), .val (.int (3 : Int32)), .val (.ref a_cp)] [.null])) (fun t_ K => XS.aconstNull X4.here hx rfl (hb hby d_of_45) K) ?_
        exact own_retA X4 hx Bd.returns rfl hlk rfl (hb hby d_of_46) ⟨(by rw [hwv, own_of, if_neg c33_1, if_neg c33_2, if_neg c33_3]), rfl, (by rw [e4]; exact E1)⟩ (by decide) (by decide)
def own_ex (k : Int32) (a_sa a_es a_cp : Addr) : Value := if k = (1 : Int32) then .ref a_sa else if k = (2 : Int32) then .ref a_es else if k = (3 : Int32) then .ref a_cp else .null
set_option maxRecDepth 65536 in
set_option maxHeartbeats 40000000 in
theorem rm_ex (l : Launch) (Z : State) (a0 : Array Value) (hw : ∀ d ∈ tables_1, d.before a0 Z = true) (fl : Int32) (wv : Value) (a_sa a_es a_cp : Addr) (h0 : Heap) (S_sa : Sta Z h0 "com/example/store_and_forward/storeandforward/wire/PacketType" "SESSION_ACK" "Lcom/example/store_and_forward/storeandforward/wire/PacketType;" (.ref a_sa)) (S_es : Sta Z h0 "com/example/store_and_forward/storeandforward/wire/PacketType" "ESTABLISH_CONNECTION" "Lcom/example/store_and_forward/storeandforward/wire/PacketType;" (.ref a_es)) (S_cp : Sta Z h0 "com/example/store_and_forward/storeandforward/wire/PacketType" "CONNECTION_PARAMETERS" "Lcom/example/store_and_forward/storeandforward/wire/PacketType;" (.ref a_cp)) (hwv : wv = own_ex (fl &&& (15 : Int32)) a_sa a_es a_cp) :
    Pays l Z (⟨"com/example/store_and_forward/storeandforward/wire/PacketTypeOfFlagsPinLaw", "expected", "(I)Lcom/example/store_and_forward/storeandforward/wire/PacketType;"⟩ : MethodName) method_2_code 2 (some (.object "com/example/store_and_forward/storeandforward/wire/PacketType")) ({ frames := 0, cells := 0, slots := 0, locals := 0 } : Room) #[(.int fl)] h0 (own_pure (some wv) h0) := by
  refine MetFree.of_bodySF (plainFor_of_name pn_1) hisR ?_
  intro p e s m args below meth c s₁ Bd hml0 hP hK
  obtain ⟨rfl, hZ, hh⟩ := hP
  have hx := Bd.exec
  have hby := Bd.bytes
  have hml : c.maxLocals = 2 := hml0
  have hown : s.vm.findClass "com/example/store_and_forward/storeandforward/wire/PacketTypeOfFlagsPinLaw" = some m.cls := findClass_of_methodNamed Bd.named
  have hnm := (name_of_methodNamed Bd.named Bd.method).1
  have hlk : meth.locks = false := BodyLoose.notSynchronized Bd
  have X0 : Stand p l e ({ frames := 0, cells := 0, slots := 0, locals := 0 } : Room) s m #[(.int fl)] below meth c s₁ [] 0 0 := Stand.of_body Bd
  have e0 : s₁.heap = h0 := by rw [← hh, Bd.state]; rfl
  show Goes p e below s (own_pure (some wv) h0) ({ frames := 0, cells := 0, slots := 0, locals := 0 } : Room).cells ({ frames := 0, cells := 0, slots := 0, locals := 0 } : Room).slots s₁ (entryFrame m #[(.int fl)] 2)
  rw [ef_ex m fl]
  refine own_go (T' := s₁) (g' := (mkF m 1 #[.val (.int fl), .unset] [(.int fl)])) (fun t_ K => XS.iloadN X0.here hx rfl (hb hby d_ex_0) rfl K) ?_
  refine own_go (T' := s₁) (g' := (mkF m 3 #[.val (.int fl), .unset] [(.int (15 : Int32)), (.int fl)])) (fun t_ K => XS.bipush X0.here hx rfl (hb hby d_ex_1) K) ?_
  refine own_go (T' := s₁) (g' := (mkF m 4 #[.val (.int fl), .unset] [(.int (fl &&& (15 : Int32)))])) (fun t_ K => XS.iand X0.here hx rfl (hb hby d_ex_3) rfl K) ?_
  refine own_go (T' := s₁) (g' := (mkF m 5 #[.val (.int fl), .val (.int (fl &&& (15 : Int32)))] [])) (fun t_ K => XS.istoreN X0.here hx rfl (hb hby d_ex_4) rfl (l' := #[.val (.int fl), .val (.int (fl &&& (15 : Int32)))]) rfl K) ?_
  refine own_go (T' := s₁) (g' := (mkF m 6 #[.val (.int fl), .val (.int (fl &&& (15 : Int32)))] [(.int (fl &&& (15 : Int32)))])) (fun t_ K => XS.iloadN X0.here hx rfl (hb hby d_ex_5) rfl K) ?_
  refine own_go (T' := s₁) (g' := (mkF m 7 #[.val (.int fl), .val (.int (fl &&& (15 : Int32)))] [(.int (1 : Int32)), (.int (fl &&& (15 : Int32)))])) (fun t_ K => XS.iconst X0.here hx rfl (hb hby d_ex_6) K) ?_
  by_cases c7 : (fl &&& (15 : Int32)) = (1 : Int32)
  · refine own_go (T' := s₁) (g' := (mkF m 10 #[.val (.int fl), .val (.int (fl &&& (15 : Int32)))] [])) (fun t_ K => XS.icmpNo X0.here hx rfl (hb hby d_ex_7) rfl (teq c7).2 K) ?_
    obtain ⟨T1, X1, e1, st1⟩ := getS2 X0 hx hZ hown (host := "") (Or.inl (hw _ (List.mem_of_getElem? (i := 30) rfl))) Via.refl e0 S_sa (g := (mkF m 10 #[.val (.int fl), .val (.int (fl &&& (15 : Int32)))] [])) rfl (hb hby d_ex_10)
    refine own_go (T' := T1) (g' := (mkF m 13 #[.val (.int fl), .val (.int (fl &&& (15 : Int32)))] [(.ref a_sa)])) (fun t_ K => st1 _ K) ?_
    exact own_retA X1 hx Bd.returns rfl hlk rfl (hb hby d_ex_13) ⟨(by rw [hwv, own_ex, if_pos c7]), rfl, e1⟩ (by decide) (by decide)
  · refine own_go (T' := s₁) (g' := (mkF m 14 #[.val (.int fl), .val (.int (fl &&& (15 : Int32)))] [])) (fun t_ K => XS.icmpYes X0.here hx rfl (pc0 := 7) (pc' := 14) rfl (hb hby d_ex_7) rfl (feq c7).2 (by decide) (by decide) K) ?_
    refine own_go (T' := s₁) (g' := (mkF m 15 #[.val (.int fl), .val (.int (fl &&& (15 : Int32)))] [(.int (fl &&& (15 : Int32)))])) (fun t_ K => XS.iloadN X0.here hx rfl (hb hby d_ex_14) rfl K) ?_
    refine own_go (T' := s₁) (g' := (mkF m 16 #[.val (.int fl), .val (.int (fl &&& (15 : Int32)))] [(.int (2 : Int32)), (.int (fl &&& (15 : Int32)))])) (fun t_ K => XS.iconst X0.here hx rfl (hb hby d_ex_15) K) ?_
    by_cases c16 : (fl &&& (15 : Int32)) = (2 : Int32)
    · refine own_go (T' := s₁) (g' := (mkF m 19 #[.val (.int fl), .val (.int (fl &&& (15 : Int32)))] [])) (fun t_ K => XS.icmpNo X0.here hx rfl (hb hby d_ex_16) rfl (teq c16).2 K) ?_
      obtain ⟨T2, X2, e2, st2⟩ := getS2 X0 hx hZ hown (host := "") (Or.inl (hw _ (List.mem_of_getElem? (i := 29) rfl))) Via.refl e0 S_es (g := (mkF m 19 #[.val (.int fl), .val (.int (fl &&& (15 : Int32)))] [])) rfl (hb hby d_ex_19)
      refine own_go (T' := T2) (g' := (mkF m 22 #[.val (.int fl), .val (.int (fl &&& (15 : Int32)))] [(.ref a_es)])) (fun t_ K => st2 _ K) ?_
      exact own_retA X2 hx Bd.returns rfl hlk rfl (hb hby d_ex_22) ⟨(by rw [hwv, own_ex, if_neg c7, if_pos c16]), rfl, e2⟩ (by decide) (by decide)
    · refine own_go (T' := s₁) (g' := (mkF m 23 #[.val (.int fl), .val (.int (fl &&& (15 : Int32)))] [])) (fun t_ K => XS.icmpYes X0.here hx rfl (pc0 := 16) (pc' := 23) rfl (hb hby d_ex_16) rfl (feq c16).2 (by decide) (by decide) K) ?_
      refine own_go (T' := s₁) (g' := (mkF m 24 #[.val (.int fl), .val (.int (fl &&& (15 : Int32)))] [(.int (fl &&& (15 : Int32)))])) (fun t_ K => XS.iloadN X0.here hx rfl (hb hby d_ex_23) rfl K) ?_
      refine own_go (T' := s₁) (g' := (mkF m 25 #[.val (.int fl), .val (.int (fl &&& (15 : Int32)))] [(.int (3 : Int32)), (.int (fl &&& (15 : Int32)))])) (fun t_ K => XS.iconst X0.here hx rfl (hb hby d_ex_24) K) ?_
      by_cases c25 : (fl &&& (15 : Int32)) = (3 : Int32)
      · refine own_go (T' := s₁) (g' := (mkF m 28 #[.val (.int fl), .val (.int (fl &&& (15 : Int32)))] [])) (fun t_ K => XS.icmpNo X0.here hx rfl (hb hby d_ex_25) rfl (teq c25).2 K) ?_
        obtain ⟨T3, X3, e3, st3⟩ := getS2 X0 hx hZ hown (host := "") (Or.inl (hw _ (List.mem_of_getElem? (i := 28) rfl))) Via.refl e0 S_cp (g := (mkF m 28 #[.val (.int fl), .val (.int (fl &&& (15 : Int32)))] [])) rfl (hb hby d_ex_28)
        refine own_go (T' := T3) (g' := (mkF m 31 #[.val (.int fl), .val (.int (fl &&& (15 : Int32)))] [(.ref a_cp)])) (fun t_ K => st3 _ K) ?_
        exact own_retA X3 hx Bd.returns rfl hlk rfl (hb hby d_ex_31) ⟨(by rw [hwv, own_ex, if_neg c7, if_neg c16, if_pos c25]), rfl, e3⟩ (by decide) (by decide)
      · refine own_go (T' := s₁) (g' := (mkF m 32 #[.val (.int fl), .val (.int (fl &&& (15 : Int32)))] [])) (fun t_ K => XS.icmpYes X0.here hx rfl (pc0 := 25) (pc' := 32) rfl (hb hby d_ex_25) rfl (feq c25).2 (by decide) (by decide) K) ?_
        refine own_go (T' := s₁) (g' := (mkF m 33 #[.val (.int fl), .val (.int (fl &&& (15 : Int32)))] [.null])) (fun t_ K => XS.aconstNull X0.here hx rfl (hb hby d_ex_32) K) ?_
        exact own_retA X0 hx Bd.returns rfl hlk rfl (hb hby d_ex_33) ⟨(by rw [hwv, own_ex, if_neg c7, if_neg c16, if_neg c25]), rfl, e0⟩ (by decide) (by decide)
theorem own_four (k : Int32) (a_sa a_es a_cp : Addr) : (own_of k a_sa a_es a_cp = .ref a_sa ∧ own_ex k a_sa a_es a_cp = .ref a_sa) ∨ (own_of k a_sa a_es a_cp = .ref a_es ∧ own_ex k a_sa a_es a_cp = .ref a_es) ∨ (own_of k a_sa a_es a_cp = .ref a_cp ∧ own_ex k a_sa a_es a_cp = .ref a_cp) ∨ (own_of k a_sa a_es a_cp = .null ∧ own_ex k a_sa a_es a_cp = .null) := by
  rw [own_of, own_ex]
  by_cases q1 : k = (1 : Int32)
  · rw [if_pos q1.symm, if_pos q1]; exact Or.inl ⟨rfl, rfl⟩
  rw [if_neg (fun q => q1 q.symm), if_neg q1]
  by_cases q2 : k = (2 : Int32)
  · rw [if_pos q2.symm, if_pos q2]; exact Or.inr (Or.inl ⟨rfl, rfl⟩)
  rw [if_neg (fun q => q2 q.symm), if_neg q2]
  by_cases q3 : k = (3 : Int32)
  · rw [if_pos q3.symm, if_pos q3]; exact Or.inr (Or.inr (Or.inl ⟨rfl, rfl⟩))
  rw [if_neg (fun q => q3 q.symm), if_neg q3]; exact Or.inr (Or.inr (Or.inr ⟨rfl, rfl⟩))
set_option maxRecDepth 65536 in
set_option maxHeartbeats 40000000 in
theorem rm_law (l : Launch) (Z : State) (a0 : Array Value) (hw : ∀ d ∈ tables_1, d.before a0 Z = true) (ws : List Jvm.Cond) (fl : Int32) (va : Addr) (kc : ClassId) (a_sa a_es a_cp : Addr) (h0 : Heap) (S_sa : Sta Z h0 "com/example/store_and_forward/storeandforward/wire/PacketType" "SESSION_ACK" "Lcom/example/store_and_forward/storeandforward/wire/PacketType;" (.ref a_sa)) (S_es : Sta Z h0 "com/example/store_and_forward/storeandforward/wire/PacketType" "ESTABLISH_CONNECTION" "Lcom/example/store_and_forward/storeandforward/wire/PacketType;" (.ref a_es)) (S_cp : Sta Z h0 "com/example/store_and_forward/storeandforward/wire/PacketType" "CONNECTION_PARAMETERS" "Lcom/example/store_and_forward/storeandforward/wire/PacketType;" (.ref a_cp)) (F_sa : Fld Z h0 a_sa "com/example/store_and_forward/storeandforward/wire/PacketType" "code" "I" (.int (1 : Int32))) (F_es : Fld Z h0 a_es "com/example/store_and_forward/storeandforward/wire/PacketType" "code" "I" (.int (2 : Int32))) (F_cp : Fld Z h0 a_cp "com/example/store_and_forward/storeandforward/wire/PacketType" "code" "I" (.int (3 : Int32))) (SV : Sta Z h0 "com/example/store_and_forward/storeandforward/wire/PacketType" "$VALUES" "[Lcom/example/store_and_forward/storeandforward/wire/PacketType;" (.ref va)) (AV : Arv Z h0 va kc (.object "com/example/store_and_forward/storeandforward/wire/PacketType") (3 : Int32) [.ref a_sa, .ref a_es, .ref a_cp] .null) (EV : Exa Z h0 va "[Lcom/example/store_and_forward/storeandforward/wire/PacketType;") :
    MetFree l x (head1 (Jvm.Cond.code x code maxLocals ret :: ws) room_1) (fun a U => a = #[(.int fl)] ∧ Z.Warmed39 U.vm ∧ U.heap = h0) (fun _ _ _ _ _ => True) (fun _ U o U' => ∃ v L, o = .returned v ∧ (fun v _ L => v = some (.int 1) ∧ L = []) v U'.heap L ∧ FrameEnd U o U' L 1 3) := by
  refine MetFree.of_bodySF (plainFor_of_name pn_1) hisR ?_
  intro p e s m args below meth c s₁ Bd hml0 hP hK
  obtain ⟨rfl, hZ, hh⟩ := hP
  have hx := Bd.exec
  have hby := Bd.bytes
  have hml : c.maxLocals = 2 := hml0
  have hown : s.vm.findClass "com/example/store_and_forward/storeandforward/wire/PacketTypeOfFlagsPinLaw" = some m.cls := findClass_of_methodNamed Bd.named
  have hnm := (name_of_methodNamed Bd.named Bd.method).1
  have hlk : meth.locks = false := BodyLoose.notSynchronized Bd
  have X0 : Stand p l e room_1 s m #[(.int fl)] below meth c s₁ [] 0 0 := Stand.of_body Bd
  have e0 : s₁.heap = h0 := by rw [← hh, Bd.state]; rfl
  show Goes p e below s (fun v _ L => v = some (.int 1) ∧ L = []) 1 3 s₁ (entryFrame m #[(.int fl)] maxLocals)
  rw [ef_law m fl]
  rcases own_four (fl &&& (15 : Int32)) a_sa a_es a_cp with ⟨w1, w2⟩ | ⟨w1, w2⟩ | ⟨w1, w2⟩ | ⟨w1, w2⟩
  · refine own_go (T' := s₁) (g' := (mkF m 1 #[.val (.int fl), .unset] [(.int fl)])) (fun t_ K => XS.iloadN X0.here hx rfl (hb hby at_0) rfl K) ?_
    obtain ⟨_, _, ⟨T1, L1, k1, n1⟩, -, X1, ⟨Lc1, hQ1, l1, y1, z1⟩, st1⟩ := Jvm.LawKit.callS X0 hx (y := (⟨"com/example/store_and_forward/storeandforward/wire/PacketType", "ofFlags", "(I)Lcom/example/store_and_forward/storeandforward/wire/PacketType;"⟩ : MethodName)) hown (mvT hZ (hw _ (List.mem_of_getElem? (i := 0) rfl))) (mvT hZ (hw _ (List.mem_of_getElem? (i := 1) rfl))) (mvT hZ (hw _ (List.mem_of_getElem? (i := 2) rfl))) (mvT hZ (hw _ (List.mem_of_getElem? (i := 3) rfl))) (by decide) (backOf (W := 0) (rm_of l Z a0 hw fl (.ref a_sa) va kc a_sa a_es a_cp h0 S_sa S_es S_cp F_sa F_es F_cp SV AV EV w1.symm) hZ (hw _ (List.mem_of_getElem? (i := 3) rfl)) (hw _ (List.mem_of_getElem? (i := 2) rfl)) (by decide) (by decide)) (g := (mkF m 1 #[.val (.int fl), .unset] [(.int fl)])) rfl (by rw [hml]; rfl) (argsL := [(.int fl)]) (rest := []) (lenOf pd_1 rfl) rfl (by show 2 * 0 + _ ≤ _; exact Nat.le_of_eq rfl) (hb hby at_1) (fun _ _ => ⟨rfl, e0, (by decide : 0 + 1 ≤ _), (by decide : 0 + 3 ≤ _)⟩)
    dsimp only [Pt.U, Pt.locs, Pt.cells, Pt.slots] at X1 l1 y1 z1 st1 hQ1
    subst l1 y1 z1
    obtain ⟨rfl, rfl, E1⟩ := hQ1
    have e1 : T1.heap = T1.heap := rfl
    have S_sa' := S_sa.ext E1
    have S_es' := S_es.ext E1
    have S_cp' := S_cp.ext E1
    refine own_go (T' := T1) (g' := (mkF m 4 #[.val (.int fl), .unset] [(.ref a_sa)])) (fun t_ K => st1 _ K) ?_
    refine own_go (T' := T1) (g' := (mkF m 5 #[.val (.int fl), .val (.ref a_sa)] [])) (fun t_ K => XS.astoreN X1.here hx rfl (hb hby at_4) rfl rfl (l' := #[.val (.int fl), .val (.ref a_sa)]) rfl K) ?_
    refine own_go (T' := T1) (g' := (mkF m 6 #[.val (.int fl), .val (.ref a_sa)] [(.ref a_sa)])) (fun t_ K => XS.aloadN X1.here hx rfl (hb hby at_5) rfl rfl K) ?_
    refine own_go (T' := T1) (g' := (mkF m 7 #[.val (.int fl), .val (.ref a_sa)] [(.int fl), (.ref a_sa)])) (fun t_ K => XS.iloadN X1.here hx rfl (hb hby at_6) rfl K) ?_
    obtain ⟨T2, X2, e2, st2⟩ := own_callS (W := 1) (rm := { frames := 0, cells := 0, slots := 0, locals := 0 }) X1 hx hZ hown (hw _ (List.mem_of_getElem? (i := 24) rfl)) (hw _ (List.mem_of_getElem? (i := 25) rfl)) (hw _ (List.mem_of_getElem? (i := 26) rfl)) (hw _ (List.mem_of_getElem? (i := 27) rfl)) (by decide) e1 (argsL := [(.int fl)]) (rest := [(.ref a_sa)]) (r := some (.ref a_sa)) (rm_ex l Z a0 hw fl (.ref a_sa) a_sa a_es a_cp T1.heap S_sa' S_es' S_cp' w2.symm) rfl rfl (by decide) (by decide) (by decide) (by decide) (g := (mkF m 7 #[.val (.int fl), .val (.ref a_sa)] [(.int fl), (.ref a_sa)])) rfl (by rw [hml]; rfl) (lenOf pd_1 rfl) rfl (by show 2 * 0 + _ ≤ _; exact Nat.le_of_eq rfl) (hb hby at_7)
    refine own_go (T' := T2) (g' := (mkF m 10 #[.val (.int fl), .val (.ref a_sa)] [(.ref a_sa), (.ref a_sa)])) (fun t_ K => st2 _ K) ?_
    refine own_go (T' := T2) (g' := (mkF m 13 #[.val (.int fl), .val (.ref a_sa)] [])) (fun t_ K => Jvm.RoadKit.acmp (g := (mkF m 10 #[.val (.int fl), .val (.ref a_sa)] [(.ref a_sa), (.ref a_sa)])) X2 hx rfl rfl rfl (pc0 := 10) (pc' := 13) (same := true) rfl (hb hby at_10) rfl (decide_eq_true rfl) (by decide) (by decide) K) ?_
    refine own_go (T' := T2) (g' := (mkF m 14 #[.val (.int fl), .val (.ref a_sa)] [(.int (1 : Int32))])) (fun t_ K => XS.iconst X2.here hx rfl (hb hby at_13) K) ?_
    refine own_go (T' := T2) (g' := (mkF m 18 #[.val (.int fl), .val (.ref a_sa)] [(.int (1 : Int32))])) (fun t_ K => XS.goto X2.here hx rfl (pc0 := 14) (pc' := 18) rfl (hb hby at_14) (by decide) (by decide) K) ?_
    exact own_retZ X2 hx Bd.returns hlk (Or.inr rfl) (hb hby at_18) ⟨rfl, rfl⟩ (by decide) (by decide)
  · refine own_go (T' := s₁) (g' := (mkF m 1 #[.val (.int fl), .unset] [(.int fl)])) (fun t_ K => XS.iloadN X0.here hx rfl (hb hby at_0) rfl K) ?_
    obtain ⟨_, _, ⟨T3, L3, k3, n3⟩, -, X3, ⟨Lc3, hQ3, l3, y3, z3⟩, st3⟩ := Jvm.LawKit.callS X0 hx (y := (⟨"com/example/store_and_forward/storeandforward/wire/PacketType", "ofFlags", "(I)Lcom/example/store_and_forward/storeandforward/wire/PacketType;"⟩ : MethodName)) hown (mvT hZ (hw _ (List.mem_of_getElem? (i := 0) rfl))) (mvT hZ (hw _ (List.mem_of_getElem? (i := 1) rfl))) (mvT hZ (hw _ (List.mem_of_getElem? (i := 2) rfl))) (mvT hZ (hw _ (List.mem_of_getElem? (i := 3) rfl))) (by decide) (backOf (W := 0) (rm_of l Z a0 hw fl (.ref a_es) va kc a_sa a_es a_cp h0 S_sa S_es S_cp F_sa F_es F_cp SV AV EV w1.symm) hZ (hw _ (List.mem_of_getElem? (i := 3) rfl)) (hw _ (List.mem_of_getElem? (i := 2) rfl)) (by decide) (by decide)) (g := (mkF m 1 #[.val (.int fl), .unset] [(.int fl)])) rfl (by rw [hml]; rfl) (argsL := [(.int fl)]) (rest := []) (lenOf pd_1 rfl) rfl (by show 2 * 0 + _ ≤ _; exact Nat.le_of_eq rfl) (hb hby at_1) (fun _ _ => ⟨rfl, e0, (by decide : 0 + 1 ≤ _), (by decide : 0 + 3 ≤ _)⟩)
    dsimp only [Pt.U, Pt.locs, Pt.cells, Pt.slots] at X3 l3 y3 z3 st3 hQ3
    subst l3 y3 z3
    obtain ⟨rfl, rfl, E3⟩ := hQ3
    have e3 : T3.heap = T3.heap := rfl
    have S_sa' := S_sa.ext E3
    have S_es' := S_es.ext E3
    have S_cp' := S_cp.ext E3
    refine own_go (T' := T3) (g' := (mkF m 4 #[.val (.int fl), .unset] [(.ref a_es)])) (fun t_ K => st3 _ K) ?_
    refine own_go (T' := T3) (g' := (mkF m 5 #[.val (.int fl), .val (.ref a_es)] [])) (fun t_ K => XS.astoreN X3.here hx rfl (hb hby at_4) rfl rfl (l' := #[.val (.int fl), .val (.ref a_es)]) rfl K) ?_
    refine own_go (T' := T3) (g' := (mkF m 6 #[.val (.int fl), .val (.ref a_es)] [(.ref a_es)])) (fun t_ K => XS.aloadN X3.here hx rfl (hb hby at_5) rfl rfl K) ?_
    refine own_go (T' := T3) (g' := (mkF m 7 #[.val (.int fl), .val (.ref a_es)] [(.int fl), (.ref a_es)])) (fun t_ K => XS.iloadN X3.here hx rfl (hb hby at_6) rfl K) ?_
    obtain ⟨T4, X4, e4, st4⟩ := own_callS (W := 1) (rm := { frames := 0, cells := 0, slots := 0, locals := 0 }) X3 hx hZ hown (hw _ (List.mem_of_getElem? (i := 24) rfl)) (hw _ (List.mem_of_getElem? (i := 25) rfl)) (hw _ (List.mem_of_getElem? (i := 26) rfl)) (hw _ (List.mem_of_getElem? (i := 27) rfl)) (by decide) e3 (argsL := [(.int fl)]) (rest := [(.ref a_es)]) (r := some (.ref a_es)) (rm_ex l Z a0 hw fl (.ref a_es) a_sa a_es a_cp T3.heap S_sa' S_es' S_cp' w2.symm) rfl rfl (by decide) (by decide) (by decide) (by decide) (g := (mkF m 7 #[.val (.int fl), .val (.ref a_es)] [(.int fl), (.ref a_es)])) rfl (by rw [hml]; rfl) (lenOf pd_1 rfl) rfl (by show 2 * 0 + _ ≤ _; exact Nat.le_of_eq rfl) (hb hby at_7)
    refine own_go (T' := T4) (g' := (mkF m 10 #[.val (.int fl), .val (.ref a_es)] [(.ref a_es), (.ref a_es)])) (fun t_ K => st4 _ K) ?_
    refine own_go (T' := T4) (g' := (mkF m 13 #[.val (.int fl), .val (.ref a_es)] [])) (fun t_ K => Jvm.RoadKit.acmp (g := (mkF m 10 #[.val (.int fl), .val (.ref a_es)] [(.ref a_es), (.ref a_es)])) X4 hx rfl rfl rfl (pc0 := 10) (pc' := 13) (same := true) rfl (hb hby at_10) rfl (decide_eq_true rfl) (by decide) (by decide) K) ?_
    refine own_go (T' := T4) (g' := (mkF m 14 #[.val (.int fl), .val (.ref a_es)] [(.int (1 : Int32))])) (fun t_ K => XS.iconst X4.here hx rfl (hb hby at_13) K) ?_
    refine own_go (T' := T4) (g' := (mkF m 18 #[.val (.int fl), .val (.ref a_es)] [(.int (1 : Int32))])) (fun t_ K => XS.goto X4.here hx rfl (pc0 := 14) (pc' := 18) rfl (hb hby at_14) (by decide) (by decide) K) ?_
    exact own_retZ X4 hx Bd.returns hlk (Or.inr rfl) (hb hby at_18) ⟨rfl, rfl⟩ (by decide) (by decide)
  · refine own_go (T' := s₁) (g' := (mkF m 1 #[.val (.int fl), .unset] [(.int fl)])) (fun t_ K => XS.iloadN X0.here hx rfl (hb hby at_0) rfl K) ?_
    obtain ⟨_, _, ⟨T5, L5, k5, n5⟩, -, X5, ⟨Lc5, hQ5, l5, y5, z5⟩, st5⟩ := Jvm.LawKit.callS X0 hx (y := (⟨"com/example/store_and_forward/storeandforward/wire/PacketType", "ofFlags", "(I)Lcom/example/store_and_forward/storeandforward/wire/PacketType;"⟩ : MethodName)) hown (mvT hZ (hw _ (List.mem_of_getElem? (i := 0) rfl))) (mvT hZ (hw _ (List.mem_of_getElem? (i := 1) rfl))) (mvT hZ (hw _ (List.mem_of_getElem? (i := 2) rfl))) (mvT hZ (hw _ (List.mem_of_getElem? (i := 3) rfl))) (by decide) (backOf (W := 0) (rm_of l Z a0 hw fl (.ref a_cp) va kc a_sa a_es a_cp h0 S_sa S_es S_cp F_sa F_es F_cp SV AV EV w1.symm) hZ (hw _ (List.mem_of_getElem? (i := 3) rfl)) (hw _ (List.mem_of_getElem? (i := 2) rfl)) (by decide) (by decide)) (g := (mkF m 1 #[.val (.int fl), .unset] [(.int fl)])) rfl (by rw [hml]; rfl) (argsL := [(.int fl)]) (rest := []) (lenOf pd_1 rfl) rfl (by show 2 * 0 + _ ≤ _; exact Nat.le_of_eq rfl) (hb hby at_1) (fun _ _ => ⟨rfl, e0, (by decide : 0 + 1 ≤ _), (by decide : 0 + 3 ≤ _)⟩)
    dsimp only [Pt.U, Pt.locs, Pt.cells, Pt.slots] at X5 l5 y5 z5 st5 hQ5
    subst l5 y5 z5
    obtain ⟨rfl, rfl, E5⟩ := hQ5
    have e5 : T5.heap = T5.heap := rfl
    have S_sa' := S_sa.ext E5
    have S_es' := S_es.ext E5
    have S_cp' := S_cp.ext E5
    refine own_go (T' := T5) (g' := (mkF m 4 #[.val (.int fl), .unset] [(.ref a_cp)])) (fun t_ K => st5 _ K) ?_
    refine own_go (T' := T5) (g' := (mkF m 5 #[.val (.int fl), .val (.ref a_cp)] [])) (fun t_ K => XS.astoreN X5.here hx rfl (hb hby at_4) rfl rfl (l' := #[.val (.int fl), .val (.ref a_cp)]) rfl K) ?_
    refine own_go (T' := T5) (g' := (mkF m 6 #[.val (.int fl), .val (.ref a_cp)] [(.ref a_cp)])) (fun t_ K => XS.aloadN X5.here hx rfl (hb hby at_5) rfl rfl K) ?_
    refine own_go (T' := T5) (g' := (mkF m 7 #[.val (.int fl), .val (.ref a_cp)] [(.int fl), (.ref a_cp)])) (fun t_ K => XS.iloadN X5.here hx rfl (hb hby at_6) rfl K) ?_
    obtain ⟨T6, X6, e6, st6⟩ := own_callS (W := 1) (rm := { frames := 0, cells := 0, slots := 0, locals := 0 }) X5 hx hZ hown (hw _ (List.mem_of_getElem? (i := 24) rfl)) (hw _ (List.mem_of_getElem? (i := 25) rfl)) (hw _ (List.mem_of_getElem? (i := 26) rfl)) (hw _ (List.mem_of_getElem? (i := 27) rfl)) (by decide) e5 (argsL := [(.int fl)]) (rest := [(.ref a_cp)]) (r := some (.ref a_cp)) (rm_ex l Z a0 hw fl (.ref a_cp) a_sa a_es a_cp T5.heap S_sa' S_es' S_cp' w2.symm) rfl rfl (by decide) (by decide) (by decide) (by decide) (g := (mkF m 7 #[.val (.int fl), .val (.ref a_cp)] [(.int fl), (.ref a_cp)])) rfl (by rw [hml]; rfl) (lenOf pd_1 rfl) rfl (by show 2 * 0 + _ ≤ _; exact Nat.le_of_eq rfl) (hb hby at_7)
    refine own_go (T' := T6) (g' := (mkF m 10 #[.val (.int fl), .val (.ref a_cp)] [(.ref a_cp), (.ref a_cp)])) (fun t_ K => st6 _ K) ?_
    refine own_go (T' := T6) (g' := (mkF m 13 #[.val (.int fl), .val (.ref a_cp)] [])) (fun t_ K => Jvm.RoadKit.acmp (g := (mkF m 10 #[.val (.int fl), .val (.ref a_cp)] [(.ref a_cp), (.ref a_cp)])) X6 hx rfl rfl rfl (pc0 := 10) (pc' := 13) (same := true) rfl (hb hby at_10) rfl (decide_eq_true rfl) (by decide) (by decide) K) ?_
    refine own_go (T' := T6) (g' := (mkF m 14 #[.val (.int fl), .val (.ref a_cp)] [(.int (1 : Int32))])) (fun t_ K => XS.iconst X6.here hx rfl (hb hby at_13) K) ?_
    refine own_go (T' := T6) (g' := (mkF m 18 #[.val (.int fl), .val (.ref a_cp)] [(.int (1 : Int32))])) (fun t_ K => XS.goto X6.here hx rfl (pc0 := 14) (pc' := 18) rfl (hb hby at_14) (by decide) (by decide) K) ?_
    exact own_retZ X6 hx Bd.returns hlk (Or.inr rfl) (hb hby at_18) ⟨rfl, rfl⟩ (by decide) (by decide)
  · refine own_go (T' := s₁) (g' := (mkF m 1 #[.val (.int fl), .unset] [(.int fl)])) (fun t_ K => XS.iloadN X0.here hx rfl (hb hby at_0) rfl K) ?_
    obtain ⟨_, _, ⟨T7, L7, k7, n7⟩, -, X7, ⟨Lc7, hQ7, l7, y7, z7⟩, st7⟩ := Jvm.LawKit.callS X0 hx (y := (⟨"com/example/store_and_forward/storeandforward/wire/PacketType", "ofFlags", "(I)Lcom/example/store_and_forward/storeandforward/wire/PacketType;"⟩ : MethodName)) hown (mvT hZ (hw _ (List.mem_of_getElem? (i := 0) rfl))) (mvT hZ (hw _ (List.mem_of_getElem? (i := 1) rfl))) (mvT hZ (hw _ (List.mem_of_getElem? (i := 2) rfl))) (mvT hZ (hw _ (List.mem_of_getElem? (i := 3) rfl))) (by decide) (backOf (W := 0) (rm_of l Z a0 hw fl .null va kc a_sa a_es a_cp h0 S_sa S_es S_cp F_sa F_es F_cp SV AV EV w1.symm) hZ (hw _ (List.mem_of_getElem? (i := 3) rfl)) (hw _ (List.mem_of_getElem? (i := 2) rfl)) (by decide) (by decide)) (g := (mkF m 1 #[.val (.int fl), .unset] [(.int fl)])) rfl (by rw [hml]; rfl) (argsL := [(.int fl)]) (rest := []) (lenOf pd_1 rfl) rfl (by show 2 * 0 + _ ≤ _; exact Nat.le_of_eq rfl) (hb hby at_1) (fun _ _ => ⟨rfl, e0, (by decide : 0 + 1 ≤ _), (by decide : 0 + 3 ≤ _)⟩)
    dsimp only [Pt.U, Pt.locs, Pt.cells, Pt.slots] at X7 l7 y7 z7 st7 hQ7
    subst l7 y7 z7
    obtain ⟨rfl, rfl, E7⟩ := hQ7
    have e7 : T7.heap = T7.heap := rfl
    have S_sa' := S_sa.ext E7
    have S_es' := S_es.ext E7
    have S_cp' := S_cp.ext E7
    refine own_go (T' := T7) (g' := (mkF m 4 #[.val (.int fl), .unset] [.null])) (fun t_ K => st7 _ K) ?_
    refine own_go (T' := T7) (g' := (mkF m 5 #[.val (.int fl), .val .null] [])) (fun t_ K => XS.astoreN X7.here hx rfl (hb hby at_4) rfl rfl (l' := #[.val (.int fl), .val .null]) rfl K) ?_
    refine own_go (T' := T7) (g' := (mkF m 6 #[.val (.int fl), .val .null] [.null])) (fun t_ K => XS.aloadN X7.here hx rfl (hb hby at_5) rfl rfl K) ?_
    refine own_go (T' := T7) (g' := (mkF m 7 #[.val (.int fl), .val .null] [(.int fl), .null])) (fun t_ K => XS.iloadN X7.here hx rfl (hb hby at_6) rfl K) ?_
    obtain ⟨T8, X8, e8, st8⟩ := own_callS (W := 1) (rm := { frames := 0, cells := 0, slots := 0, locals := 0 }) X7 hx hZ hown (hw _ (List.mem_of_getElem? (i := 24) rfl)) (hw _ (List.mem_of_getElem? (i := 25) rfl)) (hw _ (List.mem_of_getElem? (i := 26) rfl)) (hw _ (List.mem_of_getElem? (i := 27) rfl)) (by decide) e7 (argsL := [(.int fl)]) (rest := [.null]) (r := some .null) (rm_ex l Z a0 hw fl .null a_sa a_es a_cp T7.heap S_sa' S_es' S_cp' w2.symm) rfl rfl (by decide) (by decide) (by decide) (by decide) (g := (mkF m 7 #[.val (.int fl), .val .null] [(.int fl), .null])) rfl (by rw [hml]; rfl) (lenOf pd_1 rfl) rfl (by show 2 * 0 + _ ≤ _; exact Nat.le_of_eq rfl) (hb hby at_7)
    refine own_go (T' := T8) (g' := (mkF m 10 #[.val (.int fl), .val .null] [.null, .null])) (fun t_ K => st8 _ K) ?_
    refine own_go (T' := T8) (g' := (mkF m 13 #[.val (.int fl), .val .null] [])) (fun t_ K => Jvm.RoadKit.acmp (g := (mkF m 10 #[.val (.int fl), .val .null] [.null, .null])) X8 hx rfl rfl rfl (pc0 := 10) (pc' := 13) (same := true) rfl (hb hby at_10) rfl (decide_eq_true rfl) (by decide) (by decide) K) ?_
    refine own_go (T' := T8) (g' := (mkF m 14 #[.val (.int fl), .val .null] [(.int (1 : Int32))])) (fun t_ K => XS.iconst X8.here hx rfl (hb hby at_13) K) ?_
    refine own_go (T' := T8) (g' := (mkF m 18 #[.val (.int fl), .val .null] [(.int (1 : Int32))])) (fun t_ K => XS.goto X8.here hx rfl (pc0 := 14) (pc' := 18) rfl (hb hby at_14) (by decide) (by decide) K) ?_
    exact own_retZ X8 hx Bd.returns hlk (Or.inr rfl) (hb hby at_18) ⟨rfl, rfl⟩ (by decide) (by decide)
theorem own_len {args : Array Value} {s : State} {t : Term} {x : Addr} {cl : Cell} {ty : FieldType} {k : Int32} (ev : t.eval args s none [] s = some (.ref x)) (A : Arr s s.heap x cl ty) (h : (Jvm.Cond.eq (Term.length t) (Term.int k)).value args s none s [] = some true) : cl.slots.size < 2 ^ 31 ∧ cl.slots.size.toInt32 = k := by
  have e := own_eqi h
  obtain ⟨b, cell, e1, e2, e3⟩ := Term.length_spec e
  have h31 := SBG.length_lt e1 e2 e
  have q1 : x = b := Value.ref.inj (Option.some.inj (ev.symm.trans e1))
  subst q1
  have a := IntBox.arrayAt_of A.1 A.2.1 A.2.2
  have q2 : cl = cell := Option.some.inj (a.symm.trans e2)
  subst q2
  exact ⟨h31, (Value.int.inj e3).symm⟩
theorem own_elem {args : Array Value} {s : State} {t u : Term} {x y : Addr} {cl : Cell} {ty : FieldType} {k : Int32} (ev : t.eval args s none [] s = some (.ref x)) (A : Arr s s.heap x cl ty) (eu : u.eval args s none [] s = some (.ref y)) (hk : ¬ k < 0) (h : (Jvm.Cond.eq (Term.elem t (Term.int k)) u).value args s none s [] = some true) : cl.slots[k.toNatClampNeg]? = some (.ref y) := by
  obtain ⟨p, q, e1, e2, k1, k2⟩ := cmp_v (Or.inl h)
  cases eu.symm.trans e2
  have hr := gotT (eq_R e1 e2 k2.2 rfl) h
  rw [hr] at e1
  have a := IntBox.arrayAt_of A.1 A.2.1 A.2.2
  rw [elem_f ev (Term.int_eval k) a hk] at e1
  exact e1
set_option maxRecDepth 65536 in
set_option maxHeartbeats 40000000 in
theorem comes_1 {Post : Tables → Env → Array Value → State → Outcome → State → Prop} (hpost : ∀ tb e args s v u, (limb_1_1.after args s (.returned v) u = true ∧ limb_1_2.after args s (.returned v) u = true ∧ True) → FrameEnd s (.returned v) u (Jvm.fieldLocs frame_1_writes args s ++ Jvm.arrayLocs frame_1_arrays args s ++ Jvm.staticLocs frame_1_statics s) 16 128 → Post tb e args s (.returned v) u) :
    ArmFor flags0 classFile x code maxLocals ret World_1 tables_1 room_1 Calls_1 rest_1 Pre_1 Post := by
  intro l hfl _ _ p e ha hc hk s m args below hf hA hF happ hP
  obtain ⟨hcalls, hrest, hpre⟩ := hP
  obtain ⟨-, -, -, hnamed, -, -, -, hat⟩ := (Spec.applies_iff hf).mp happ
  obtain ⟨hg, hn⟩ := and_e (Cond.before_iff.mp (show (Jvm.Cond.and given_1 narrow_1).before args s = true from hpre))
  obtain ⟨hcount, hk0⟩ := and_e hg
  obtain ⟨w0, rfl⟩ : ∃ w0 : Value, args = #[w0] := by
    have hs : args.size = 1 := by simpa [Cond.value, given_1] using hcount
    obtain ⟨L⟩ := args
    match L, hs with
    | [w0], _ => exact ⟨w0, rfl⟩
  have hw := fun d (hd : d ∈ tables_1) => atoms_spec (ws := Jvm.Cond.code x code maxLocals ret :: tables_1) hat d (List.mem_cons_of_mem _ hd)
  have hfit : Fit s := fun {y c} hc i hi => by
    obtain ⟨ha, rfl⟩ := Array.getElem?_eq_some_iff.mp hc
    have q := List.all_eq_true.mp ((Array.all_eq_true_iff_forall_mem.mp hF) _ (Array.getElem_mem ha)) i (List.mem_range.mpr hi)
    simpa [Array.getElem?_eq_getElem hi] using q
  obtain ⟨q0, f0⟩ := is_v hk0
  obtain rfl : w0 = (.int q0) := Option.some.inj f0
  obtain ⟨hz0, hn0⟩ := and_e hn
  obtain ⟨hz1, hn1⟩ := and_e hn0
  obtain ⟨hz2, hn2⟩ := and_e hn1
  obtain ⟨hz3, hn3⟩ := and_e hn2
  obtain ⟨hz4, hn4⟩ := and_e hn3
  obtain ⟨hz5, hn5⟩ := and_e hn4
  obtain ⟨hz6, hn6⟩ := and_e hn5
  obtain ⟨hz7, hn7⟩ := and_e hn6
  obtain ⟨hz8, hn8⟩ := and_e hn7
  obtain ⟨hz9, hn9⟩ := and_e hn8
  obtain ⟨hz10, hn10⟩ := and_e hn9
  have hz11 := hn10
  obtain ⟨a_sa, v_sa⟩ := exa_v hz3
  have S_sa : Sta s s.heap "com/example/store_and_forward/storeandforward/wire/PacketType" "SESSION_ACK" "Lcom/example/store_and_forward/storeandforward/wire/PacketType;" (.ref a_sa) := Sta.start v_sa (Or.inr ⟨(hw _ (List.mem_of_getElem? (i := 2) rfl)), (hw _ (List.mem_of_getElem? (i := 16) rfl))⟩)
  have F_sa := own_ord v_sa hz9
  obtain ⟨a_es, v_es⟩ := exa_v hz5
  have S_es : Sta s s.heap "com/example/store_and_forward/storeandforward/wire/PacketType" "ESTABLISH_CONNECTION" "Lcom/example/store_and_forward/storeandforward/wire/PacketType;" (.ref a_es) := Sta.start v_es (Or.inr ⟨(hw _ (List.mem_of_getElem? (i := 2) rfl)), (hw _ (List.mem_of_getElem? (i := 17) rfl))⟩)
  have F_es := own_ord v_es hz10
  obtain ⟨a_cp, v_cp⟩ := exa_v hz7
  have S_cp : Sta s s.heap "com/example/store_and_forward/storeandforward/wire/PacketType" "CONNECTION_PARAMETERS" "Lcom/example/store_and_forward/storeandforward/wire/PacketType;" (.ref a_cp) := Sta.start v_cp (Or.inr ⟨(hw _ (List.mem_of_getElem? (i := 2) rfl)), (hw _ (List.mem_of_getElem? (i := 18) rfl))⟩)
  have F_cp := own_ord v_cp hz11
  obtain ⟨va, v_va⟩ := exa_v hz1
  have SV : Sta s s.heap "com/example/store_and_forward/storeandforward/wire/PacketType" "$VALUES" "[Lcom/example/store_and_forward/storeandforward/wire/PacketType;" (.ref va) := Sta.start v_va (Or.inr ⟨(hw _ (List.mem_of_getElem? (i := 2) rfl)), (hw _ (List.mem_of_getElem? (i := 8) rfl))⟩)
  have EV : Exa s s.heap va "[Lcom/example/store_and_forward/storeandforward/wire/PacketType;" := Exa.start v_va hz1
  obtain ⟨cl, Ar⟩ := Arr.start v_va hz0
  have len := own_len v_va Ar hz2
  have el0 := own_elem v_va Ar v_sa (by decide) hz4
  have el1 := own_elem v_va Ar v_es (by decide) hz6
  have el2 := own_elem v_va Ar v_cp (by decide) hz8
  have AV : Arv s s.heap va cl.cls (.object "com/example/store_and_forward/storeandforward/wire/PacketType") (3 : Int32) [.ref a_sa, .ref a_es, .ref a_cp] .null := Arv.start hfit Ar len.1 len.2 (by decide) rfl ⟨el0, el1, el2, trivial⟩
  obtain ⟨n, o, h1, h2, h3, _, L, rfl, hQ, hq⟩ := rm_law l s _ hw tables_1 q0 va cl.cls a_sa a_es a_cp s.heap S_sa S_es S_cp F_sa F_es F_cp SV AV EV p e ha hc hk s m _ below hf ((Spec.applies_iff_loose hf).mp happ).1 ⟨rfl, State.Warmed39.refl s, rfl⟩ trivial
  obtain ⟨rfl, rfl⟩ := hQ
  refine ⟨n, _, h1, h2, h3, hpost _ _ _ _ _ _ ⟨Cond.after_iff.mpr rfl, Cond.after_iff.mpr (eq_i res_at (Term.int_eval (1)) rfl), trivial⟩ ⟨hq.1, hq.2.1, (hq.2.2.sift fun y hy => nomatch hy).mono (by decide) (by decide)⟩⟩
theorem main_1_1 : Claimed_1_1 := comes_1 fun _ _ _ _ _ _ h hF => ⟨h.1, hF⟩
theorem main_1_2 : Claimed_1_2 := comes_1 fun _ _ _ _ _ _ h hF => ⟨h.2.1, hF⟩
end Jvm.Pilot.@@N@@
namespace Jvm.Pilot.@@N@@
open Jvm Jvm.ClassFile Sem Op Lib Jvm.Free Jvm.Stand Jvm.Pilot.@@N@@.Jvm.D
/-! MADE BY PROGRAM (witnessworld.py) out of the Statement's table words and the real class files: 13 classes; the members and pool entries that the words name. The judged class is class 1, her method 2. -/
namespace start1
open Jvm.ClassFile
def u (s : String) : CpInfo := .utf8 (stringToUtf16 s)
/-- a pool by its gaps: so many unusable entries, then the entry; so many at the end -/
def gap : Nat → List CpInfo → List CpInfo
  | 0, r => r
  | n + 1, r => .unusable :: gap n r
def poolList (es : List (Nat × CpInfo)) (last : Nat) : List CpInfo := es.foldr (fun e r => gap e.1 (e.2 :: r)) (gap last [])
def pool (es : List (Nat × CpInfo)) (last : Nat) : Array CpInfo := ⟨poolList es last⟩
def fileOf (pool : Array CpInfo) (this : Nat) (attrs : Array Attribute := #[]) (ms : Array MethodInfo := #[]) (fl : Nat := 33) (sup : Nat := 0) (ifs : Array Nat := #[]) (fds : Array FieldInfo := #[]) : ClassFile where
  minorVersion := 0
  majorVersion := 65
  constantPool := pool
  accessFlags := fl
  thisClass := this
  superClass := sup
  interfaces := ifs
  fields := fds
  methods := ms
  attributes := attrs
def plain (name : String) (sup : Option ClassId) : Class where
  name := name
  kind := .ordinary
  loader := none
  accessFlags := 33
  super := sup
  interfaces := #[]
  cf := none
  fields := #[]
  methods := #[]
  instanceTypes := #[]
  staticTypes := #[]
  resolved := #[]
  callSites := []
  init := .initialized
  statics := none
  mirror := none

def pool0 : Array CpInfo := pool [(5, u "<init>"), (0, u "()V"), (1, .class_ 10), (1, u "java/lang/Object"), (85, u "clone"), (0, u "()Ljava/lang/Object;")] 26

def k0m0 : Method := { name := "<init>", desc := "()V", sig := { parameters := [], returnType := none }, accessFlags := 1, code := none }
def k0m1 : Method := { name := "clone", desc := "()Ljava/lang/Object;", sig := { parameters := [], returnType := some (.object "java/lang/Object") }, accessFlags := 260, code := none }
/-- java/lang/Object -/
def k0 : Class := { plain "java/lang/Object" none with
  accessFlags := 33
  interfaces := #[]
  cf := some (fileOf pool0 8 #[] #[{ accessFlags := 1, nameIndex := 5, descriptorIndex := 6, attributes := #[] }, { accessFlags := 260, nameIndex := 96, descriptorIndex := 97, attributes := #[] }] 33 0 #[] #[])
  fields := #[]
  methods := #[k0m0, k0m1]
  instanceTypes := #[]
  staticTypes := #[]
  resolved := Array.replicate 124 none
  statics := none }

def pool1 : Array CpInfo := pool [(2, .class_ 4), (1, u "java/lang/Object"), (0, u "<init>"), (0, u "()V"), (0, .fieldref 8 9), (0, .class_ 10), (0, .nameAndType 11 12), (0, u "com/example/store_and_forward/storeandforward/wire/PacketType"), (0, u "SESSION_ACK"), (0, u "Lcom/example/store_and_forward/storeandforward/wire/PacketType;"), (0, .fieldref 8 14), (0, .nameAndType 15 12), (0, u "ESTABLISH_CONNECTION"), (0, .fieldref 8 17), (0, .nameAndType 18 12), (0, u "CONNECTION_PARAMETERS"), (0, .methodref 8 20), (0, .nameAndType 21 22), (0, u "ofFlags"), (0, u "(I)Lcom/example/store_and_forward/storeandforward/wire/PacketType;"), (0, .methodref 24 25), (0, .class_ 26), (0, .nameAndType 27 22), (0, u "com/example/store_and_forward/storeandforward/wire/PacketTypeOfFlagsPinLaw"), (0, u "expected"), (3, u "law"), (0, u "(I)Z")] 2

def k1m0 : Method := { name := "<init>", desc := "()V", sig := { parameters := [], returnType := none }, accessFlags := 2, code := none }
def k1c1 : Code := { maxStack := 2, maxLocals := 2, code := method_2_code, exceptionTable := #[], attributes := #[] }
def k1m1 : Method := { name := "expected", desc := "(I)Lcom/example/store_and_forward/storeandforward/wire/PacketType;", sig := { parameters := [.int], returnType := some (.object "com/example/store_and_forward/storeandforward/wire/PacketType") }, accessFlags := 10, code := some k1c1 }
def k1c2 : Code := { maxStack := 2, maxLocals := 2, code := code, exceptionTable := #[], attributes := #[] }
def k1m2 : Method := { name := "law", desc := "(I)Z", sig := { parameters := [.int], returnType := some .boolean }, accessFlags := 9, code := some k1c2 }
/-- com/example/store_and_forward/storeandforward/wire/PacketTypeOfFlagsPinLaw -/
def k1 : Class := { plain "com/example/store_and_forward/storeandforward/wire/PacketTypeOfFlagsPinLaw" (some 0) with
  accessFlags := 49
  interfaces := #[]
  cf := some (fileOf pool1 24 #[] #[{ accessFlags := 2, nameIndex := 5, descriptorIndex := 6, attributes := #[] }, { accessFlags := 10, nameIndex := 27, descriptorIndex := 22, attributes := #[] }, { accessFlags := 9, nameIndex := 31, descriptorIndex := 32, attributes := #[] }] 49 2 #[] #[])
  fields := #[]
  methods := #[k1m0, k1m1, k1m2]
  instanceTypes := #[]
  staticTypes := #[]
  resolved := Array.replicate 35 none
  statics := none }

def pool2 : Array CpInfo := pool [(1, .class_ 2), (0, u "java/lang/constant/Constable"), (0, .class_ 4), (0, u "java/lang/Object")] 6

/-- java/lang/constant/Constable -/
def k2 : Class := { plain "java/lang/constant/Constable" (some 0) with
  accessFlags := 1537
  interfaces := #[]
  cf := some (fileOf pool2 1 #[] #[] 1537 3 #[] #[])
  fields := #[]
  methods := #[]
  instanceTypes := #[]
  staticTypes := #[]
  resolved := Array.replicate 11 none
  statics := none }

def pool3 : Array CpInfo := pool [(1, .class_ 2), (0, u "java/lang/Comparable"), (0, .class_ 4), (0, u "java/lang/Object")] 7

/-- java/lang/Comparable -/
def k3 : Class := { plain "java/lang/Comparable" (some 0) with
  accessFlags := 1537
  interfaces := #[]
  cf := some (fileOf pool3 1 #[] #[] 1537 3 #[] #[])
  fields := #[]
  methods := #[]
  instanceTypes := #[]
  staticTypes := #[]
  resolved := Array.replicate 12 none
  statics := none }

def pool4 : Array CpInfo := pool [(1, .class_ 2), (0, u "java/io/Serializable"), (0, .class_ 4), (0, u "java/lang/Object")] 2

/-- java/io/Serializable -/
def k4 : Class := { plain "java/io/Serializable" (some 0) with
  accessFlags := 1537
  interfaces := #[]
  cf := some (fileOf pool4 1 #[] #[] 1537 3 #[] #[])
  fields := #[]
  methods := #[]
  instanceTypes := #[]
  staticTypes := #[]
  resolved := Array.replicate 7 none
  statics := none }

def pool5 : Array CpInfo := pool [(2, .class_ 4), (1, u "java/lang/Enum"), (0, u "name"), (0, u "Ljava/lang/String;"), (2, u "ordinal"), (0, u "I"), (1, .class_ 14), (1, u "java/lang/Object"), (4, u "hash"), (86, .class_ 108), (1, u "java/lang/Enum$EnumDesc"), (2, .class_ 112), (0, u "java/lang/constant/Constable"), (0, .class_ 114), (0, u "java/lang/Comparable"), (0, .class_ 116), (0, u "java/io/Serializable")] 87

/-- java/lang/Enum -/
def k5 : Class := { plain "java/lang/Enum" (some 0) with
  accessFlags := 1057
  interfaces := #[2, 3, 4]
  cf := some (fileOf pool5 2 #[.nestMembers #[106]] #[] 1057 12 #[111, 113, 115] #[{ accessFlags := 18, nameIndex := 5, descriptorIndex := 6, attributes := #[] }, { accessFlags := 18, nameIndex := 9, descriptorIndex := 10, attributes := #[] }, { accessFlags := 2, nameIndex := 19, descriptorIndex := 10, attributes := #[] }])
  fields := #[{ name := "name", type := (.object "java/lang/String"), accessFlags := 18, slot := 0, constantValue := 0 }, { name := "ordinal", type := .int, accessFlags := 18, slot := 1, constantValue := 0 }, { name := "hash", type := .int, accessFlags := 2, slot := 2, constantValue := 0 }]
  methods := #[]
  instanceTypes := #[(.object "java/lang/String"), .int, .int]
  staticTypes := #[]
  resolved := Array.replicate 204 none
  statics := none }

def pool6 : Array CpInfo := pool [(3, .class_ 4), (0, u "com/example/store_and_forward/storeandforward/wire/PacketType"), (2, u "SESSION_ACK"), (0, u "Lcom/example/store_and_forward/storeandforward/wire/PacketType;"), (2, u "ESTABLISH_CONNECTION"), (2, u "CONNECTION_PARAMETERS"), (0, .fieldref 3 16), (0, .nameAndType 17 18), (0, u "$VALUES"), (0, u "[Lcom/example/store_and_forward/storeandforward/wire/PacketType;"), (0, .methodref 20 21), (0, .class_ 18), (0, .nameAndType 22 23), (0, u "clone"), (0, u "()Ljava/lang/Object;"), (1, .class_ 27), (1, u "java/lang/Enum"), (6, .fieldref 3 35), (0, .nameAndType 36 37), (0, u "code"), (0, u "I"), (2, u "size"), (2, u "baseFlags"), (0, .methodref 3 45), (0, .nameAndType 46 47), (0, u "values"), (0, u "()[Lcom/example/store_and_forward/storeandforward/wire/PacketType;"), (36, u "HEADERS_SIZE"), (2, u "FLAGS"), (1, u "REFUSED"), (1, u "TYPE_MASK"), (1, u "BASE_FLAGS"), (7, u "ofFlags"), (0, u "(I)Lcom/example/store_and_forward/storeandforward/wire/PacketType;")] 6

def k6c0 : Code := { maxStack := 1, maxLocals := 0, code := prog_46_method_1_code, exceptionTable := #[], attributes := #[] }
def k6m0 : Method := { name := "values", desc := "()[Lcom/example/store_and_forward/storeandforward/wire/PacketType;", sig := { parameters := [], returnType := some (.array (.object "com/example/store_and_forward/storeandforward/wire/PacketType")) }, accessFlags := 9, code := some k6c0 }
def k6c1 : Code := { maxStack := 2, maxLocals := 6, code := prog_46_method_5_code, exceptionTable := #[], attributes := #[] }
def k6m1 : Method := { name := "ofFlags", desc := "(I)Lcom/example/store_and_forward/storeandforward/wire/PacketType;", sig := { parameters := [.int], returnType := some (.object "com/example/store_and_forward/storeandforward/wire/PacketType") }, accessFlags := 8, code := some k6c1 }
/-- com/example/store_and_forward/storeandforward/wire/PacketType -/
def k6 : Class := { plain "com/example/store_and_forward/storeandforward/wire/PacketType" (some 5) with
  accessFlags := 16432
  interfaces := #[]
  cf := some (fileOf pool6 3 #[] #[{ accessFlags := 9, nameIndex := 46, descriptorIndex := 47, attributes := #[] }, { accessFlags := 8, nameIndex := 101, descriptorIndex := 102, attributes := #[] }] 16432 25 #[] #[{ accessFlags := 16409, nameIndex := 7, descriptorIndex := 8, attributes := #[] }, { accessFlags := 16409, nameIndex := 11, descriptorIndex := 8, attributes := #[] }, { accessFlags := 16409, nameIndex := 14, descriptorIndex := 8, attributes := #[] }, { accessFlags := 24, nameIndex := 84, descriptorIndex := 37, attributes := #[] }, { accessFlags := 24, nameIndex := 87, descriptorIndex := 37, attributes := #[] }, { accessFlags := 24, nameIndex := 89, descriptorIndex := 37, attributes := #[] }, { accessFlags := 26, nameIndex := 91, descriptorIndex := 37, attributes := #[] }, { accessFlags := 26, nameIndex := 93, descriptorIndex := 37, attributes := #[] }, { accessFlags := 18, nameIndex := 36, descriptorIndex := 37, attributes := #[] }, { accessFlags := 18, nameIndex := 40, descriptorIndex := 37, attributes := #[] }, { accessFlags := 18, nameIndex := 43, descriptorIndex := 37, attributes := #[] }, { accessFlags := 4122, nameIndex := 17, descriptorIndex := 18, attributes := #[] }])
  fields := #[{ name := "SESSION_ACK", type := (.object "com/example/store_and_forward/storeandforward/wire/PacketType"), accessFlags := 16409, slot := 0, constantValue := 0 }, { name := "ESTABLISH_CONNECTION", type := (.object "com/example/store_and_forward/storeandforward/wire/PacketType"), accessFlags := 16409, slot := 1, constantValue := 0 }, { name := "CONNECTION_PARAMETERS", type := (.object "com/example/store_and_forward/storeandforward/wire/PacketType"), accessFlags := 16409, slot := 2, constantValue := 0 }, { name := "HEADERS_SIZE", type := .int, accessFlags := 24, slot := 3, constantValue := 0 }, { name := "FLAGS", type := .int, accessFlags := 24, slot := 4, constantValue := 0 }, { name := "REFUSED", type := .int, accessFlags := 24, slot := 5, constantValue := 0 }, { name := "TYPE_MASK", type := .int, accessFlags := 26, slot := 6, constantValue := 0 }, { name := "BASE_FLAGS", type := .int, accessFlags := 26, slot := 7, constantValue := 0 }, { name := "code", type := .int, accessFlags := 18, slot := 3, constantValue := 0 }, { name := "size", type := .int, accessFlags := 18, slot := 4, constantValue := 0 }, { name := "baseFlags", type := .int, accessFlags := 18, slot := 5, constantValue := 0 }, { name := "$VALUES", type := (.array (.object "com/example/store_and_forward/storeandforward/wire/PacketType")), accessFlags := 4122, slot := 8, constantValue := 0 }]
  methods := #[k6m0, k6m1]
  instanceTypes := #[(.object "java/lang/String"), .int, .int, .int, .int, .int]
  staticTypes := #[(.object "com/example/store_and_forward/storeandforward/wire/PacketType"), (.object "com/example/store_and_forward/storeandforward/wire/PacketType"), (.object "com/example/store_and_forward/storeandforward/wire/PacketType"), .int, .int, .int, .int, .int, (.array (.object "com/example/store_and_forward/storeandforward/wire/PacketType"))]
  resolved := Array.replicate 109 none
  statics := some 0 }

def pool7 : Array CpInfo := pool [(1, .class_ 2), (0, u "java/lang/Cloneable"), (0, .class_ 4), (0, u "java/lang/Object")] 2

/-- java/lang/Cloneable -/
def k7 : Class := { plain "java/lang/Cloneable" (some 0) with
  accessFlags := 1537
  interfaces := #[]
  cf := some (fileOf pool7 1 #[] #[] 1537 3 #[] #[])
  fields := #[]
  methods := #[]
  instanceTypes := #[]
  staticTypes := #[]
  resolved := Array.replicate 7 none
  statics := none }

/-- the primitive byte -/
def k8 : Class := { plain "byte" none with kind := .primitive 'B', accessFlags := 0x411 }
/-- [B -/
def k9 : Class := { plain "[B" (some 0) with kind := .array 8 .byte, interfaces := #[7, 4], accessFlags := 1041 }

/-- the primitive int -/
def k10 : Class := { plain "int" none with kind := .primitive 'I', accessFlags := 0x411 }
/-- [I -/
def k11 : Class := { plain "[I" (some 0) with kind := .array 10 .int, interfaces := #[7, 4], accessFlags := 1041 }

/-- [Lcom/example/store_and_forward/storeandforward/wire/PacketType; -/
def k12 : Class := { plain "[Lcom/example/store_and_forward/storeandforward/wire/PacketType;" (some 0) with kind := .array 6 (.object "com/example/store_and_forward/storeandforward/wire/PacketType"), interfaces := #[7, 4], accessFlags := 1041 }

def heap : Heap := #[{ cls := 6, slots := #[.ref 2, .ref 3, .ref 4, .int 0, .int 0, .int 0, .int 0, .int 0, .ref 1], vm := .statics 6 },
  { cls := 12, slots := #[.ref 2, .ref 3, .ref 4], vm := .none },
  { cls := 6, slots := #[.null, .int 0, .int 0, .int 1, .int 0, .int 0], vm := .none },
  { cls := 6, slots := #[.null, .int 1, .int 0, .int 2, .int 0, .int 0], vm := .none },
  { cls := 6, slots := #[.null, .int 2, .int 0, .int 3, .int 0, .int 0], vm := .none }]
def classes : Array Class := #[k0, k1, k2, k3, k4, k5, k6, k7, k8, k9, k10, k11, k12]
def interned : List (Array UInt16 × Addr) := []
def slotsUsed : Nat := 30
def theMethod : MethodId := ⟨1, 2⟩
def args0 : Array Value := #[.int 5]
def aboutOver (below : List Frame) : State where
  vm := { classes := classes, interned := interned.toArray }
  heap := heap
  slotsUsed := slotsUsed
  threads := #[{ frames := .invoking theMethod args0 :: below }]
def below0 : List Frame := [.native { method := ⟨0, 0⟩, args := #[] }]
def about1 : State := aboutOver below0
def p0 : Program := .bare "" "" ""
def e0 : Env := launch0.env 0 0 0
theorem w_frames : about1.frames = Frame.invoking theMethod args0 :: below0 := rfl
set_option maxRecDepth 65536 in
theorem w_args : argsFit about1.vm theMethod args0 = true := by decide +kernel
set_option maxRecDepth 65536 in
theorem w_heap : heapFits about1 = true := by decide +kernel
set_option maxRecDepth 65536 in
theorem w_runnable : about1.curStatus? = some .runnable := by decide +kernel
set_option maxRecDepth 65536 in
theorem w_alone : about1.alone = true := by decide +kernel
set_option maxRecDepth 65536 in
theorem w_named : about1.methodNamed? x = some theMethod := by decide +kernel
set_option maxRecDepth 65536 in
theorem w_hears : about1.hears theMethod below0 = true := by decide +kernel
set_option maxRecDepth 65536 in
theorem w_ripe : about1.ripe theMethod args0 below0 = true := by decide +kernel
theorem w_running : about1.status = .running := rfl
set_option maxRecDepth 65536 in
theorem w_room : about1.hasRoom e0.platform room_1 = true :=
  launch0.hasRoom_least _ room_1 (by decide +kernel) (by decide +kernel) (by decide +kernel) (by decide +kernel) (by decide +kernel) (by decide +kernel)
theorem allAtoms_all (ts : List Jvm.Cond) (a : Array Jvm.Value) (st : Jvm.State) : (allAtoms ts).before a st = ts.all (fun c => c.before a st) := by
  induction ts with
  | nil => rfl
  | cons c t ih =>
    show (Jvm.Cond.and c (allAtoms t)).before a st = _
    rw [Jvm.Cond.before_and, ih, List.all_cons]
def words1 : List Jvm.Cond := Jvm.Cond.code x code maxLocals ret :: tables_1
/-- a 'code' word, met by the world's own term for the bytes: nothing is compared byte by byte -/
theorem code_word {y : MethodName} {bytes : ByteArray} {mx : Nat} {rt : Option FieldType} {a : Array Value} {s : State} {m : MethodId} {meth : Method} {c : Code} (h1 : s.methodNamed? y = some m) (h2 : s.vm.method? m = some meth) (h3 : meth.code = some c) (h4 : c.code = bytes)
    (h5 : (c.maxLocals == mx && c.exceptionTable.isEmpty && decide (c.maxStack ≤ mostOperands) && decide (meth.sig.returnType = rt) && !meth.locks && decide (parseMethodDescriptor y.desc = some meth.sig)) = true) : (Jvm.Cond.code y bytes mx rt).before a s = true := by
  simp only [Bool.and_eq_true, beq_iff_eq, Bool.not_eq_true', decide_eq_true_eq] at h5
  obtain ⟨⟨⟨⟨⟨g1, g2⟩, g3⟩, g4⟩, g5⟩, g6⟩ := h5
  simp [Cond.before, Cond.holds, Cond.value, h1, h2, h3, h4, g1, g2, g3, g4, g5, g6]
def isCode : Jvm.Cond → Bool
  | .code _ _ _ _ => true
  | _ => false
theorem all_split {L : List Jvm.Cond} {P : Jvm.Cond → Bool} (h1 : L.all (fun c => isCode c || P c) = true) (h2 : ∀ c ∈ L.filter isCode, P c = true) : L.all P = true := by
  refine List.all_eq_true.mpr fun c hc => ?_
  have h := List.all_eq_true.mp h1 c hc
  rcases Bool.eq_false_or_eq_true (isCode c) with hi | hi
  · exact h2 c (List.mem_filter.mpr ⟨hc, hi⟩)
  · simpa [hi] using h
set_option maxRecDepth 65536 in
theorem w_c0 : (Jvm.Cond.code x code maxLocals ret).before args0 about1 = true := code_word (m := ⟨1, 2⟩) (meth := k1m2) (c := k1c2) (by decide +kernel) rfl rfl rfl (by decide +kernel)
set_option maxRecDepth 65536 in
theorem w_c1 : (Jvm.Cond.code ({ cls := "com/example/store_and_forward/storeandforward/wire/PacketType", name := "ofFlags", desc := "(I)Lcom/example/store_and_forward/storeandforward/wire/PacketType;" } : Jvm.MethodName) prog_46_method_5_code (6 : Nat) (Option.some (Jvm.ClassFile.FieldType.object "com/example/store_and_forward/storeandforward/wire/PacketType"))).before args0 about1 = true := code_word (m := ⟨6, 1⟩) (meth := k6m1) (c := k6c1) (by decide +kernel) rfl rfl rfl (by decide +kernel)
set_option maxRecDepth 65536 in
theorem w_c2 : (Jvm.Cond.code ({ cls := "com/example/store_and_forward/storeandforward/wire/PacketType", name := "values", desc := "()[Lcom/example/store_and_forward/storeandforward/wire/PacketType;" } : Jvm.MethodName) prog_46_method_1_code (0 : Nat) (Option.some (Jvm.ClassFile.FieldType.array (Jvm.ClassFile.FieldType.object "com/example/store_and_forward/storeandforward/wire/PacketType")))).before args0 about1 = true := code_word (m := ⟨6, 0⟩) (meth := k6m0) (c := k6c0) (by decide +kernel) rfl rfl rfl (by decide +kernel)
set_option maxRecDepth 65536 in
theorem w_c3 : (Jvm.Cond.code ({ cls := "com/example/store_and_forward/storeandforward/wire/PacketTypeOfFlagsPinLaw", name := "expected", desc := "(I)Lcom/example/store_and_forward/storeandforward/wire/PacketType;" } : Jvm.MethodName) method_2_code (2 : Nat) (Option.some (Jvm.ClassFile.FieldType.object "com/example/store_and_forward/storeandforward/wire/PacketType"))).before args0 about1 = true := code_word (m := ⟨1, 1⟩) (meth := k1m1) (c := k1c1) (by decide +kernel) rfl rfl rfl (by decide +kernel)
def codes1 : List Jvm.Cond := [Jvm.Cond.code x code maxLocals ret, Jvm.Cond.code ({ cls := "com/example/store_and_forward/storeandforward/wire/PacketType", name := "ofFlags", desc := "(I)Lcom/example/store_and_forward/storeandforward/wire/PacketType;" } : Jvm.MethodName) prog_46_method_5_code (6 : Nat) (Option.some (Jvm.ClassFile.FieldType.object "com/example/store_and_forward/storeandforward/wire/PacketType")), Jvm.Cond.code ({ cls := "com/example/store_and_forward/storeandforward/wire/PacketType", name := "values", desc := "()[Lcom/example/store_and_forward/storeandforward/wire/PacketType;" } : Jvm.MethodName) prog_46_method_1_code (0 : Nat) (Option.some (Jvm.ClassFile.FieldType.array (Jvm.ClassFile.FieldType.object "com/example/store_and_forward/storeandforward/wire/PacketType"))), Jvm.Cond.code ({ cls := "com/example/store_and_forward/storeandforward/wire/PacketTypeOfFlagsPinLaw", name := "expected", desc := "(I)Lcom/example/store_and_forward/storeandforward/wire/PacketType;" } : Jvm.MethodName) method_2_code (2 : Nat) (Option.some (Jvm.ClassFile.FieldType.object "com/example/store_and_forward/storeandforward/wire/PacketType"))]
set_option maxRecDepth 65536 in
theorem codes_eq : words1.filter isCode = codes1 := rfl
theorem w_codes : ∀ c ∈ words1.filter isCode, c.before args0 about1 = true := by
  rw [codes_eq]
  intro c hc
  simp only [codes1, List.mem_cons, List.not_mem_nil, or_false] at hc
  rcases hc with rfl | rfl | rfl | rfl
  · exact w_c0
  · exact w_c1
  · exact w_c2
  · exact w_c3
set_option maxRecDepth 65536 in
theorem w_t1 : (words1.take 24).all (fun c => isCode c || c.before args0 about1) = true := by decide +kernel
set_option maxRecDepth 65536 in
theorem w_t2 : (words1.drop 24).all (fun c => isCode c || c.before args0 about1) = true := by decide +kernel
theorem w_tables : (allAtoms (Jvm.Cond.code x code maxLocals ret :: tables_1)).before args0 about1 = true := by
  rw [allAtoms_all]
  show words1.all (fun c => c.before args0 about1) = true
  refine all_split ?_ w_codes
  rw [← List.take_append_drop 24 words1, List.all_append, w_t1, w_t2]
  rfl
set_option maxRecDepth 65536 in
theorem w_case : (Jvm.Cond.and given_1 narrow_1).before args0 about1 = true := by decide +kernel
theorem w_applies : (headSpec (Jvm.Cond.code x code maxLocals ret :: tables_1) room_1).applies x e0.platform about1 = true :=
  (Spec.applies_iff w_frames).mpr ⟨w_running, w_runnable, w_alone, w_named, w_hears, w_ripe, w_room, w_tables⟩
theorem atStart : AtStart classFile x code maxLocals ret World_1 tables_1 room_1 Calls_1 rest_1 Pre_1 launch0 p0 e0 about1 theMethod args0 below0 :=
  ⟨lists_1, trivial, launch0.admits_env _ _ _, launch0.least_env, fairChoices_fair.cas, fairChoices_fair.clock, w_frames, w_args, w_heap, w_applies, trivial, trivial, w_case⟩
end start1
theorem witness_1 : WitnessClaimed_1 := ⟨start1.p0, start1.e0, start1.about1, start1.theMethod, start1.args0, start1.below0, start1.atStart⟩
end Jvm.Pilot.@@N@@
