import JvmDerived
import JvmDerived.Pilot.@@N@@Statement
import JvmDerived.Pilot.@@N@@Code
set_option linter.unusedVariables false
set_option linter.unusedSimpArgs false
namespace Jvm.RoadKit
open Sem ClassFile Op Lib Jvm.Stand Jvm.Free Jvm.LawKit
section New
variable {p : Program} {l : Launch} {e : Env} {R : Room} {s : State} {m : MethodId} {args : Array Value} {below : List Frame} {meth : Method} {c : Code} {T : State} {locs : List Loc} {cells slots : Nat}
theorem retI (X : Stand p l e R s m args below meth c T locs cells slots) (hx : p.tables.exec = Jvm.exec) {pc : Nat} {Ls : Array Slot} {z : Int32} {rest : List Value} (hret : meth.sig.returnType = some .int) (hd : decode c.code pc = .ok (.ireturn, 1)) {fs : List Frame}
    (hl : ∀ (f : JFrame) (acts : List Action), f.method = m → f.locked = none → f.entered = [] → (doReturn e (T.setTop f) acts (some (.int z))).1 = T.setFrames fs) : Steps p.tables e below (T.setTop (mkF m pc Ls (.int z :: rest))) (T.setFrames fs) := by
  have hm' : T.vm.method? m = some meth := X.method'
  have hn : narrow .int (.int z) = .int z := rfl
  show Steps p.tables e below (T.setTop { method := m, pc := pc, locals := Ls, stack := _ :: rest, locked := none }) _
  jvm_step X.here [X.here.top, hx, hd, hm', hret, hn]
  first | (intro acts; rw [hl _ acts rfl rfl rfl]) | rw [hl _ _ rfl rfl rfl]
  exact Steps.refl _
end New
end Jvm.RoadKit
namespace Jvm.Pilot.@@N@@
open Jvm Jvm.ClassFile Sem Op Lib Jvm.Free Jvm.Stand Jvm.LawKit Jvm.RoadKit Bundle Jvm.Pilot.@@N@@.Jvm.D
section Own
variable {p : Program} {l : Launch} {e : Env} {R : Room} {s : State} {m : MethodId} {args : Array Value} {below : List Frame} {meth : Method} {c : Code} {T : State} {locs : List Loc} {cells slots : Nat} {Z : State} {a0 : Array Value} {h h' h0 : Heap} {a b : Addr} {C nm dd : String} {v w : Value} {sl n0 : Nat} {ws ws' : List (Addr × Nat)} {ty : FieldType} {k : ClassId} {z j : Int32} {vs : List Value} {dv : Value}
/-- the cells of h stand in h' as they stood, but for the places in ws -/
def KL (h h' : Heap) (ws : List (Addr × Nat)) : Prop := h.size ≤ h'.size ∧ ∀ (x : Addr) (c : Cell), h[x]? = some c → ∃ c' : Cell, h'[x]? = some c' ∧ c'.cls = c.cls ∧ c'.vm = c.vm ∧ c'.slots.size = c.slots.size ∧ (∀ i, (x, i) ∉ ws → c'.slots[i]? = c.slots[i]?) ∧ ((∀ w ∈ ws, w.1 ≠ x) → c' = c)
theorem KL.refl (h : Heap) (ws : List (Addr × Nat)) : KL h h ws := ⟨Nat.le_refl _, fun x c q => ⟨c, q, rfl, rfl, rfl, fun _ _ => rfl, fun _ => rfl⟩⟩
theorem KL.trans (K : KL h0 h ws) (K' : KL h h' ws') (q : ∀ w ∈ ws', w ∈ ws ∨ h0.size ≤ w.1) : KL h0 h' ws := by
  refine ⟨Nat.le_trans K.1 K'.1, fun x c hx => ?_⟩
  obtain ⟨c1, a1, a2, a3, a4, a5, a6⟩ := K.2 x c hx
  obtain ⟨c2, b1, b2, b3, b4, b5, b6⟩ := K'.2 x c1 a1
  have hlt : x < h0.size := (Array.getElem?_eq_some_iff.mp hx).1
  refine ⟨c2, b1, b2.trans a2, b3.trans a3, b4.trans a4, fun i hi => ?_, fun hn => ?_⟩
  · rw [b5 i fun hm => ?_]
    · exact a5 i hi
    · rcases q _ hm with u | u
      · exact hi u
      · exact absurd hlt (Nat.not_lt.mpr u)
  · rw [b6 fun w hw e => ?_]
    · exact a6 hn
    · rcases q w hw with u | u
      · exact hn w u e
      · subst e; exact absurd hlt (Nat.not_lt.mpr u)
theorem KL.ofE (E : Ext h h') : KL h h' [] := ⟨E.1, fun x c q => ⟨c, E.2 x c q, rfl, rfl, rfl, fun _ _ => rfl, fun _ => rfl⟩⟩
theorem KL.ofW (W : Wr h h' a sl v) : KL h h' [(a, sl)] := by
  refine ⟨Nat.le_of_eq W.size.symm, fun x c q => ?_⟩
  obtain ⟨c', e1, e2, e3, e4, e5, e6, -⟩ := wr_at W q
  refine ⟨c', e1, e2, e3, e4, fun i hi => ?_, fun hn => e5 fun e => hn _ (List.mem_singleton.mpr rfl) e.symm⟩
  by_cases ex : x = a
  · subst ex; exact e6 i fun ei => hi (by rw [ei]; exact List.mem_singleton.mpr rfl)
  · rw [e5 ex]
theorem KL.ofEq (q : h' = h) : KL h h' [] := q ▸ KL.refl h []
theorem nw0 {x : Addr × Nat} : x ∉ ([] : List (Addr × Nat)) := fun q => nomatch q
theorem nwS {i i' : Nat} {L : List (Addr × Nat)} (q : a ≠ b ∨ i ≠ i') (r : (a, i) ∉ L) : (a, i) ∉ (b, i') :: L := fun y => by
  rcases List.mem_cons.mp y with u | u
  · obtain ⟨u1, u2⟩ := Prod.mk.inj u; exact q.elim (fun f => f u1) (fun f => f u2)
  · exact r u
theorem na0 {P : Addr × Nat → Prop} : ∀ w ∈ ([] : List (Addr × Nat)), P w := fun _ q => nomatch q
theorem naS {P : Addr × Nat → Prop} {x : Addr × Nat} {L : List (Addr × Nat)} (q : P x) (r : ∀ w ∈ L, P w) : ∀ w ∈ x :: L, P w := fun w y => by
  rcases List.mem_cons.mp y with u | u
  · exact u ▸ q
  · exact r w u
theorem kFld (K : KL h h' ws) (F : Fld Z h a C nm dd v) (q : (a, Jvm.RoadKit.slotOf Z C nm dd) ∉ ws) : Fld Z h' a C nm dd v := by
  obtain ⟨cell, cf, k, i, f, h1, h2, h3, h4, h5, h6, h7⟩ := F
  obtain ⟨c', e1, e2, e3, -, e5, -⟩ := K.2 a cell h1
  refine ⟨c', cf, k, i, f, e1, h2, h3, by rw [e3]; exact h4, by rw [e3]; exact h5, by rw [e2]; exact h6, ?_⟩
  rw [e5 f.slot (by simpa [Jvm.RoadKit.slotOf, h2] using q)]; exact h7
theorem kExa (K : KL h h' ws) (F : Exa Z h a C) : Exa Z h' a C := by
  obtain ⟨cell, k, h1, h2, h3, h4, h5⟩ := F
  obtain ⟨c', e1, e2, e3, e4, -⟩ := K.2 a cell h1
  exact ⟨c', k, e1, by rw [e2]; exact h2, by rw [e2]; exact h3, by rw [e3]; exact h4, by rw [e4]; exact h5⟩
theorem kArv (K : KL h h' ws) (F : Arv Z h a k ty z vs dv) (q : ∀ w ∈ ws, w.1 ≠ a) : Arv Z h' a k ty z vs dv := by
  obtain ⟨c, A, r⟩ := F
  obtain ⟨c', e1, -, -, -, -, e6⟩ := K.2 a c A.1
  exact ⟨c, ⟨(e6 q) ▸ e1, A.2⟩, r⟩
theorem kOld (K : KL h h' ws) (O : Old Z n0 h) (q : ∀ w ∈ ws, n0 ≤ w.1) : Old Z n0 h' := by
  refine ⟨O.1, Nat.le_trans O.2.1 K.1, fun x c hx => ?_⟩
  obtain ⟨c', e1, -, -, -, -, e6⟩ := K.2 x c (O.2.2 x c hx)
  have hlt : x < n0 := O.1 ▸ (Array.getElem?_eq_some_iff.mp hx).1
  rw [← e6 fun w hw e => absurd hlt (Nat.not_lt.mpr (e ▸ q w hw))]; exact e1
theorem lt_ne (q : a < h.size) (r : h.size ≤ b) : a ≠ b := Nat.ne_of_lt (Nat.lt_of_lt_of_le q r)
theorem own_wr {g : JFrame} {rest : List Value} {W : Nat} (q : g.monitorRoom = 0) (r : (rest.map fun v => v.category).sum = W) : 2 * g.monitorRoom + (rest.map fun v => v.category).sum ≤ W := by rw [q, r]; omega
theorem naO {x : Addr × Nat} {L : List (Addr × Nat)} (q : x ∈ ws ∨ sl ≤ x.1) (r : ∀ w ∈ L, w ∈ ws ∨ sl ≤ w.1) : ∀ w ∈ x :: L, w ∈ ws ∨ sl ≤ w.1 := naS (P := fun w => w ∈ ws ∨ sl ≤ w.1) q r
theorem naN {x : Addr × Nat} {L : List (Addr × Nat)} (q : x.1 ≠ a) (r : ∀ w ∈ L, w.1 ≠ a) : ∀ w ∈ x :: L, w.1 ≠ a := naS (P := fun w => w.1 ≠ a) q r
theorem own_mi {x : Addr × Nat} (i : Nat) (q : ws[i]? = some x) : x ∈ ws ∨ sl ≤ x.1 := Or.inl (List.mem_of_getElem? q)
theorem naB {P : Addr → Prop} {L : List (Addr × Nat)} (n : Nat) (e : (List.range n).map (fun i => (b, i)) = L) (q : P b) : ∀ w ∈ L, P w.1 := fun w hw => by
  rw [← e] at hw
  obtain ⟨i, -, rfl⟩ := List.mem_map.mp hw
  exact q
theorem naNB {L : List (Addr × Nat)} (n : Nat) (e : (List.range n).map (fun i => (b, i)) = L) (q : b ≠ a) : ∀ w ∈ L, w.1 ≠ a := naB (P := fun x => x ≠ a) n e q
theorem naOB {L : List (Addr × Nat)} (n : Nat) (e : (List.range n).map (fun i => (b, i)) = L) (q : sl ≤ b) : ∀ w ∈ L, w ∈ ws ∨ sl ≤ w.1 := fun w hw => Or.inr (naB (P := fun x => sl ≤ x) n e q w hw)
theorem nwB {i : Nat} {L : List (Addr × Nat)} (n : Nat) (e : (List.range n).map (fun i => (b, i)) = L) (q : a ≠ b) : (a, i) ∉ L := fun y => naB (P := fun x => x ≠ a) n e q.symm _ y rfl
theorem naM {Q : Addr × Nat → Prop} {L : List (Addr × Nat)} (n : Nat) (e : (L.take n).map Prod.fst = List.replicate n b) (q : ∀ i, Q (b, i)) (r : ∀ w ∈ L.drop n, Q w) : ∀ w ∈ L, Q w := fun w hw => by
  rw [← List.take_append_drop n L] at hw
  rcases List.mem_append.mp hw with u | u
  · have h1 := List.mem_map_of_mem (f := Prod.fst) u
    rw [e] at h1
    have h2 := List.eq_of_mem_replicate h1
    obtain ⟨x, i⟩ := w
    have h3 : x = b := h2
    rw [h3]; exact q i
  · exact r w u
theorem naNM {L : List (Addr × Nat)} (n : Nat) (e : (L.take n).map Prod.fst = List.replicate n b) (q : b ≠ a) (r : ∀ w ∈ L.drop n, w.1 ≠ a) : ∀ w ∈ L, w.1 ≠ a := naM (Q := fun w => w.1 ≠ a) n e (fun _ => q) r
theorem naOM {L : List (Addr × Nat)} (n : Nat) (e : (L.take n).map Prod.fst = List.replicate n b) (q : sl ≤ b) (r : ∀ w ∈ L.drop n, w ∈ ws ∨ sl ≤ w.1) : ∀ w ∈ L, w ∈ ws ∨ sl ≤ w.1 := naM (Q := fun w => w ∈ ws ∨ sl ≤ w.1) n e (fun _ => Or.inr q) r
theorem naGM {L : List (Addr × Nat)} (n : Nat) (e : (L.take n).map Prod.fst = List.replicate n b) (q : sl ≤ b) (r : ∀ w ∈ L.drop n, sl ≤ w.1) : ∀ w ∈ L, sl ≤ w.1 := naM (Q := fun w => sl ≤ w.1) n e (fun _ => q) r
theorem nwM {i : Nat} {L : List (Addr × Nat)} (n : Nat) (e : (L.take n).map Prod.fst = List.replicate n b) (q : a ≠ b) (r : (a, i) ∉ L.drop n) : (a, i) ∉ L := fun y => naM (Q := fun w => w ≠ (a, i)) n e (fun _ z => q (Prod.mk.inj z).1.symm) (fun w hw z => r (z ▸ hw)) _ y rfl
theorem own_retJ (X : Stand p l e R s m args below meth c T locs cells slots) (hx : p.tables.exec = Jvm.exec) {pc : Nat} {Ls : Array Slot} {z : Int64} {rest : List Value} (hret : meth.sig.returnType = some .long) (hd : decode c.code pc = .ok (.lreturn, 1)) {fs : List Frame}
    (hl : ∀ (f : JFrame) (acts : List Action), f.method = m → f.locked = none → f.entered = [] → (doReturn e (T.setTop f) acts (some (.long z))).1 = T.setFrames fs) : Steps p.tables e below (T.setTop (mkF m pc Ls (.long z :: rest))) (T.setFrames fs) := by
  have hm' : T.vm.method? m = some meth := X.method'
  show Steps p.tables e below (T.setTop { method := m, pc := pc, locals := Ls, stack := _ :: rest, locked := none }) _
  jvm_step X.here [X.here.top, hx, hd, hm', hret, narrow]
  first | (intro acts; rw [hl _ acts rfl rfl rfl]) | rw [hl _ _ rfl rfl rfl]
  exact Steps.refl _
theorem own_retD (X : Stand p l e R s m args below meth c T locs cells slots) (hx : p.tables.exec = Jvm.exec) {pc : Nat} {Ls : Array Slot} {z : UInt64} {rest : List Value} (hret : meth.sig.returnType = some .double) (hd : decode c.code pc = .ok (.dreturn, 1)) {fs : List Frame}
    (hl : ∀ (f : JFrame) (acts : List Action), f.method = m → f.locked = none → f.entered = [] → (doReturn e (T.setTop f) acts (some (.double z))).1 = T.setFrames fs) : Steps p.tables e below (T.setTop (mkF m pc Ls (.double z :: rest))) (T.setFrames fs) := by
  have hm' : T.vm.method? m = some meth := X.method'
  show Steps p.tables e below (T.setTop { method := m, pc := pc, locals := Ls, stack := _ :: rest, locked := none }) _
  jvm_step X.here [X.here.top, hx, hd, hm', hret, narrow]
  first | (intro acts; rw [hl _ acts rfl rfl rfl]) | rw [hl _ _ rfl rfl rfl]
  exact Steps.refl _
theorem own_nf {x0 y0 y : MethodName} (w : (Cond.selects C x0 y0).before args s = true) (hyy : y0.cls = y.cls) : NotFace s y := fun r0 h0 => by
  obtain ⟨_, _, m2, -, -, q3, -, kr, hkr, hni⟩ := Cond.selects_spec w
  have hc2 := findClass_of_methodNamed q3
  rw [hyy, findClass_of_methodNamed h0] at hc2
  rw [← Option.some.inj hc2] at hkr
  exact ⟨kr, hkr, hni⟩
theorem own_nsR {O K : String} {n : Nat} (w : (Cond.noSuperclass O).before a0 Z = true) (wk : (Cond.instantiable K n).before a0 Z = true) (hn : O ≠ K) : NS Z O K := by
  obtain ⟨c, k, h1, h2, h3, -, -⟩ := Cond.noSuperclass_spec w
  obtain ⟨t, k', g1, -⟩ := Cond.instantiable_spec wk
  have ne := ids_ne h1 g1 hn
  refine ⟨c, t, h1, g1, fun fuel => ?_⟩
  cases fuel with
  | zero => rfl
  | succ f => simp [Vm.isSubclassAux, ne, h2, h3]
theorem own_nsN {S K : String} {n : Nat} (w : (Cond.superclass C S).before a0 Z = true) (wk : (Cond.instantiable K n).before a0 Z = true) (q : NS Z C K) (hn : C ≠ K) : ∃ c t, Z.vm.findClass C = some c ∧ Z.vm.findClass K = some t ∧ Z.vm.assignable c t = false := by
  obtain ⟨c, t, h0, g0, n3⟩ := q
  obtain ⟨p, k, kp, h1, h2, h3, h4, h5, -, h7⟩ := Cond.superclass_spec h0 w
  obtain ⟨t', k', g1, g2, g5, g7, -⟩ := Cond.instantiable_spec wk
  cases g0.symm.trans g1
  have g8 : k'.isInterface = false := by
    cases hi : k'.isInterface with
    | false => rfl
    | true => simp [hi] at g7
  have ne := ids_ne h0 g0 hn
  refine ⟨c, t, h0, g0, ?_⟩
  show Z.vm.assignableAux (255 + 1) c t = false
  simp [Vm.assignableAux, ne, h2, g2, h5, g5, g8, Vm.isSubclass, n3]
theorem own_static (X : Stand p l e R s m args below meth c T locs cells slots) (hx : p.tables.exec = Jvm.exec) (hZ : Z.Warmed39 s.vm) {own : String} {index : Nat} {y : MethodName} {bytes : ByteArray} {maxL : Nat} {ret : Option FieldType} {rm : Room} {Q : Option Value → Heap → List Loc → Prop} {as' : Array Value}
    (hown : s.vm.findClass own = some m.cls) (w1 : (Cond.methodLink own index y).before a0 Z = true) (w2 : (Cond.static y).before a0 Z = true) (w3 : (Cond.initialized y.cls).before a0 Z = true) (w4 : (Cond.code y bytes maxL ret).before a0 Z = true) (hy : y.cls ≠ "java/lang/invoke/MethodHandle" ∧ y.cls ≠ "java/lang/invoke/VarHandle")
    (hM : MetFree l y (head1 [Cond.code y bytes maxL ret] rm) (fun a U => a = as' ∧ Z.Warmed39 U.vm ∧ U.heap = h) (fun _ _ _ _ _ => True) (fun _ U o U' => ∃ v L, o = .returned v ∧ Q v U'.heap L ∧ FrameEnd U o U' L rm.cells rm.slots))
    (eT : T.heap = h) {W : Nat} (hR : rm.frames + 1 ≤ R.frames ∧ W + (maxL + 11) + rm.locals ≤ R.locals ∧ cells + rm.cells ≤ R.cells ∧ slots + rm.slots ≤ R.slots)
    {g : JFrame} (hg : g.method = m) (hsize : g.locals.size = c.maxLocals) {argsL rest : List Value} (hlen : ∀ sig, parseMethodDescriptor y.desc = some sig → argsL.length = sig.parameters.length) (hstack : g.stack = argsL.reverse ++ rest) (has : argsL.toArray = as') (hW : 2 * g.monitorRoom + (rest.map fun v => v.category).sum ≤ W) (hd : decode c.code g.pc = .ok (.invokestatic index, 3)) :
    ∃ (v : Option Value) (T' : State) (L : List Loc), Stand p l e R s m args below meth c T' (locs ++ L) (cells + rm.cells) (slots + rm.slots) ∧ Q v T'.heap L ∧ ∀ target, Steps p.tables e below (T'.setTop { g with pc := g.pc + 3, stack := v.toList ++ rest }) target → Steps p.tables e below (T.setTop g) target := by
  obtain ⟨v, _, ⟨T', L', k', n'⟩, -, X', ⟨L, hQ, l1, l2, l3⟩, st⟩ := Jvm.LawKit.callS X hx (y := y) hown (mvT hZ w1) (mvT hZ w2) (mvT hZ w3) (mvT hZ w4) hy (backOf (W := W) hM hZ w4 w3 hR.1 hR.2.1) (g := g) hg hsize (argsL := argsL) (rest := rest) hlen hstack hW hd (fun _ _ => ⟨has, eT, hR.2.2.1, hR.2.2.2⟩)
  dsimp only [Pt.U, Pt.locs, Pt.cells, Pt.slots] at X' l1 l2 l3 st hQ
  subst l1 l2 l3
  exact ⟨v, T', L, X', hQ, st⟩
theorem own_init (X : Stand p l e R s m args below meth c T locs cells slots) (hx : p.tables.exec = Jvm.exec) (hZ : Z.Warmed39 s.vm) {own : String} {index : Nat} {y : MethodName} {bytes : ByteArray} {maxL : Nat} {rm : Room} {Q : Option Value → Heap → List Loc → Prop} {as' : Array Value} (hy1 : y.name = "<init>")
    (hown : s.vm.findClass own = some m.cls) (w1 : (Cond.methodLink own index y).before a0 Z = true) (w2 : (Cond.instanceMethod y).before a0 Z = true) (w3 : (Cond.initialized y.cls).before a0 Z = true) (w4 : (Cond.code y bytes maxL none).before a0 Z = true) (hy : y.cls ≠ "java/lang/invoke/MethodHandle" ∧ y.cls ≠ "java/lang/invoke/VarHandle")
    (hM : MetFree l y (head1 [Cond.code y bytes maxL none] rm) (fun a U => a = as' ∧ Z.Warmed39 U.vm ∧ U.heap = h) (fun _ _ _ _ _ => True) (fun _ U o U' => ∃ v L, o = .returned v ∧ Q v U'.heap L ∧ FrameEnd U o U' L rm.cells rm.slots))
    (eT : T.heap = h) {W : Nat} (hR : rm.frames + 1 ≤ R.frames ∧ W + (maxL + 11) + rm.locals ≤ R.locals ∧ cells + rm.cells ≤ R.cells ∧ slots + rm.slots ≤ R.slots)
    {g : JFrame} (hg : g.method = m) (hsize : g.locals.size = c.maxLocals) {argsL rest : List Value} (hlen : ∀ sig, parseMethodDescriptor y.desc = some sig → argsL.length = sig.parameters.length) (hstack : g.stack = argsL.reverse ++ .ref a :: rest) (has : (.ref a :: argsL).toArray = as') (hW : 2 * g.monitorRoom + (rest.map fun v => v.category).sum ≤ W) (hd : decode c.code g.pc = .ok (.invokespecial index, 3)) :
    ∃ (v : Option Value) (T' : State) (L : List Loc), Stand p l e R s m args below meth c T' (locs ++ L) (cells + rm.cells) (slots + rm.slots) ∧ Q v T'.heap L ∧ ∀ target, Steps p.tables e below (T'.setTop { g with pc := g.pc + 3, stack := v.toList ++ rest }) target → Steps p.tables e below (T.setTop g) target := by
  obtain ⟨v, _, ⟨T', L', k', n'⟩, -, X', ⟨L, hQ, l1, l2, l3⟩, st⟩ := X.specialBack hx (y := y) hy1 hown (mvT hZ w1) (mvT hZ w2) (mvT hZ w4) hy (backOf (W := W) hM hZ w4 w3 hR.1 hR.2.1) (g := g) hg hsize (Steps.refl _) (a := a) (argsL := argsL) (rest := rest) hlen hstack hW hd (fun _ _ => ⟨has, eT, hR.2.2.1, hR.2.2.2⟩)
  dsimp only [Pt.U, Pt.locs, Pt.cells, Pt.slots] at X' l1 l2 l3 st hQ
  subst l1 l2 l3
  exact ⟨v, T', L, X', hQ, fun _ t => st.trans t⟩
theorem own_virtual (X : Stand p l e R s m args below meth c T locs cells slots) (hx : p.tables.exec = Jvm.exec) (hZ : Z.Warmed39 s.vm) {own : String} {index : Nat} {y z : MethodName} {bytes : ByteArray} {maxL : Nat} {ret : Option FieldType} {rm : Room} {Q : Option Value → Heap → List Loc → Prop} {as' : Array Value}
    (hown : s.vm.findClass own = some m.cls) (w1 : (Cond.methodLink own index y).before a0 Z = true) (w2 : (Cond.declares y).before a0 Z = true) (hnf : NotFace s y) (w5 : (Cond.selects C y z).before a0 Z = true) (w6 : (Cond.instanceMethod z).before a0 Z = true) (w3 : (Cond.initialized z.cls).before a0 Z = true) (w4 : (Cond.code z bytes maxL ret).before a0 Z = true) (hy : y.cls ≠ "java/lang/invoke/MethodHandle" ∧ y.cls ≠ "java/lang/invoke/VarHandle")
    (hM : MetFree l z (head1 [Cond.code z bytes maxL ret] rm) (fun a U => a = as' ∧ Z.Warmed39 U.vm ∧ U.heap = h) (fun _ _ _ _ _ => True) (fun _ U o U' => ∃ v L, o = .returned v ∧ Q v U'.heap L ∧ FrameEnd U o U' L rm.cells rm.slots))
    (eT : T.heap = h) (E : Exa Z h a C) {W : Nat} (hR : rm.frames + 1 ≤ R.frames ∧ W + (maxL + 11) + rm.locals ≤ R.locals ∧ cells + rm.cells ≤ R.cells ∧ slots + rm.slots ≤ R.slots)
    {g : JFrame} (hg : g.method = m) (hsize : g.locals.size = c.maxLocals) {argsL rest : List Value} (hlen : ∀ sig, parseMethodDescriptor y.desc = some sig → argsL.length = sig.parameters.length) (hstack : g.stack = argsL.reverse ++ .ref a :: rest) (has : (.ref a :: argsL).toArray = as') (hW : 2 * g.monitorRoom + (rest.map fun v => v.category).sum ≤ W) (hd : decode c.code g.pc = .ok (.invokevirtual index, 3)) :
    ∃ (v : Option Value) (T' : State) (L : List Loc), Stand p l e R s m args below meth c T' (locs ++ L) (cells + rm.cells) (slots + rm.slots) ∧ Q v T'.heap L ∧ ∀ target, Steps p.tables e below (T'.setTop { g with pc := g.pc + 3, stack := v.toList ++ rest }) target → Steps p.tables e below (T.setTop g) target := by
  obtain ⟨cq, kq, qa, qb, qc⟩ := isOf hZ eT E
  obtain ⟨v, _, ⟨T', L', k', n'⟩, -, X', ⟨L, hQ, l1, l2, l3⟩, st⟩ := X.virtualBack hx (y := y) (z := z) hown (mvT hZ w1) (mvT hZ w2) hnf (mvT hZ w5) (mvT hZ w6) hy (backOf (W := W) hM hZ w4 w3 hR.1 hR.2.1) qa qc (g := g) hg hsize (Steps.refl _) (argsL := argsL) (rest := rest) hlen hstack hW hd (fun _ _ => ⟨has, eT, hR.2.2.1, hR.2.2.2⟩)
  dsimp only [Pt.U, Pt.locs, Pt.cells, Pt.slots] at X' l1 l2 l3 st hQ
  subst l1 l2 l3
  exact ⟨v, T', L, X', hQ, fun _ t => st.trans t⟩
theorem own_private (X : Stand p l e R s m args below meth c T locs cells slots) (hx : p.tables.exec = Jvm.exec) (hZ : Z.Warmed39 s.vm) {own : String} {index : Nat} {y x0 y0 : MethodName} {bytes : ByteArray} {maxL : Nat} {ret : Option FieldType} {rm : Room} {Q : Option Value → Heap → List Loc → Prop} {as' : Array Value}
    (hown : s.vm.findClass own = some m.cls) (w1 : (Cond.methodLink own index y).before a0 Z = true) (w6 : (Cond.instanceMethod y).before a0 Z = true) (w5 : (Cond.selects C x0 y0).before a0 Z = true) (hyy : y0.cls = y.cls) (w7 : (Cond.privateMethod y).before a0 Z = true) (w3 : (Cond.initialized y.cls).before a0 Z = true) (w4 : (Cond.code y bytes maxL ret).before a0 Z = true) (hy : y.cls ≠ "java/lang/invoke/MethodHandle" ∧ y.cls ≠ "java/lang/invoke/VarHandle")
    (hM : MetFree l y (head1 [Cond.code y bytes maxL ret] rm) (fun a U => a = as' ∧ Z.Warmed39 U.vm ∧ U.heap = h) (fun _ _ _ _ _ => True) (fun _ U o U' => ∃ v L, o = .returned v ∧ Q v U'.heap L ∧ FrameEnd U o U' L rm.cells rm.slots))
    (eT : T.heap = h) (E : Exa Z h a nm) {W : Nat} (hR : rm.frames + 1 ≤ R.frames ∧ W + (maxL + 11) + rm.locals ≤ R.locals ∧ cells + rm.cells ≤ R.cells ∧ slots + rm.slots ≤ R.slots)
    {g : JFrame} (hg : g.method = m) (hsize : g.locals.size = c.maxLocals) {argsL rest : List Value} (hlen : ∀ sig, parseMethodDescriptor y.desc = some sig → argsL.length = sig.parameters.length) (hstack : g.stack = argsL.reverse ++ .ref a :: rest) (has : (.ref a :: argsL).toArray = as') (hW : 2 * g.monitorRoom + (rest.map fun v => v.category).sum ≤ W) (hd : decode c.code g.pc = .ok (.invokevirtual index, 3)) :
    ∃ (v : Option Value) (T' : State) (L : List Loc), Stand p l e R s m args below meth c T' (locs ++ L) (cells + rm.cells) (slots + rm.slots) ∧ Q v T'.heap L ∧ ∀ target, Steps p.tables e below (T'.setTop { g with pc := g.pc + 3, stack := v.toList ++ rest }) target → Steps p.tables e below (T.setTop g) target := by
  obtain ⟨cell, _, qa, -, -, qc, -⟩ := E
  obtain ⟨mk, methM, hnamed, hmethM, -, -⟩ := Cond.instanceMethod_spec (mvT hZ w6 : (Cond.instanceMethod y).before args _ = true)
  obtain ⟨_, _, m2, -, -, q3, -, kr, hkr, hni⟩ := Cond.selects_spec (mvT hZ w5 : (Cond.selects C x0 y0).before args _ = true)
  have hc2 := findClass_of_methodNamed q3
  rw [hyy] at hc2
  have hpr := Cond.privateMethod_at (mvT hZ w7 : (Cond.privateMethod y).before args _ = true)
  have hsel := Jvm.Stand.selects_self_of_private (args := args) hc2 hkr hni hpr (mvT hZ w6) hy
  obtain ⟨v, _, ⟨T', L', k', n'⟩, -, X', ⟨L, hQ, l1, l2, l3⟩, st⟩ := X.privateBack hx (y := y) hown (mvT hZ w1) (mvT hZ w6) hsel hpr (mvT hZ w4) hy (backOf (W := W) hM hZ w4 w3 hR.1 hR.2.1) (g := g) hg hsize (Steps.refl _) (a := a) (cell := cell) (by rw [eT]; exact qa) (fun q eq => by rw [eq] at qc; exact absurd qc (by simp [VmData.isStatics])) (argsL := argsL) (rest := rest) hlen hstack hW hd (fun _ _ => ⟨has, eT, hR.2.2.1, hR.2.2.2⟩)
  dsimp only [Pt.U, Pt.locs, Pt.cells, Pt.slots] at X' l1 l2 l3 st hQ
  subst l1 l2 l3
  exact ⟨v, T', L, X', hQ, fun _ t => st.trans t⟩
theorem own_super (X : Stand p l e R s m args below meth c T locs cells slots) (hx : p.tables.exec = Jvm.exec) (hZ : Z.Warmed39 s.vm) {own : String} {index : Nat} {y x0 y0 : MethodName} {bytes : ByteArray} {maxL : Nat} {ret : Option FieldType} {rm : Room} {Q : Option Value → Heap → List Loc → Prop} {as' : Array Value}
    (hown : s.vm.findClass own = some m.cls) (w1 : (Cond.methodLink own index y).before a0 Z = true) (w6 : (Cond.instanceMethod y).before a0 Z = true) (w5 : (Cond.selects C x0 y0).before a0 Z = true) (hyy : y0.cls = y.cls) (w8 : (Cond.superclass own y.cls).before a0 Z = true) (hyn : y.name ≠ "<init>") (w3 : (Cond.initialized y.cls).before a0 Z = true) (w4 : (Cond.code y bytes maxL ret).before a0 Z = true) (hy : y.cls ≠ "java/lang/invoke/MethodHandle" ∧ y.cls ≠ "java/lang/invoke/VarHandle")
    (hM : MetFree l y (head1 [Cond.code y bytes maxL ret] rm) (fun a U => a = as' ∧ Z.Warmed39 U.vm ∧ U.heap = h) (fun _ _ _ _ _ => True) (fun _ U o U' => ∃ v L, o = .returned v ∧ Q v U'.heap L ∧ FrameEnd U o U' L rm.cells rm.slots))
    (eT : T.heap = h) (E : Exa Z h a nm) {W : Nat} (hR : rm.frames + 1 ≤ R.frames ∧ W + (maxL + 11) + rm.locals ≤ R.locals ∧ cells + rm.cells ≤ R.cells ∧ slots + rm.slots ≤ R.slots)
    {g : JFrame} (hg : g.method = m) (hsize : g.locals.size = c.maxLocals) {argsL rest : List Value} (hlen : ∀ sig, parseMethodDescriptor y.desc = some sig → argsL.length = sig.parameters.length) (hstack : g.stack = argsL.reverse ++ .ref a :: rest) (has : (.ref a :: argsL).toArray = as') (hW : 2 * g.monitorRoom + (rest.map fun v => v.category).sum ≤ W) (hd : decode c.code g.pc = .ok (.invokespecial index, 3)) :
    ∃ (v : Option Value) (T' : State) (L : List Loc), Stand p l e R s m args below meth c T' (locs ++ L) (cells + rm.cells) (slots + rm.slots) ∧ Q v T'.heap L ∧ ∀ target, Steps p.tables e below (T'.setTop { g with pc := g.pc + 3, stack := v.toList ++ rest }) target → Steps p.tables e below (T.setTop g) target := by
  obtain ⟨mk, methM, hnamed, hmethM, -, -⟩ := Cond.instanceMethod_spec w6
  obtain ⟨_, _, m2, -, -, q3, -, kr, hkr, hni⟩ := Cond.selects_spec w5
  have hc2 := findClass_of_methodNamed q3
  rw [hyy, findClass_of_methodNamed hnamed] at hc2
  rw [← Option.some.inj hc2] at hkr
  have w2 : (Cond.sameMethod y.cls y.cls y.name y.desc).before a0 Z = true := by
    simp [Cond.before, Cond.holds, Cond.value, findClass_of_methodNamed hnamed, State.methodFound?_of_named hnamed hy, hnamed, hkr, hni]
  obtain ⟨v, _, ⟨T', L', k', n'⟩, -, X', ⟨L, hQ, l1, l2, l3⟩, st⟩ := superBack X hx hZ (y := y) hown w1 w2 w6 w8 hyn (backOf (W := W) hM hZ w4 w3 hR.1 hR.2.1) eT (Ins.self E) (g := g) hg hsize w4 (argsL := argsL) (rest := rest) hlen hstack hW hd (fun _ _ => ⟨has, eT, hR.2.2.1, hR.2.2.2⟩)
  dsimp only [Pt.U, Pt.locs, Pt.cells, Pt.slots] at X' l1 l2 l3 st hQ
  subst l1 l2 l3
  exact ⟨v, T', L, X', hQ, fun _ t => st.trans t⟩
theorem own_face (X : Stand p l e R s m args below meth c T locs cells slots) (hx : p.tables.exec = Jvm.exec) (hZ : Z.Warmed39 s.vm) {own : String} {index count : Nat} {y z : MethodName} {bytes : ByteArray} {maxL : Nat} {ret : Option FieldType} {rm : Room} {Q : Option Value → Heap → List Loc → Prop} {as' : Array Value}
    (hown : s.vm.findClass own = some m.cls) (w1 : (Cond.methodLink own index y).before a0 Z = true) (w2 : (Cond.declares y).before a0 Z = true) (wf : (Cond.interfaceMethod y.cls y.cls y.name y.desc).before args s = true) (w5 : (Cond.selects C y z).before a0 Z = true) (w6 : (Cond.instanceMethod z).before a0 Z = true) (w7 : (Cond.publicMethod z).before a0 Z = true) (w8 : (Cond.unhidden C y.name y.desc).before a0 Z = true) (w9 : (Cond.castable C y.cls).before a0 Z = true) (w3 : (Cond.initialized z.cls).before a0 Z = true) (w4 : (Cond.code z bytes maxL ret).before a0 Z = true) (hy : y.cls ≠ "java/lang/invoke/MethodHandle" ∧ y.cls ≠ "java/lang/invoke/VarHandle")
    (hM : MetFree l z (head1 [Cond.code z bytes maxL ret] rm) (fun a U => a = as' ∧ Z.Warmed39 U.vm ∧ U.heap = h) (fun _ _ _ _ _ => True) (fun _ U o U' => ∃ v L, o = .returned v ∧ Q v U'.heap L ∧ FrameEnd U o U' L rm.cells rm.slots))
    (eT : T.heap = h) (E : Exa Z h a C) {W : Nat} (hR : rm.frames + 1 ≤ R.frames ∧ W + (maxL + 11) + rm.locals ≤ R.locals ∧ cells + rm.cells ≤ R.cells ∧ slots + rm.slots ≤ R.slots)
    {g : JFrame} (hg : g.method = m) (hsize : g.locals.size = c.maxLocals) {argsL rest : List Value} (hlen : ∀ sig, parseMethodDescriptor y.desc = some sig → argsL.length = sig.parameters.length) (hstack : g.stack = argsL.reverse ++ .ref a :: rest) (has : (.ref a :: argsL).toArray = as') (hW : 2 * g.monitorRoom + (rest.map fun v => v.category).sum ≤ W) (hd : decode c.code g.pc = .ok (.invokeinterface index count, 5)) :
    ∃ (v : Option Value) (T' : State) (L : List Loc), Stand p l e R s m args below meth c T' (locs ++ L) (cells + rm.cells) (slots + rm.slots) ∧ Q v T'.heap L ∧ ∀ target, Steps p.tables e below (T'.setTop { g with pc := g.pc + 5, stack := v.toList ++ rest }) target → Steps p.tables e below (T.setTop g) target := by
  obtain ⟨cq, kq, qa, qb, qc⟩ := isOf hZ eT E
  obtain ⟨v, _, ⟨T', L', k', n'⟩, -, X', ⟨L, hQ, l1, l2, l3⟩, st⟩ := X.interfaceBack hx (xi := y) (y := z) hown (mvT hZ w1) (mvT hZ w2) wf (mvT hZ w5) (mvT hZ w6) (mvT hZ w7) (mvT hZ w8) (mvT hZ w9) hy (backOf (W := W) hM hZ w4 w3 hR.1 hR.2.1) qa qb qc (g := g) hg hsize (Steps.refl _) (argsL := argsL) (rest := rest) hlen hstack hW hd (fun _ _ => ⟨has, eT, hR.2.2.1, hR.2.2.2⟩)
  dsimp only [Pt.U, Pt.locs, Pt.cells, Pt.slots] at X' l1 l2 l3 st hQ
  subst l1 l2 l3
  exact ⟨v, T', L, X', hQ, fun _ t => st.trans t⟩
theorem own_mvR {U : State} {own O : String} {index : Nat} (hZ : Z.Warmed39 U.vm) (w : (Cond.fieldRef own index O nm dd).before a0 Z = true) : (Cond.fieldRef own index O nm dd).before args U = true := (Cond.fieldRef_warmed39 (s := Z) (vm' := U.vm) hZ w :)
theorem own_getFR (X : Stand p l e R s m args below meth c T locs cells slots) (hx : p.tables.exec = Jvm.exec) (hZ : Z.Warmed39 s.vm) {own O : String} {index : Nat} (hown : s.vm.findClass own = some m.cls) (w : (Cond.fieldRef own index O nm dd).before a0 Z = true)
    (eT : T.heap = h) (F : Fld Z h a O nm dd v) {g : JFrame} (hg : g.method = m) {rest : List Value} (hs : g.stack = .ref a :: rest) (hd : decode c.code g.pc = .ok (.getfield index, 3)) : ∃ T', Stand p l e R s m args below meth c T' locs cells slots ∧ T'.heap = h ∧ ∀ target, Steps p.tables e below (T'.setTop { g with pc := g.pc + 3, stack := v :: rest }) target → Steps p.tables e below (T.setTop g) target := by
  obtain ⟨cell, cf, k, i, f, h1, h2, h3, h4, -, -, h7⟩ := F
  have hZT : Z.Warmed39 T.vm := wtrans hZ X.warmed
  have hownT : T.vm.findClass own = some m.cls := by rw [X.warmed.alike.findClass]; exact hown
  obtain ⟨cf', k', i', f', g1, hready⟩ := Cond.fieldRef_spec hownT (own_mvR (args := args) hZT w)
  obtain ⟨k2, g2, -⟩ := State.fieldFound?_setVm (s := Z) hZT.alike h2
  cases (show T.fieldFound? O nm dd = _ from g2).symm.trans g1
  refine ⟨T, X, eT, fun target hrest => ?_⟩
  subst hg
  jvm_step X.here [hx, hd, getfield.wp_ready (e := e) (s := T) (f := g) X.here.top hready h3 hs (show T.heap[a]? = some cell by rw [eT]; exact h1) h4 h7]
  exact hrest
theorem own_putFR (X : Stand p l e R s m args below meth c T locs cells slots) (hx : p.tables.exec = Jvm.exec) (hZ : Z.Warmed39 s.vm) {own O : String} {index kk : Nat} (hown : s.vm.findClass own = some m.cls) (w : (Cond.fieldRef own index O nm dd).before a0 Z = true)
    (eT : T.heap = h) {old : Value} (F : Fld Z h a O nm dd old) (E : Exa Z h a C) (L : (Cond.lays C O nm dd).before a0 Z = true) (wi : (Cond.instantiable C kk).before a0 Z = true)
    (hty : parseFieldDescriptor dd = some ty) (hn : narrow ty v = v) (hf : fits ty v = true) {g : JFrame} (hg : g.method = m) {rest : List Value} (hs : g.stack = v :: .ref a :: rest) (hd : decode c.code g.pc = .ok (.putfield index, 3)) :
    ∃ T' h', Stand p l e R s m args below meth c T' (locs ++ [⟨a, Jvm.RoadKit.slotOf Z O nm dd⟩]) cells slots ∧ T'.heap = h' ∧ Wr h h' a (Jvm.RoadKit.slotOf Z O nm dd) v ∧ ∀ target, Steps p.tables e below (T'.setTop { g with pc := g.pc + 3, stack := rest }) target → Steps p.tables e below (T.setTop g) target := by
  obtain ⟨cell, cf, k, i, f, h1, h2, h3, h4, h5, -, h7⟩ := F
  obtain ⟨cell', kc, e1, e2, e3, -⟩ := E
  cases h1.symm.trans e1
  obtain ⟨c1, k1, cf1, kf1, i1, f1, a1, a2, a3, -, -, a6, -⟩ := Laid.spec (Or.inl L)
  cases h2.symm.trans a3
  cases e2.symm.trans a1
  obtain ⟨c2, k2, i1, i2, i3, -⟩ := Cond.instantiable_spec wi
  cases e2.symm.trans i1
  cases a2.symm.trans i2
  have ht := (State.fieldFound?_type h2 hty).2
  have hfit : Z.fitsSlot cell.cls cell.vm f.slot v = true := by
    have q : Z.slotType? cell.cls cell.vm f.slot = some ty := by
      simp only [State.slotType?, a2, Option.bind_eq_bind, Option.bind_some, i3]
      cases hq : cell.vm <;> first | (rw [hq] at h5; exact Bool.noConfusion h5) | (rw [a6, ht])
    simp [State.fitsSlot, q, hf]
  have hZT : Z.Warmed39 T.vm := wtrans hZ X.warmed
  have hfit' : T.fitsSlot cell.cls cell.vm f.slot v = true := by rw [← State.fitsSlot_setVm hZT.alike] at hfit; exact hfit
  have hfin : hasFlag f.accessFlags Acc.final = false := by
    obtain ⟨_, _, _, _, _, _, -, -, b3, -, b5, -⟩ := Cond.lays_spec L
    cases h2.symm.trans b3
    exact b5
  have hownT : T.vm.findClass own = some m.cls := by rw [X.warmed.alike.findClass]; exact hown
  obtain ⟨cf', k', i', f', g1, hready⟩ := Cond.fieldRef_spec hownT (own_mvR (args := args) hZT w)
  obtain ⟨k3, g2, -⟩ := State.fieldFound?_setVm (s := Z) hZT.alike h2
  cases (show T.fieldFound? O nm dd = _ from g2).symm.trans g1
  have hlt := (Array.getElem?_eq_some_iff.mp h7).1
  have es : Jvm.RoadKit.slotOf Z O nm dd = f.slot := by simp [Jvm.RoadKit.slotOf, h2]
  rw [es]
  obtain ⟨X', st⟩ := X.putfieldReady hx hready h3 (Or.inl hfin) (show T.heap[a]? = some cell by rw [eT]; exact h1) h4 hlt (by rw [ht]; exact hn) hfit' hg hs hd
  exact ⟨_, _, X', rfl, ⟨cell, h1, h5, hlt, by rw [← eT]; rfl⟩, st⟩
end Own
/-- a body's contract -/
abbrev MF (l : Launch) (Z : State) (y : MethodName) (bytes : ByteArray) (maxL : Nat) (ret : Option FieldType) (ws : List Jvm.Cond) (rm : Room) (as' : Array Value) (h0 : Heap) (Q : Option Value → Heap → List Loc → Prop) : Prop :=
  MetFree l y (head1 (Jvm.Cond.code y bytes maxL ret :: ws) rm) (fun a U => a = as' ∧ Z.Warmed39 U.vm ∧ U.heap = h0) (fun _ _ _ _ _ => True) (fun _ U o U' => ∃ v L, o = .returned v ∧ Q v U'.heap L ∧ FrameEnd U o U' L rm.cells rm.slots)
theorem own_body {l : Launch} {Z : State} {y : MethodName} {bytes : ByteArray} {maxL : Nat} {ret : Option FieldType} {ws : List Jvm.Cond} {rm : Room} {as' : Array Value} {h0 : Heap} {Q : Option Value → Heap → List Loc → Prop} {k n : Nat} {L0 : Array Slot} (hp : plainFor y = true) (hef : ∀ m, entryFrame m as' maxL = mkF m 0 L0 []) (hk : k ≤ rm.cells) (hn : n ≤ rm.slots)
    (H : ∀ (p : Program) (e : Env) (s : State) (m : MethodId) (below : List Frame) (meth : Method) (c : Code) (s₁ : State), p.tables.exec = Jvm.exec → c.code = bytes → c.maxLocals = maxL → s.vm.findClass y.cls = some m.cls → meth.name = y.name → meth.sig.returnType = ret → Z.Warmed39 s.vm → s.heap = h0 → s₁.heap = h0 → Stand p l e rm s m as' below meth c s₁ [] 0 0 →
      ∃ (T : State) (L : List Loc) (v : Option Value), Stand p l e rm s m as' below meth c T L k n ∧ (ret = none → v = none) ∧ Q v T.heap L ∧ ∀ fs, (∀ (f : JFrame) (acts : List Action), f.method = m → f.locked = none → f.entered = [] → (doReturn e (T.setTop f) acts v).1 = T.setFrames fs) → Steps p.tables e below (s₁.setTop (mkF m 0 L0 [])) (T.setFrames fs)) :
    MetFree l y (head1 (Jvm.Cond.code y bytes maxL ret :: ws) rm) (fun a U => a = as' ∧ Z.Warmed39 U.vm ∧ U.heap = h0) (fun _ _ _ _ _ => True) (fun _ U o U' => ∃ v L, o = .returned v ∧ Q v U'.heap L ∧ FrameEnd U o U' L k n) := by
  refine MetFree.of_bodySF hp hisR ?_
  intro p e s m args below meth c s₁ Bd hml0 hP hK
  obtain ⟨rfl, hZ, hh⟩ := hP
  have e0 : s₁.heap = h0 := by rw [← hh, Bd.state]; rfl
  have hnm := (name_of_methodNamed Bd.named Bd.method).1
  obtain ⟨T, L, v, X, hv, hQ, st⟩ := H p e s m below meth c s₁ Bd.exec Bd.bytes hml0 (findClass_of_methodNamed Bd.named) hnm Bd.returns hZ hh e0 (Stand.of_body Bd)
  obtain ⟨fs, hr, hrun, hended, hW, hsame⟩ := X.leave (v := v) (fun h => hv (Bd.returns.symm.trans h)) Bd.notSynchronized
  refine ⟨_, _, castTop (hef m) (st fs hr), hrun, hended, v, L, rfl, ?_, ⟨_, rfl⟩, hW, hsame⟩
  exact hQ
theorem own_law {l : Launch} {Z : State} {y : MethodName} {bytes : ByteArray} {maxL : Nat} {ret : Option FieldType} {ws : List Jvm.Cond} {rm : Room} {as' : Array Value} {h0 : Heap} {Q : Option Value → List Loc → Prop} {k n k' n' : Nat} {L0 : Array Slot} (hp : plainFor y = true) (hef : ∀ m, entryFrame m as' maxL = mkF m 0 L0 []) (hk : k ≤ k') (hn : n ≤ n')
    (H : ∀ (p : Program) (e : Env) (s : State) (m : MethodId) (below : List Frame) (meth : Method) (c : Code) (s₁ : State), p.tables.exec = Jvm.exec → c.code = bytes → c.maxLocals = maxL → s.vm.findClass y.cls = some m.cls → meth.name = y.name → meth.sig.returnType = ret → Z.Warmed39 s.vm → s.heap = h0 → s₁.heap = h0 → Stand p l e rm s m as' below meth c s₁ [] 0 0 →
      ∃ (T : State) (L : List Loc) (v : Option Value), Stand p l e rm s m as' below meth c T L k n ∧ (ret = none → v = none) ∧ Q v L ∧ ∀ fs, (∀ (f : JFrame) (acts : List Action), f.method = m → f.locked = none → f.entered = [] → (doReturn e (T.setTop f) acts v).1 = T.setFrames fs) → Steps p.tables e below (s₁.setTop (mkF m 0 L0 [])) (T.setFrames fs)) :
    MetFree l y (head1 (Jvm.Cond.code y bytes maxL ret :: ws) rm) (fun a U => a = as' ∧ Z.Warmed39 U.vm ∧ U.heap = h0) (fun _ _ _ _ _ => True) (fun _ U o U' => ∃ v L, o = .returned v ∧ Q v L ∧ FrameEnd U o U' L k' n') := by
  refine MetFree.of_bodySF hp hisR ?_
  intro p e s m args below meth c s₁ Bd hml0 hP hK
  obtain ⟨rfl, hZ, hh⟩ := hP
  have e0 : s₁.heap = h0 := by rw [← hh, Bd.state]; rfl
  have hnm := (name_of_methodNamed Bd.named Bd.method).1
  obtain ⟨T, L, v, X, hv, hQ, st⟩ := H p e s m below meth c s₁ Bd.exec Bd.bytes hml0 (findClass_of_methodNamed Bd.named) hnm Bd.returns hZ hh e0 (Stand.of_body Bd)
  obtain ⟨fs, hr, hrun, hended, hW, hsame⟩ := X.leave (v := v) (fun h => hv (Bd.returns.symm.trans h)) Bd.notSynchronized
  refine ⟨_, _, castTop (hef m) (st fs hr), hrun, hended, v, L, rfl, ?_, ⟨_, rfl⟩, hW, hsame.mono hk hn⟩
  exact hQ
theorem t_iloadN {tb : Tables} [Ours tb] {e : Env} {below : List Frame} {T target : State} {m : MethodId} {c : Code} {pc : Nat} {L : Array Slot} {S : List Value} {v : Int32} {k : Fin 4} (pc' : Nat) (h : At T m c below) (hx : tb.exec = Jvm.exec) (hd : decode c.code pc = .ok (.iload_n k, 1)) (hl : L[k.val]? = some (.val (.int v))) (hp : pc + 1 = pc') (hr : Steps tb e below (T.setTop (mkF m pc' L (.int v :: S))) target) : Steps tb e below (T.setTop (mkF m pc L (S))) target := by
  subst hp; exact XS.iloadN h hx rfl hd hl hr
theorem t_iload {tb : Tables} [Ours tb] {e : Env} {below : List Frame} {T target : State} {m : MethodId} {c : Code} {pc : Nat} {L : Array Slot} {S : List Value} {v : Int32} {k : Nat} (pc' : Nat) (h : At T m c below) (hx : tb.exec = Jvm.exec) (hd : decode c.code pc = .ok (.iload k, 2)) (hl : L[k]? = some (.val (.int v))) (hp : pc + 2 = pc') (hr : Steps tb e below (T.setTop (mkF m pc' L (.int v :: S))) target) : Steps tb e below (T.setTop (mkF m pc L (S))) target := by
  subst hp; exact XS.iload h hx rfl hd hl hr
theorem t_lloadN {tb : Tables} [Ours tb] {e : Env} {below : List Frame} {T target : State} {m : MethodId} {c : Code} {pc : Nat} {L : Array Slot} {S : List Value} {v : Int64} {k : Fin 4} (pc' : Nat) (h : At T m c below) (hx : tb.exec = Jvm.exec) (hd : decode c.code pc = .ok (.lload_n k, 1)) (hl : L[k.val]? = some (.val (.long v))) (hp : pc + 1 = pc') (hr : Steps tb e below (T.setTop (mkF m pc' L (.long v :: S))) target) : Steps tb e below (T.setTop (mkF m pc L (S))) target := by
  subst hp; exact XS.lloadN h hx rfl hd hl hr
theorem t_lload {tb : Tables} [Ours tb] {e : Env} {below : List Frame} {T target : State} {m : MethodId} {c : Code} {pc : Nat} {L : Array Slot} {S : List Value} {v : Int64} {k : Nat} (pc' : Nat) (h : At T m c below) (hx : tb.exec = Jvm.exec) (hd : decode c.code pc = .ok (.lload k, 2)) (hl : L[k]? = some (.val (.long v))) (hp : pc + 2 = pc') (hr : Steps tb e below (T.setTop (mkF m pc' L (.long v :: S))) target) : Steps tb e below (T.setTop (mkF m pc L (S))) target := by
  subst hp; exact XS.lload h hx rfl hd hl hr
theorem t_dloadN {tb : Tables} [Ours tb] {e : Env} {below : List Frame} {T target : State} {m : MethodId} {c : Code} {pc : Nat} {L : Array Slot} {S : List Value} {v : UInt64} {k : Fin 4} (pc' : Nat) (h : At T m c below) (hx : tb.exec = Jvm.exec) (hd : decode c.code pc = .ok (.dload_n k, 1)) (hl : L[k.val]? = some (.val (.double v))) (hp : pc + 1 = pc') (hr : Steps tb e below (T.setTop (mkF m pc' L (.double v :: S))) target) : Steps tb e below (T.setTop (mkF m pc L (S))) target := by
  subst hp; exact XS.dloadN h hx rfl hd hl hr
theorem t_dload {tb : Tables} [Ours tb] {e : Env} {below : List Frame} {T target : State} {m : MethodId} {c : Code} {pc : Nat} {L : Array Slot} {S : List Value} {v : UInt64} {k : Nat} (pc' : Nat) (h : At T m c below) (hx : tb.exec = Jvm.exec) (hd : decode c.code pc = .ok (.dload k, 2)) (hl : L[k]? = some (.val (.double v))) (hp : pc + 2 = pc') (hr : Steps tb e below (T.setTop (mkF m pc' L (.double v :: S))) target) : Steps tb e below (T.setTop (mkF m pc L (S))) target := by
  subst hp; exact XS.dload h hx rfl hd hl hr
theorem t_aloadN {tb : Tables} [Ours tb] {e : Env} {below : List Frame} {T target : State} {m : MethodId} {c : Code} {pc : Nat} {L : Array Slot} {S : List Value} {v : Value} {k : Fin 4} (pc' : Nat) (h : At T m c below) (hx : tb.exec = Jvm.exec) (hd : decode c.code pc = .ok (.aload_n k, 1)) (hl : L[k.val]? = some (.val v)) (hv : v.isRef = true) (hp : pc + 1 = pc') (hr : Steps tb e below (T.setTop (mkF m pc' L (v :: S))) target) : Steps tb e below (T.setTop (mkF m pc L (S))) target := by
  subst hp; exact XS.aloadN h hx rfl hd hl hv hr
theorem t_aload {tb : Tables} [Ours tb] {e : Env} {below : List Frame} {T target : State} {m : MethodId} {c : Code} {pc : Nat} {L : Array Slot} {S : List Value} {v : Value} {k : Nat} (pc' : Nat) (h : At T m c below) (hx : tb.exec = Jvm.exec) (hd : decode c.code pc = .ok (.aload k, 2)) (hl : L[k]? = some (.val v)) (hv : v.isRef = true) (hp : pc + 2 = pc') (hr : Steps tb e below (T.setTop (mkF m pc' L (v :: S))) target) : Steps tb e below (T.setTop (mkF m pc L (S))) target := by
  subst hp; exact XS.aload h hx rfl hd hl hv hr
theorem t_istore {tb : Tables} [Ours tb] {e : Env} {below : List Frame} {T target : State} {m : MethodId} {c : Code} {pc : Nat} {L : Array Slot} {S : List Value} {v : Int32} {k : Nat} {L' : Array Slot} (pc' : Nat) (h : At T m c below) (hx : tb.exec = Jvm.exec) (hd : decode c.code pc = .ok (.istore k, 2)) (hl : storeLocals L k (.int v) = some L') (hp : pc + 2 = pc') (hr : Steps tb e below (T.setTop (mkF m pc' L' (S))) target) : Steps tb e below (T.setTop (mkF m pc L (.int v :: S))) target := by
  subst hp; exact XS.istore h hx rfl hd rfl hl hr
theorem t_lstore {tb : Tables} [Ours tb] {e : Env} {below : List Frame} {T target : State} {m : MethodId} {c : Code} {pc : Nat} {L : Array Slot} {S : List Value} {v : Int64} {k : Nat} {L' : Array Slot} (pc' : Nat) (h : At T m c below) (hx : tb.exec = Jvm.exec) (hd : decode c.code pc = .ok (.lstore k, 2)) (hl : storeLocals L k (.long v) = some L') (hp : pc + 2 = pc') (hr : Steps tb e below (T.setTop (mkF m pc' L' (S))) target) : Steps tb e below (T.setTop (mkF m pc L (.long v :: S))) target := by
  subst hp; exact XS.lstore h hx rfl hd rfl hl hr
theorem t_dstoreN {tb : Tables} [Ours tb] {e : Env} {below : List Frame} {T target : State} {m : MethodId} {c : Code} {pc : Nat} {L : Array Slot} {S : List Value} {v : UInt64} {k : Fin 4} {L' : Array Slot} (pc' : Nat) (h : At T m c below) (hx : tb.exec = Jvm.exec) (hd : decode c.code pc = .ok (.dstore_n k, 1)) (hl : storeLocals L k.val (.double v) = some L') (hp : pc + 1 = pc') (hr : Steps tb e below (T.setTop (mkF m pc' L' (S))) target) : Steps tb e below (T.setTop (mkF m pc L (.double v :: S))) target := by
  subst hp; exact XS.dstoreN h hx rfl hd rfl hl hr
theorem t_dstore {tb : Tables} [Ours tb] {e : Env} {below : List Frame} {T target : State} {m : MethodId} {c : Code} {pc : Nat} {L : Array Slot} {S : List Value} {v : UInt64} {k : Nat} {L' : Array Slot} (pc' : Nat) (h : At T m c below) (hx : tb.exec = Jvm.exec) (hd : decode c.code pc = .ok (.dstore k, 2)) (hl : storeLocals L k (.double v) = some L') (hp : pc + 2 = pc') (hr : Steps tb e below (T.setTop (mkF m pc' L' (S))) target) : Steps tb e below (T.setTop (mkF m pc L (.double v :: S))) target := by
  subst hp; exact XS.dstore h hx rfl hd rfl hl hr
theorem t_astore {tb : Tables} [Ours tb] {e : Env} {below : List Frame} {T target : State} {m : MethodId} {c : Code} {pc : Nat} {L : Array Slot} {S : List Value} {v : Value} {k : Nat} {L' : Array Slot} (pc' : Nat) (h : At T m c below) (hx : tb.exec = Jvm.exec) (hd : decode c.code pc = .ok (.astore k, 2)) (hv : v.isRef = true) (hl : storeLocals L k v = some L') (hp : pc + 2 = pc') (hr : Steps tb e below (T.setTop (mkF m pc' L' (S))) target) : Steps tb e below (T.setTop (mkF m pc L (v :: S))) target := by
  subst hp; exact XS.astore h hx rfl hd rfl hv hl hr
theorem t_iconst {tb : Tables} [Ours tb] {e : Env} {below : List Frame} {T target : State} {m : MethodId} {c : Code} {pc : Nat} {L : Array Slot} {S : List Value} {i : Int} {r : Int32} (pc' : Nat) (h : At T m c below) (hx : tb.exec = Jvm.exec) (hd : decode c.code pc = .ok (.iconst i, 1)) (he : Int32.ofInt i = r) (hp : pc + 1 = pc') (hr : Steps tb e below (T.setTop (mkF m pc' L (.int r :: S))) target) : Steps tb e below (T.setTop (mkF m pc L (S))) target := by
  subst hp he; exact XS.iconst h hx rfl hd hr
theorem t_bipush {tb : Tables} [Ours tb] {e : Env} {below : List Frame} {T target : State} {m : MethodId} {c : Code} {pc : Nat} {L : Array Slot} {S : List Value} {i : Int} {r : Int32} (pc' : Nat) (h : At T m c below) (hx : tb.exec = Jvm.exec) (hd : decode c.code pc = .ok (.bipush i, 2)) (he : (Int8.ofInt i).toInt32 = r) (hp : pc + 2 = pc') (hr : Steps tb e below (T.setTop (mkF m pc' L (.int r :: S))) target) : Steps tb e below (T.setTop (mkF m pc L (S))) target := by
  subst hp he; exact XS.bipush h hx rfl hd hr
theorem t_lconst {tb : Tables} [Ours tb] {e : Env} {below : List Frame} {T target : State} {m : MethodId} {c : Code} {pc : Nat} {L : Array Slot} {S : List Value} {k : Fin 2} {r : Int64} (pc' : Nat) (h : At T m c below) (hx : tb.exec = Jvm.exec) (hd : decode c.code pc = .ok (.lconst k, 1)) (he : Int64.ofNat k = r) (hp : pc + 1 = pc') (hr : Steps tb e below (T.setTop (mkF m pc' L (.long r :: S))) target) : Steps tb e below (T.setTop (mkF m pc L (S))) target := by
  subst hp he; exact XS.lconst h hx rfl hd hr
theorem t_dconst0 {tb : Tables} [Ours tb] {e : Env} {below : List Frame} {T target : State} {m : MethodId} {c : Code} {pc : Nat} {L : Array Slot} {S : List Value} {r : UInt64} (pc' : Nat) (h : At T m c below) (hx : tb.exec = Jvm.exec) (hd : decode c.code pc = .ok (.dconst 0, 1)) (he : FP.dconst0 = r) (hp : pc + 1 = pc') (hr : Steps tb e below (T.setTop (mkF m pc' L (.double r :: S))) target) : Steps tb e below (T.setTop (mkF m pc L (S))) target := by
  subst hp; exact XS.dconst0 h hx rfl hd he hr
theorem t_iand {tb : Tables} [Ours tb] {e : Env} {below : List Frame} {T target : State} {m : MethodId} {c : Code} {pc : Nat} {L : Array Slot} {S : List Value} {x y r : Int32} (pc' : Nat) (h : At T m c below) (hx : tb.exec = Jvm.exec) (hd : decode c.code pc = .ok (.iand, 1)) (he : x &&& y = r) (hp : pc + 1 = pc') (hr : Steps tb e below (T.setTop (mkF m pc' L (.int r :: S))) target) : Steps tb e below (T.setTop (mkF m pc L (.int y :: .int x :: S))) target := by
  subst hp he; exact XS.iand h hx rfl hd rfl hr
theorem t_irem {tb : Tables} [Ours tb] {e : Env} {below : List Frame} {T target : State} {m : MethodId} {c : Code} {pc : Nat} {L : Array Slot} {S : List Value} {x y r : Int32} (pc' : Nat) (h : At T m c below) (hx : tb.exec = Jvm.exec) (hd : decode c.code pc = .ok (.irem, 1)) (hy : y ≠ 0) (he : x - (x / y) * y = r) (hp : pc + 1 = pc') (hr : Steps tb e below (T.setTop (mkF m pc' L (.int r :: S))) target) : Steps tb e below (T.setTop (mkF m pc L (.int y :: .int x :: S))) target := by
  subst hp he; exact XS.irem h hx rfl hd rfl hy hr
theorem t_ladd {tb : Tables} [Ours tb] {e : Env} {below : List Frame} {T target : State} {m : MethodId} {c : Code} {pc : Nat} {L : Array Slot} {S : List Value} {x y r : Int64} (pc' : Nat) (h : At T m c below) (hx : tb.exec = Jvm.exec) (hd : decode c.code pc = .ok (.ladd, 1)) (he : x + y = r) (hp : pc + 1 = pc') (hr : Steps tb e below (T.setTop (mkF m pc' L (.long r :: S))) target) : Steps tb e below (T.setTop (mkF m pc L (.long y :: .long x :: S))) target := by
  subst hp he; exact XS.ladd h hx rfl hd rfl hr
theorem t_lmul {tb : Tables} [Ours tb] {e : Env} {below : List Frame} {T target : State} {m : MethodId} {c : Code} {pc : Nat} {L : Array Slot} {S : List Value} {x y r : Int64} (pc' : Nat) (h : At T m c below) (hx : tb.exec = Jvm.exec) (hd : decode c.code pc = .ok (.lmul, 1)) (he : x * y = r) (hp : pc + 1 = pc') (hr : Steps tb e below (T.setTop (mkF m pc' L (.long r :: S))) target) : Steps tb e below (T.setTop (mkF m pc L (.long y :: .long x :: S))) target := by
  subst hp he; exact XS.lmul h hx rfl hd rfl hr
theorem t_lshl {tb : Tables} [Ours tb] {e : Env} {below : List Frame} {T target : State} {m : MethodId} {c : Code} {pc : Nat} {L : Array Slot} {S : List Value} {x r : Int64} {y : Int32} (pc' : Nat) (h : At T m c below) (hx : tb.exec = Jvm.exec) (hd : decode c.code pc = .ok (.lshl, 1)) (he : x <<< (y &&& 0x3f).toInt64 = r) (hp : pc + 1 = pc') (hr : Steps tb e below (T.setTop (mkF m pc' L (.long r :: S))) target) : Steps tb e below (T.setTop (mkF m pc L (.int y :: .long x :: S))) target := by
  subst hp he; exact XS.lshl h hx rfl hd rfl hr
theorem t_lshr {tb : Tables} [Ours tb] {e : Env} {below : List Frame} {T target : State} {m : MethodId} {c : Code} {pc : Nat} {L : Array Slot} {S : List Value} {x r : Int64} {y : Int32} (pc' : Nat) (h : At T m c below) (hx : tb.exec = Jvm.exec) (hd : decode c.code pc = .ok (.lshr, 1)) (he : x >>> (y &&& 0x3f).toInt64 = r) (hp : pc + 1 = pc') (hr : Steps tb e below (T.setTop (mkF m pc' L (.long r :: S))) target) : Steps tb e below (T.setTop (mkF m pc L (.int y :: .long x :: S))) target := by
  subst hp he; exact XS.lshr h hx rfl hd rfl hr
theorem t_l2d {tb : Tables} [Ours tb] {e : Env} {below : List Frame} {T target : State} {m : MethodId} {c : Code} {pc : Nat} {L : Array Slot} {S : List Value} {x : Int64} {r : UInt64} (pc' : Nat) (h : At T m c below) (hx : tb.exec = Jvm.exec) (hd : decode c.code pc = .ok (.l2d, 1)) (he : FP.l2d x = r) (hp : pc + 1 = pc') (hr : Steps tb e below (T.setTop (mkF m pc' L (.double r :: S))) target) : Steps tb e below (T.setTop (mkF m pc L (.long x :: S))) target := by
  subst hp; exact XS.l2dS h hx rfl hd rfl he hr
theorem t_dadd {tb : Tables} [Ours tb] {e : Env} {below : List Frame} {T target : State} {m : MethodId} {c : Code} {pc : Nat} {L : Array Slot} {S : List Value} {x y r : UInt64} (pc' : Nat) (h : At T m c below) (hx : tb.exec = Jvm.exec) (hd : decode c.code pc = .ok (.dadd, 1)) (hn : Jvm.Free.Fl.NoNaN64 (FP.dadd x y)) (he : FP.dadd x y = r) (hp : pc + 1 = pc') (hr : Steps tb e below (T.setTop (mkF m pc' L (.double r :: S))) target) : Steps tb e below (T.setTop (mkF m pc L (.double y :: .double x :: S))) target := by
  subst hp; exact XS.daddS h hx rfl hd rfl hn he hr
theorem t_dmul {tb : Tables} [Ours tb] {e : Env} {below : List Frame} {T target : State} {m : MethodId} {c : Code} {pc : Nat} {L : Array Slot} {S : List Value} {x y r : UInt64} (pc' : Nat) (h : At T m c below) (hx : tb.exec = Jvm.exec) (hd : decode c.code pc = .ok (.dmul, 1)) (hn : Jvm.Free.Fl.NoNaN64 (FP.dmul x y)) (he : FP.dmul x y = r) (hp : pc + 1 = pc') (hr : Steps tb e below (T.setTop (mkF m pc' L (.double r :: S))) target) : Steps tb e below (T.setTop (mkF m pc L (.double y :: .double x :: S))) target := by
  subst hp; exact XS.dmulS h hx rfl hd rfl hn he hr
theorem t_dcmp {tb : Tables} [Ours tb] {e : Env} {below : List Frame} {T target : State} {m : MethodId} {c : Code} {pc : Nat} {L : Array Slot} {S : List Value} {o : CmpOp} {x y : UInt64} {r : Int32} (pc' : Nat) (h : At T m c below) (hx : tb.exec = Jvm.exec) (hd : decode c.code pc = .ok (.dcmp o, 1)) (he : cmpValue (FP.dcmp x y) o = r) (hp : pc + 1 = pc') (hr : Steps tb e below (T.setTop (mkF m pc' L (.int r :: S))) target) : Steps tb e below (T.setTop (mkF m pc L (.double y :: .double x :: S))) target := by
  subst hp; exact XS.dcmpS h hx rfl hd rfl he hr
theorem t_iinc {tb : Tables} [Ours tb] {e : Env} {below : List Frame} {T target : State} {m : MethodId} {c : Code} {pc : Nat} {L : Array Slot} {S : List Value} {k : Nat} {cst : Int} {x : Int32} {L' : Array Slot} (pc' : Nat) (h : At T m c below) (hx : tb.exec = Jvm.exec) (hd : decode c.code pc = .ok (.iinc k cst, 3)) (hl : L[k]? = some (.val (.int x))) (hl' : storeLocals L k (.int (x + Int32.ofInt cst)) = some L') (hp : pc + 3 = pc') (hr : Steps tb e below (T.setTop (mkF m pc' L' (S))) target) : Steps tb e below (T.setTop (mkF m pc L (S))) target := by
  subst hp; exact XS.iinc h hx rfl hd hl hl' hr
theorem t_goto {tb : Tables} [Ours tb] {e : Env} {below : List Frame} {T target : State} {m : MethodId} {c : Code} {pc : Nat} {L : Array Slot} {S : List Value} {o : Int} (pc' : Nat) (h : At T m c below) (hx : tb.exec = Jvm.exec) (hd : decode c.code pc = .ok (.goto o, 3)) (ho : 0 ≤ (pc : Int) + o) (hp : ((pc : Int) + o).toNat = pc') (hr : Steps tb e below (T.setTop (mkF m pc' L (S))) target) : Steps tb e below (T.setTop (mkF m pc L (S))) target := by
  exact XS.goto h hx rfl rfl hd ho hp hr
theorem t_ifYes {tb : Tables} [Ours tb] {e : Env} {below : List Frame} {T target : State} {m : MethodId} {c : Code} {pc : Nat} {L : Array Slot} {S : List Value} {cd : ClassFile.Cond} {x : Int32} {o : Int} (pc' : Nat) (h : At T m c below) (hx : tb.exec = Jvm.exec) (hd : decode c.code pc = .ok (.ifCond cd o, 3)) (hc : ifCond.holds cd x = true) (ho : 0 ≤ (pc : Int) + o) (hp : ((pc : Int) + o).toNat = pc') (hr : Steps tb e below (T.setTop (mkF m pc' L (S))) target) : Steps tb e below (T.setTop (mkF m pc L (.int x :: S))) target := by
  exact XS.ifYes h hx rfl rfl hd rfl hc ho hp hr
theorem t_ifNo {tb : Tables} [Ours tb] {e : Env} {below : List Frame} {T target : State} {m : MethodId} {c : Code} {pc : Nat} {L : Array Slot} {S : List Value} {cd : ClassFile.Cond} {x : Int32} {o : Int} (pc' : Nat) (h : At T m c below) (hx : tb.exec = Jvm.exec) (hd : decode c.code pc = .ok (.ifCond cd o, 3)) (hc : ifCond.holds cd x = false) (hp : pc + 3 = pc') (hr : Steps tb e below (T.setTop (mkF m pc' L (S))) target) : Steps tb e below (T.setTop (mkF m pc L (.int x :: S))) target := by
  subst hp; exact XS.ifNo h hx rfl hd rfl hc hr
theorem t_icmpYes {tb : Tables} [Ours tb] {e : Env} {below : List Frame} {T target : State} {m : MethodId} {c : Code} {pc : Nat} {L : Array Slot} {S : List Value} {cd : ClassFile.Cond} {x y : Int32} {o : Int} (pc' : Nat) (h : At T m c below) (hx : tb.exec = Jvm.exec) (hd : decode c.code pc = .ok (.if_icmp cd o, 3)) (hc : if_icmp.holds cd x y = true) (ho : 0 ≤ (pc : Int) + o) (hp : ((pc : Int) + o).toNat = pc') (hr : Steps tb e below (T.setTop (mkF m pc' L (S))) target) : Steps tb e below (T.setTop (mkF m pc L (.int y :: .int x :: S))) target := by
  exact XS.icmpYes h hx rfl rfl hd rfl hc ho hp hr
theorem t_icmpNo {tb : Tables} [Ours tb] {e : Env} {below : List Frame} {T target : State} {m : MethodId} {c : Code} {pc : Nat} {L : Array Slot} {S : List Value} {cd : ClassFile.Cond} {x y : Int32} {o : Int} (pc' : Nat) (h : At T m c below) (hx : tb.exec = Jvm.exec) (hd : decode c.code pc = .ok (.if_icmp cd o, 3)) (hc : if_icmp.holds cd x y = false) (hp : pc + 3 = pc') (hr : Steps tb e below (T.setTop (mkF m pc' L (S))) target) : Steps tb e below (T.setTop (mkF m pc L (.int y :: .int x :: S))) target := by
  subst hp; exact XS.icmpNo h hx rfl hd rfl hc hr
theorem own_alen {p : Program} {l : Launch} {e : Env} {R : Room} {s : State} {m : MethodId} {args : Array Value} {below : List Frame} {meth : Method} {c : Code} {T : State} {locs : List Loc} {cells slots : Nat} {Z : State} {h : Heap} {a : Addr} {k : ClassId} {z : Int32} {vs : List Value} {dv : Value} {pc pc' : Nat} {Ls : Array Slot} {S : List Value} {ty : FieldType} {target : State} (X : Stand p l e R s m args below meth c T locs cells slots) (hx : p.tables.exec = Jvm.exec) (hZ : Z.Warmed39 s.vm) (eT : T.heap = h) (F : Arv Z h a k ty z vs dv) (hd : decode c.code pc = .ok (.arraylength, 1)) (hp : pc + 1 = pc') (hr : Steps p.tables e below (T.setTop (mkF m pc' Ls (.int z :: S))) target) : Steps p.tables e below (T.setTop (mkF m pc Ls (.ref a :: S))) target := by
  obtain ⟨cl, A, -, q, n, -, -⟩ := F
  subst hp
  refine X.arraylength hx (by rw [eT]; exact A.1) (State.isArrayOf_alike hZ.alike A.2.1) (g := mkF m pc Ls (.ref a :: S)) rfl rfl hd _ ?_
  rw [len_of q n]; exact hr
theorem own_aldD {p : Program} {l : Launch} {e : Env} {R : Room} {s : State} {m : MethodId} {args : Array Value} {below : List Frame} {meth : Method} {c : Code} {T : State} {locs : List Loc} {cells slots : Nat} {Z : State} {h : Heap} {a : Addr} {k : ClassId} {z j : Int32} {vs : List Value} {v dv : Value} {pc pc' : Nat} {Ls : Array Slot} {S : List Value} {target : State} (X : Stand p l e R s m args below meth c T locs cells slots) (hx : p.tables.exec = Jvm.exec) (hZ : Z.Warmed39 s.vm) (eT : T.heap = h) (F : Arv Z h a k .double z vs dv) (hj : ¬ j < 0 ∧ j < z) (hv : vs.getD j.toNatClampNeg dv = v) (hd : decode c.code pc = .ok (.daload, 1)) (hp : pc + 1 = pc') (hr : Steps p.tables e below (T.setTop (mkF m pc' Ls (v :: S))) target) : Steps p.tables e below (T.setTop (mkF m pc Ls (.int j :: .ref a :: S))) target := by
  obtain ⟨cl, A, -, q, n, H, -⟩ := F
  subst hp
  have hin := inb_of q hj
  exact X.daload hx (by rw [eT]; exact A.1) (State.isArrayOf_alike hZ.alike A.2.1) A.2.2 hin (H.at hin hv) (g := mkF m pc Ls (.int j :: .ref a :: S)) rfl rfl hd _ hr
theorem own_astD {p : Program} {l : Launch} {e : Env} {R : Room} {s : State} {m : MethodId} {args : Array Value} {below : List Frame} {meth : Method} {c : Code} {T : State} {locs : List Loc} {cells slots : Nat} {Z : State} {h : Heap} {a : Addr} {k : ClassId} {z j : Int32} {vs : List Value} {dv : Value} {S : List Value} {x : UInt64} (X : Stand p l e R s m args below meth c T locs cells slots) (hx : p.tables.exec = Jvm.exec) (hZ : Z.Warmed39 s.vm) (eT : T.heap = h) (F : Arv Z h a k .double z vs dv) (hj : ¬ j < 0 ∧ j < z) (i : Nat) (hi : j.toNatClampNeg = i) (hi2 : i < vs.length) {g : JFrame} (hg : g.method = m) (hs : g.stack = .double x :: .int j :: .ref a :: S) (hd : decode c.code g.pc = .ok (.dastore, 1)) :
    ∃ T' h', Stand p l e R s m args below meth c T' (locs ++ [⟨a, j.toNatClampNeg⟩]) cells slots ∧ T'.heap = h' ∧ Wr h h' a j.toNatClampNeg (.double x) ∧ Arv Z h' a k .double z (vs.set i (.double x)) dv ∧ ∀ target, Steps p.tables e below (T'.setTop { g with pc := g.pc + 1, stack := S }) target → Steps p.tables e below (T.setTop g) target := by
  obtain ⟨cl, A, q1, q, n, H, G⟩ := F
  obtain ⟨T', h', X', e', W, st⟩ := stD X hx hZ eT A (inb_of q hj) hg hs hd
  exact ⟨T', h', X', e', W, Arv.set A q1 q n H G rfl W i hi hi2, st⟩
abbrev HW (Z : State) (a0 : Array Value) : Prop := ∀ d ∈ tables_1, d.before a0 Z = true
theorem ow {Z : State} {a0 : Array Value} {d : Jvm.Cond} (i : Nat) (hw : HW Z a0) (q : tables_1[i]? = some d) : d.before a0 Z = true := hw d (List.mem_of_getElem? q)
abbrev z0 : Value := .int 0
abbrev SCS (Z : State) (z : Int32) : Prop := Sta Z Z.heap "java/lang/String" "COMPACT_STRINGS" "Z" (.int z)
variable {Z : State} {a0 : Array Value}
abbrev vr (a : Addr) : Slot := .val (.ref a)
abbrev vi (z : Int32) : Slot := .val (.int z)
theorem own_dconst0 : FP.dconst0 = FP.l2d 0 := l2d_zero.symm
def Bd (N : Int) (a : Int64) : Prop := -N ≤ a.toInt ∧ a.toInt ≤ N
theorem own_mulnn (a b : Int64) : Jvm.Free.Fl.NoNaN64 (FP.dmul (FP.l2d a) (FP.l2d b)) := Jvm.Free.Fl.dmul_out (Jvm.Free.Fl.l2d_fin a) (Jvm.Free.Fl.l2d_fin b)
theorem bd_zero : Bd 0 (0 : Int64) := by constructor <;> decide
theorem bd_mul {a b : Int64} {A B : Int} (ha : Bd A a) (hb : Bd B b) (h : A * B < 9223372036854775808) : (a * b).toInt = a.toInt * b.toInt ∧ Bd (A * B) (a * b) := by
  have hA : 0 ≤ A := by have := ha.1; have := ha.2; omega
  have hB : 0 ≤ B := by have := hb.1; have := hb.2; omega
  have h1 : a.toInt * b.toInt ≤ A * B ∧ -(A * B) ≤ a.toInt * b.toInt := by
    have x1 := Int.mul_nonneg (show 0 ≤ A - a.toInt by have := ha.2; omega) (show 0 ≤ B + b.toInt by have := hb.1; omega)
    have x2 := Int.mul_nonneg (show 0 ≤ A + a.toInt by have := ha.1; omega) (show 0 ≤ B - b.toInt by have := hb.2; omega)
    have x3 := Int.mul_nonneg (show 0 ≤ A - a.toInt by have := ha.2; omega) (show 0 ≤ B - b.toInt by have := hb.2; omega)
    have x4 := Int.mul_nonneg (show 0 ≤ A + a.toInt by have := ha.1; omega) (show 0 ≤ B + b.toInt by have := hb.1; omega)
    simp only [Int.sub_mul, Int.add_mul, Int.mul_sub, Int.mul_add] at x1 x2 x3 x4
    constructor <;> omega
  have e : (a * b).toInt = a.toInt * b.toInt := by
    have := c_lmul a b; have := rng64 (a * b); omega
  exact ⟨e, by rw [Bd, e]; exact ⟨h1.2, h1.1⟩⟩
theorem bd_add {a b : Int64} {A B : Int} (ha : Bd A a) (hb : Bd B b) (h : A + B < 9223372036854775808) : (a + b).toInt = a.toInt + b.toInt ∧ Bd (A + B) (a + b) := by
  have := ha.1; have := ha.2; have := hb.1; have := hb.2
  have e : (a + b).toInt = a.toInt + b.toInt := by have := c_ladd a b; have := rng64 (a + b); omega
  exact ⟨e, by rw [Bd, e]; omega⟩
theorem bd_53 {a : Int64} {A : Int} (ha : Bd A a) (h : A < 9007199254740992) : B53 a := by obtain ⟨x, y⟩ := ha; exact ⟨by omega, by omega⟩
theorem own_addnz (a : Int64) : FP.dadd (FP.l2d a) 9223372036854775808 = FP.l2d a := FP.Core.dadd_zeroNeg ((FP.Core.notNaN_iff _).mp (FP.Core.l2d_notNaN a))
theorem own_muladd {s a b : Int64} {N A B : Int} (hs : Bd N s) (ha : Bd A a) (hb : Bd B b) (hA : A < 9007199254740992) (hB : B < 9007199254740992) (hN : N < 9007199254740992) (hAB : A * B < 9007199254740992) : FP.dadd (FP.l2d s) (FP.dmul (FP.l2d a) (FP.l2d b)) = FP.l2d (s + a * b) := by
  obtain ⟨e1, e2⟩ := bd_mul ha hb (by omega)
  by_cases hz : a = 0 ∨ b = 0
  · have hab : a * b = 0 := by rcases hz with rfl | rfl <;> simp
    rw [dmul_z (bd_53 ha hA) (bd_53 hb hB) hz, hab, Int64.add_zero]
    split
    · exact own_addnz s
    · rw [dadd_w (bd_53 hs hN) (by constructor <;> decide), Int64.add_zero]
  · have na : ¬ a = 0 := fun q => hz (Or.inl q)
    have nb : ¬ b = 0 := fun q => hz (Or.inr q)
    rw [dmul_w (bd_53 ha hA) (bd_53 hb hB) na nb (by have := e2.1; omega) (by have := e2.2; omega), dadd_w (bd_53 hs hN) (bd_53 e2 hAB)]
theorem bd_muladd {s a b : Int64} {N A B : Int} (hs : Bd N s) (ha : Bd A a) (hb : Bd B b) (hAB : N + A * B < 9223372036854775808) (hN : 0 ≤ N) : Bd (N + A * B) (s + a * b) := (bd_add hs (bd_mul ha hb (by omega)).2 hAB).2
theorem own_shr43 (x : Int64) : Bd 1048576 (x >>> ((43 : Int32) &&& 0x3f).toInt64) := by
  have e := c_lshr x 43 43 (by decide)
  have := rng64 x
  rw [Bd, e]; omega
theorem own_rem4 (x : Int32) : ((x &&& 2147483647) - ((x &&& 2147483647) / 4) * 4) = 0 ∨ ((x &&& 2147483647) - ((x &&& 2147483647) / 4) * 4) = 1 ∨ ((x &&& 2147483647) - ((x &&& 2147483647) / 4) * 4) = 2 ∨ ((x &&& 2147483647) - ((x &&& 2147483647) / 4) * 4) = 3 := by
  generalize hy : x &&& 2147483647 = y
  have h0 : 0 ≤ y.toInt := by rw [← hy]; exact (c_and x 2147483647 (by decide)).1
  have hd := (c_idiv y 4 4 (by decide) (by decide)).1 h0
  have h1 := c_isub y (y / 4 * 4)
  have h2 := c_imul (y / 4) 4
  have r := rng32 y
  have r2 := rng32 (y / 4 * 4)
  have r3 := rng32 (y - y / 4 * 4)
  have e4 : (4 : Int32).toInt = 4 := rfl
  rw [e4] at h2
  have h3 : (y - y / 4 * 4).toInt = 0 ∨ (y - y / 4 * 4).toInt = 1 ∨ (y - y / 4 * 4).toInt = 2 ∨ (y - y / 4 * 4).toInt = 3 := by omega
  rcases h3 with q | q | q | q
  · exact Or.inl (Int32.toInt_inj.mp q)
  · exact Or.inr (Or.inl (Int32.toInt_inj.mp q))
  · exact Or.inr (Or.inr (Or.inl (Int32.toInt_inj.mp q)))
  · exact Or.inr (Or.inr (Or.inr (Int32.toInt_inj.mp q)))
abbrev b0_ := method_2_code
theorem d0 : decode b0_ 0 = .ok (.iload_n 2, 1) := by decide +kernel
theorem d1 : decode b0_ 1 = .ok (.ifCond .ne 11, 3) := by decide +kernel
theorem d2 : decode b0_ 4 = .ok (.lload_n 0, 1) := by decide +kernel
theorem d3 : decode b0_ 5 = .ok (.bipush 43, 2) := by decide +kernel
theorem d4 : decode b0_ 7 = .ok (.lshl, 1) := by decide +kernel
theorem d5 : decode b0_ 8 = .ok (.bipush 43, 2) := by decide +kernel
theorem d6 : decode b0_ 10 = .ok (.lshr, 1) := by decide +kernel
theorem d7 : decode b0_ 11 = .ok (.lreturn, 1) := by decide +kernel
theorem pn_DenseVectorsDotPinLaw584 : plainName "com/example/unearth/unearth/search/DenseVectorsDotPinLaw" = true := by first | (simp [plainName, overriddenIn]; done) | decide +kernel
abbrev y0_part : MethodName := ⟨"com/example/unearth/unearth/search/DenseVectorsDotPinLaw", "part", "(JI)J"⟩
def Q_r_part0 (Z : State) (q0 : Int64) (h0 : Heap) (n0 : Nat) (v : Option Value) (h : Heap) (L : List Loc) : Prop := v = some (.long ((q0 <<< ((43 : Int32) &&& 0x3f).toInt64) >>> ((43 : Int32) &&& 0x3f).toInt64)) ∧ Fr n0 L ∧ h = h0
theorem ef_r_part0 (q0 : Int64) (m : MethodId) : entryFrame m #[(.long q0), (.int 0)] 3 = mkF m 0 #[.val (.long q0), .second, .val (.int 0)] [] := by first | (simp [entryFrame, mkF, argsToLocals, Value.category]; done) | rfl
set_option maxRecDepth 65536 in
set_option maxHeartbeats 40000000 in
theorem r_part0 (l : Launch) (Z : State) (a0 : Array Value) (hw : HW Z a0) (ws : List Jvm.Cond) (q0 : Int64) (h0 : Heap) (n0 : Nat) (Z0 : n0 ≤ h0.size) :
    MF l Z y0_part b0_ 3 (some .long) ws ⟨0, 0, 0, 0⟩ #[(.long q0), z0] h0 (Q_r_part0 Z q0 h0 n0) := by
  refine own_body (plainFor_of_name pn_DenseVectorsDotPinLaw584) (ef_r_part0 q0) (by decide) (by decide) ?_
  intro p e s m below meth c s₁ hx hby hml hown hnm hret hZ hh e0 X0
  have N0 := Fr.nil n0
  refine ⟨s₁, _, some (.long ((q0 <<< ((43 : Int32) &&& 0x3f).toInt64) >>> ((43 : Int32) &&& 0x3f).toInt64)), X0, (fun h => by cases h <;> rfl), ?_, fun fs hr => ?_⟩
  · show Q_r_part0 Z q0 h0 n0 _ s₁.heap _
    rw [e0]
    exact ⟨rfl, N0, rfl⟩
  · refine t_iloadN 1 X0.here hx (hb hby d0) rfl rfl ?_
    refine t_ifNo 4 X0.here hx (hb hby d1) (by decide) rfl ?_
    refine t_lloadN 5 X0.here hx (hb hby d2) rfl rfl ?_
    refine t_bipush 7 (r := 43) X0.here hx (hb hby d3) (by decide) rfl ?_
    refine t_lshl 8 X0.here hx (hb hby d4) rfl rfl ?_
    refine t_bipush 10 (r := 43) X0.here hx (hb hby d5) (by decide) rfl ?_
    refine t_lshr 11 X0.here hx (hb hby d6) rfl rfl ?_
    exact own_retJ X0 hx hret (hb hby d7) hr
theorem d8 : decode b0_ 12 = .ok (.iload_n 2, 1) := by decide +kernel
theorem d9 : decode b0_ 13 = .ok (.iconst 1, 1) := by decide +kernel
theorem d10 : decode b0_ 14 = .ok (.if_icmp .ne 11, 3) := by decide +kernel
theorem d11 : decode b0_ 17 = .ok (.lload_n 0, 1) := by decide +kernel
theorem d12 : decode b0_ 18 = .ok (.bipush 22, 2) := by decide +kernel
theorem d13 : decode b0_ 20 = .ok (.lshl, 1) := by decide +kernel
theorem d14 : decode b0_ 21 = .ok (.bipush 43, 2) := by decide +kernel
theorem d15 : decode b0_ 23 = .ok (.lshr, 1) := by decide +kernel
theorem d16 : decode b0_ 24 = .ok (.lreturn, 1) := by decide +kernel
def Q_r_part1 (Z : State) (q0 : Int64) (h0 : Heap) (n0 : Nat) (v : Option Value) (h : Heap) (L : List Loc) : Prop := v = some (.long ((q0 <<< ((22 : Int32) &&& 0x3f).toInt64) >>> ((43 : Int32) &&& 0x3f).toInt64)) ∧ Fr n0 L ∧ h = h0
theorem ef_r_part1 (q0 : Int64) (m : MethodId) : entryFrame m #[(.long q0), (.int 1)] 3 = mkF m 0 #[.val (.long q0), .second, .val (.int 1)] [] := by first | (simp [entryFrame, mkF, argsToLocals, Value.category]; done) | rfl
set_option maxRecDepth 65536 in
set_option maxHeartbeats 40000000 in
theorem r_part1 (l : Launch) (Z : State) (a0 : Array Value) (hw : HW Z a0) (ws : List Jvm.Cond) (q0 : Int64) (h0 : Heap) (n0 : Nat) (Z0 : n0 ≤ h0.size) :
    MF l Z y0_part b0_ 3 (some .long) ws ⟨0, 0, 0, 0⟩ #[(.long q0), (.int 1)] h0 (Q_r_part1 Z q0 h0 n0) := by
  refine own_body (plainFor_of_name pn_DenseVectorsDotPinLaw584) (ef_r_part1 q0) (by decide) (by decide) ?_
  intro p e s m below meth c s₁ hx hby hml hown hnm hret hZ hh e0 X0
  have N0 := Fr.nil n0
  refine ⟨s₁, _, some (.long ((q0 <<< ((22 : Int32) &&& 0x3f).toInt64) >>> ((43 : Int32) &&& 0x3f).toInt64)), X0, (fun h => by cases h <;> rfl), ?_, fun fs hr => ?_⟩
  · show Q_r_part1 Z q0 h0 n0 _ s₁.heap _
    rw [e0]
    exact ⟨rfl, N0, rfl⟩
  · refine t_iloadN 1 X0.here hx (hb hby d0) rfl rfl ?_
    refine t_ifYes (pc := 1) 12 X0.here hx (hb hby d1) (by decide) (by decide) (by decide) ?_
    refine t_iloadN 13 X0.here hx (hb hby d8) rfl rfl ?_
    refine t_iconst 14 (r := 1) X0.here hx (hb hby d9) (by decide) rfl ?_
    refine t_icmpNo 17 X0.here hx (hb hby d10) (by decide) rfl ?_
    refine t_lloadN 18 X0.here hx (hb hby d11) rfl rfl ?_
    refine t_bipush 20 (r := 22) X0.here hx (hb hby d12) (by decide) rfl ?_
    refine t_lshl 21 X0.here hx (hb hby d13) rfl rfl ?_
    refine t_bipush 23 (r := 43) X0.here hx (hb hby d14) (by decide) rfl ?_
    refine t_lshr 24 X0.here hx (hb hby d15) rfl rfl ?_
    exact own_retJ X0 hx hret (hb hby d16) hr
theorem d17 : decode b0_ 25 = .ok (.lload_n 0, 1) := by decide +kernel
theorem d18 : decode b0_ 26 = .ok (.iconst 1, 1) := by decide +kernel
theorem d19 : decode b0_ 27 = .ok (.lshl, 1) := by decide +kernel
theorem d20 : decode b0_ 28 = .ok (.bipush 43, 2) := by decide +kernel
theorem d21 : decode b0_ 30 = .ok (.lshr, 1) := by decide +kernel
theorem d22 : decode b0_ 31 = .ok (.lreturn, 1) := by decide +kernel
def Q_r_part2 (Z : State) (q0 : Int64) (h0 : Heap) (n0 : Nat) (v : Option Value) (h : Heap) (L : List Loc) : Prop := v = some (.long ((q0 <<< ((1 : Int32) &&& 0x3f).toInt64) >>> ((43 : Int32) &&& 0x3f).toInt64)) ∧ Fr n0 L ∧ h = h0
theorem ef_r_part2 (q0 : Int64) (m : MethodId) : entryFrame m #[(.long q0), (.int 2)] 3 = mkF m 0 #[.val (.long q0), .second, .val (.int 2)] [] := by first | (simp [entryFrame, mkF, argsToLocals, Value.category]; done) | rfl
set_option maxRecDepth 65536 in
set_option maxHeartbeats 40000000 in
theorem r_part2 (l : Launch) (Z : State) (a0 : Array Value) (hw : HW Z a0) (ws : List Jvm.Cond) (q0 : Int64) (h0 : Heap) (n0 : Nat) (Z0 : n0 ≤ h0.size) :
    MF l Z y0_part b0_ 3 (some .long) ws ⟨0, 0, 0, 0⟩ #[(.long q0), (.int 2)] h0 (Q_r_part2 Z q0 h0 n0) := by
  refine own_body (plainFor_of_name pn_DenseVectorsDotPinLaw584) (ef_r_part2 q0) (by decide) (by decide) ?_
  intro p e s m below meth c s₁ hx hby hml hown hnm hret hZ hh e0 X0
  have N0 := Fr.nil n0
  refine ⟨s₁, _, some (.long ((q0 <<< ((1 : Int32) &&& 0x3f).toInt64) >>> ((43 : Int32) &&& 0x3f).toInt64)), X0, (fun h => by cases h <;> rfl), ?_, fun fs hr => ?_⟩
  · show Q_r_part2 Z q0 h0 n0 _ s₁.heap _
    rw [e0]
    exact ⟨rfl, N0, rfl⟩
  · refine t_iloadN 1 X0.here hx (hb hby d0) rfl rfl ?_
    refine t_ifYes (pc := 1) 12 X0.here hx (hb hby d1) (by decide) (by decide) (by decide) ?_
    refine t_iloadN 13 X0.here hx (hb hby d8) rfl rfl ?_
    refine t_iconst 14 (r := 1) X0.here hx (hb hby d9) (by decide) rfl ?_
    refine t_icmpYes (pc := 14) 25 X0.here hx (hb hby d10) (by decide) (by decide) (by decide) ?_
    refine t_lloadN 26 X0.here hx (hb hby d17) rfl rfl ?_
    refine t_iconst 27 (r := 1) X0.here hx (hb hby d18) (by decide) rfl ?_
    refine t_lshl 28 X0.here hx (hb hby d19) rfl rfl ?_
    refine t_bipush 30 (r := 43) X0.here hx (hb hby d20) (by decide) rfl ?_
    refine t_lshr 31 X0.here hx (hb hby d21) rfl rfl ?_
    exact own_retJ X0 hx hret (hb hby d22) hr
abbrev b1_ := prog_21_method_2_code
theorem d23 : decode b1_ 0 = .ok (.dconst 0, 1) := by decide +kernel
theorem d24 : decode b1_ 1 = .ok (.dstore_n 2, 1) := by decide +kernel
theorem d25 : decode b1_ 2 = .ok (.iconst 0, 1) := by decide +kernel
theorem d26 : decode b1_ 3 = .ok (.istore 4, 2) := by decide +kernel
theorem d27 : decode b1_ 5 = .ok (.iload 4, 2) := by decide +kernel
theorem d28 : decode b1_ 7 = .ok (.aload_n 0, 1) := by decide +kernel
theorem d29 : decode b1_ 8 = .ok (.arraylength, 1) := by decide +kernel
theorem d30 : decode b1_ 9 = .ok (.if_icmp .ge 21, 3) := by decide +kernel
theorem d31 : decode b1_ 30 = .ok (.dload_n 2, 1) := by decide +kernel
theorem d32 : decode b1_ 31 = .ok (.dreturn, 1) := by decide +kernel
theorem pn_DenseVectors699 : plainName "com/example/unearth/unearth/search/DenseVectors" = true := by first | (simp [plainName, overriddenIn]; done) | decide +kernel
abbrev y1_dot : MethodName := ⟨"com/example/unearth/unearth/search/DenseVectors", "dot", "([D[D)D"⟩
def Q_r_dot0 (Z : State) (o0 o1 : Addr) (k_o0 : ClassId) (h0 : Heap) (n0 : Nat) (v : Option Value) (h : Heap) (L : List Loc) : Prop := v = some (.double (FP.l2d (0 : Int64))) ∧ Fr n0 L ∧ h = h0
theorem ef_r_dot0 (o0 o1 : Addr) (m : MethodId) : entryFrame m #[(.ref o0), (.ref o1)] 5 = mkF m 0 #[.val (.ref o0), .val (.ref o1), .unset, .unset, .unset] [] := by first | (simp [entryFrame, mkF, argsToLocals, Value.category]; done) | rfl
set_option maxRecDepth 65536 in
set_option maxHeartbeats 40000000 in
theorem r_dot0 (l : Launch) (Z : State) (a0 : Array Value) (hw : HW Z a0) (ws : List Jvm.Cond) (o0 o1 : Addr) (k_o0 : ClassId) (h0 : Heap) (n0 : Nat) (Z0 : n0 ≤ h0.size) (V_o0 : Arv Z h0 o0 k_o0 .double 0 [] (.double (FP.l2d (0 : Int64)))) :
    MF l Z y1_dot b1_ 5 (some .double) ws ⟨0, 0, 0, 0⟩ #[(.ref o0), (.ref o1)] h0 (Q_r_dot0 Z o0 o1 k_o0 h0 n0) := by
  refine own_body (plainFor_of_name pn_DenseVectors699) (ef_r_dot0 o0 o1) (by decide) (by decide) ?_
  intro p e s m below meth c s₁ hx hby hml hown hnm hret hZ hh e0 X0
  have N0 := Fr.nil n0
  refine ⟨s₁, _, some (.double (FP.l2d (0 : Int64))), X0, (fun h => by cases h <;> rfl), ?_, fun fs hr => ?_⟩
  · show Q_r_dot0 Z o0 o1 k_o0 h0 n0 _ s₁.heap _
    rw [e0]
    exact ⟨rfl, N0, rfl⟩
  · refine t_dconst0 1 (r := (FP.l2d (0 : Int64))) X0.here hx (hb hby d23) own_dconst0 rfl ?_
    refine t_dstoreN (pc' := 2) (L' := #[vr o0, vr o1, .val (.double (FP.l2d (0 : Int64))), .second, .unset]) X0.here hx (hb hby d24) rfl rfl ?_
    refine t_iconst 3 (r := 0) X0.here hx (hb hby d25) (by decide) rfl ?_
    refine t_istore (pc' := 5) (L' := #[vr o0, vr o1, .val (.double (FP.l2d (0 : Int64))), .second, vi 0]) X0.here hx (hb hby d26) rfl rfl ?_
    refine t_iload 7 X0.here hx (hb hby d27) rfl rfl ?_
    refine t_aloadN 8 X0.here hx (hb hby d28) rfl rfl rfl ?_
    refine own_alen (pc' := 9) X0 hx hZ e0 V_o0 (hb hby d29) rfl ?_
    refine t_icmpYes (pc := 9) 30 X0.here hx (hb hby d30) (by decide) (by decide) (by decide) ?_
    refine t_dloadN 31 X0.here hx (hb hby d31) rfl rfl ?_
    exact own_retD X0 hx hret (hb hby d32) hr
theorem d33 : decode b1_ 12 = .ok (.dload_n 2, 1) := by decide +kernel
theorem d34 : decode b1_ 13 = .ok (.aload_n 0, 1) := by decide +kernel
theorem d35 : decode b1_ 14 = .ok (.iload 4, 2) := by decide +kernel
theorem d36 : decode b1_ 16 = .ok (.daload, 1) := by decide +kernel
theorem d37 : decode b1_ 17 = .ok (.aload_n 1, 1) := by decide +kernel
theorem d38 : decode b1_ 18 = .ok (.iload 4, 2) := by decide +kernel
theorem d39 : decode b1_ 20 = .ok (.daload, 1) := by decide +kernel
theorem d40 : decode b1_ 21 = .ok (.dmul, 1) := by decide +kernel
theorem d41 : decode b1_ 22 = .ok (.dadd, 1) := by decide +kernel
theorem d42 : decode b1_ 23 = .ok (.dstore_n 2, 1) := by decide +kernel
theorem d43 : decode b1_ 24 = .ok (.iinc 4 1, 3) := by decide +kernel
theorem d44 : decode b1_ 27 = .ok (.goto (-22), 3) := by decide +kernel
def Q_r_dot1 (Z : State) (u0 v0 : Int64) (o0 o1 : Addr) (k_o0 k_o1 : ClassId) (h0 : Heap) (n0 : Nat) (v : Option Value) (h : Heap) (L : List Loc) : Prop := v = some (.double (FP.l2d ((0 : Int64) + (u0 * v0)))) ∧ Fr n0 L ∧ h = h0
theorem ef_r_dot1 (o0 o1 : Addr) (m : MethodId) : entryFrame m #[(.ref o0), (.ref o1)] 5 = mkF m 0 #[.val (.ref o0), .val (.ref o1), .unset, .unset, .unset] [] := by first | (simp [entryFrame, mkF, argsToLocals, Value.category]; done) | rfl
set_option maxRecDepth 65536 in
set_option maxHeartbeats 40000000 in
theorem r_dot1 (l : Launch) (Z : State) (a0 : Array Value) (hw : HW Z a0) (ws : List Jvm.Cond) (u0 v0 : Int64) (o0 o1 : Addr) (k_o0 k_o1 : ClassId) (h0 : Heap) (n0 : Nat) (Z0 : n0 ≤ h0.size) (hb_u0 : Bd 1048576 u0) (hb_v0 : Bd 1048576 v0) (V_o0 : Arv Z h0 o0 k_o0 .double 1 [(.double (FP.l2d u0))] (.double (FP.l2d (0 : Int64)))) (V_o1 : Arv Z h0 o1 k_o1 .double 1 [(.double (FP.l2d v0))] (.double (FP.l2d (0 : Int64)))) :
    MF l Z y1_dot b1_ 5 (some .double) ws ⟨0, 0, 0, 0⟩ #[(.ref o0), (.ref o1)] h0 (Q_r_dot1 Z u0 v0 o0 o1 k_o0 k_o1 h0 n0) := by
  refine own_body (plainFor_of_name pn_DenseVectors699) (ef_r_dot1 o0 o1) (by decide) (by decide) ?_
  intro p e s m below meth c s₁ hx hby hml hown hnm hret hZ hh e0 X0
  have N0 := Fr.nil n0
  have mubs_1 := own_muladd bd_zero hb_u0 hb_v0 (by decide) (by decide) (by decide) (by decide)
  have bs_1 : Bd 1099511627776 ((0 : Int64) + (u0 * v0)) := bd_muladd bd_zero hb_u0 hb_v0 (by decide) (by decide)
  refine ⟨s₁, _, some (.double (FP.l2d ((0 : Int64) + (u0 * v0)))), X0, (fun h => by cases h <;> rfl), ?_, fun fs hr => ?_⟩
  · show Q_r_dot1 Z u0 v0 o0 o1 k_o0 k_o1 h0 n0 _ s₁.heap _
    rw [e0]
    exact ⟨rfl, N0, rfl⟩
  · refine t_dconst0 1 (r := (FP.l2d (0 : Int64))) X0.here hx (hb hby d23) own_dconst0 rfl ?_
    refine t_dstoreN (pc' := 2) (L' := #[vr o0, vr o1, .val (.double (FP.l2d (0 : Int64))), .second, .unset]) X0.here hx (hb hby d24) rfl rfl ?_
    refine t_iconst 3 (r := 0) X0.here hx (hb hby d25) (by decide) rfl ?_
    refine t_istore (pc' := 5) (L' := #[vr o0, vr o1, .val (.double (FP.l2d (0 : Int64))), .second, vi 0]) X0.here hx (hb hby d26) rfl rfl ?_
    refine t_iload 7 X0.here hx (hb hby d27) rfl rfl ?_
    refine t_aloadN 8 X0.here hx (hb hby d28) rfl rfl rfl ?_
    refine own_alen (pc' := 9) X0 hx hZ e0 V_o0 (hb hby d29) rfl ?_
    refine t_icmpNo 12 X0.here hx (hb hby d30) (by decide) rfl ?_
    refine t_dloadN 13 X0.here hx (hb hby d33) rfl rfl ?_
    refine t_aloadN 14 X0.here hx (hb hby d34) rfl rfl rfl ?_
    refine t_iload 16 X0.here hx (hb hby d35) rfl rfl ?_
    refine own_aldD (pc' := 17) X0 hx hZ e0 V_o0 (j := 0) (v := (.double (FP.l2d u0))) (by decide) rfl (hb hby d36) rfl ?_
    refine t_aloadN 18 X0.here hx (hb hby d37) rfl rfl rfl ?_
    refine t_iload 20 X0.here hx (hb hby d38) rfl rfl ?_
    refine own_aldD (pc' := 21) X0 hx hZ e0 V_o1 (j := 0) (v := (.double (FP.l2d v0))) (by decide) rfl (hb hby d39) rfl ?_
    refine t_dmul 22 (r := (FP.dmul (FP.l2d u0) (FP.l2d v0))) X0.here hx (hb hby d40) (own_mulnn u0 v0) rfl rfl ?_
    refine t_dadd 23 (r := (FP.l2d ((0 : Int64) + (u0 * v0)))) X0.here hx (hb hby d41) (nn_w mubs_1) mubs_1 rfl ?_
    refine t_dstoreN (pc' := 24) (L' := #[vr o0, vr o1, .val (.double (FP.l2d ((0 : Int64) + (u0 * v0)))), .second, vi 0]) X0.here hx (hb hby d42) rfl rfl ?_
    refine t_iinc (pc' := 27) (L' := #[vr o0, vr o1, .val (.double (FP.l2d ((0 : Int64) + (u0 * v0)))), .second, vi 1]) X0.here hx (hb hby d43) rfl (by first | rfl | decide) rfl ?_
    refine t_goto (pc := 27) 5 X0.here hx (hb hby d44) (by decide) (by decide) ?_
    refine t_iload 7 X0.here hx (hb hby d27) rfl rfl ?_
    refine t_aloadN 8 X0.here hx (hb hby d28) rfl rfl rfl ?_
    refine own_alen (pc' := 9) X0 hx hZ e0 V_o0 (hb hby d29) rfl ?_
    refine t_icmpYes (pc := 9) 30 X0.here hx (hb hby d30) (by decide) (by decide) (by decide) ?_
    refine t_dloadN 31 X0.here hx (hb hby d31) rfl rfl ?_
    exact own_retD X0 hx hret (hb hby d32) hr
def Q_r_dot2 (Z : State) (u0 u1 v0 v1 : Int64) (o0 o1 : Addr) (k_o0 k_o1 : ClassId) (h0 : Heap) (n0 : Nat) (v : Option Value) (h : Heap) (L : List Loc) : Prop := v = some (.double (FP.l2d (((0 : Int64) + (u0 * v0)) + (u1 * v1)))) ∧ Fr n0 L ∧ h = h0
theorem ef_r_dot2 (o0 o1 : Addr) (m : MethodId) : entryFrame m #[(.ref o0), (.ref o1)] 5 = mkF m 0 #[.val (.ref o0), .val (.ref o1), .unset, .unset, .unset] [] := by first | (simp [entryFrame, mkF, argsToLocals, Value.category]; done) | rfl
set_option maxRecDepth 65536 in
set_option maxHeartbeats 40000000 in
theorem r_dot2 (l : Launch) (Z : State) (a0 : Array Value) (hw : HW Z a0) (ws : List Jvm.Cond) (u0 u1 v0 v1 : Int64) (o0 o1 : Addr) (k_o0 k_o1 : ClassId) (h0 : Heap) (n0 : Nat) (Z0 : n0 ≤ h0.size) (hb_u0 : Bd 1048576 u0) (hb_u1 : Bd 1048576 u1) (hb_v0 : Bd 1048576 v0) (hb_v1 : Bd 1048576 v1) (V_o0 : Arv Z h0 o0 k_o0 .double 2 [(.double (FP.l2d u0)), (.double (FP.l2d u1))] (.double (FP.l2d (0 : Int64)))) (V_o1 : Arv Z h0 o1 k_o1 .double 2 [(.double (FP.l2d v0)), (.double (FP.l2d v1))] (.double (FP.l2d (0 : Int64)))) :
    MF l Z y1_dot b1_ 5 (some .double) ws ⟨0, 0, 0, 0⟩ #[(.ref o0), (.ref o1)] h0 (Q_r_dot2 Z u0 u1 v0 v1 o0 o1 k_o0 k_o1 h0 n0) := by
  refine own_body (plainFor_of_name pn_DenseVectors699) (ef_r_dot2 o0 o1) (by decide) (by decide) ?_
  intro p e s m below meth c s₁ hx hby hml hown hnm hret hZ hh e0 X0
  have N0 := Fr.nil n0
  have mubs_1 := own_muladd bd_zero hb_u0 hb_v0 (by decide) (by decide) (by decide) (by decide)
  have bs_1 : Bd 1099511627776 ((0 : Int64) + (u0 * v0)) := bd_muladd bd_zero hb_u0 hb_v0 (by decide) (by decide)
  have mubs_2 := own_muladd bs_1 hb_u1 hb_v1 (by decide) (by decide) (by decide) (by decide)
  have bs_2 : Bd 2199023255552 (((0 : Int64) + (u0 * v0)) + (u1 * v1)) := bd_muladd bs_1 hb_u1 hb_v1 (by decide) (by decide)
  refine ⟨s₁, _, some (.double (FP.l2d (((0 : Int64) + (u0 * v0)) + (u1 * v1)))), X0, (fun h => by cases h <;> rfl), ?_, fun fs hr => ?_⟩
  · show Q_r_dot2 Z u0 u1 v0 v1 o0 o1 k_o0 k_o1 h0 n0 _ s₁.heap _
    rw [e0]
    exact ⟨rfl, N0, rfl⟩
  · refine t_dconst0 1 (r := (FP.l2d (0 : Int64))) X0.here hx (hb hby d23) own_dconst0 rfl ?_
    refine t_dstoreN (pc' := 2) (L' := #[vr o0, vr o1, .val (.double (FP.l2d (0 : Int64))), .second, .unset]) X0.here hx (hb hby d24) rfl rfl ?_
    refine t_iconst 3 (r := 0) X0.here hx (hb hby d25) (by decide) rfl ?_
    refine t_istore (pc' := 5) (L' := #[vr o0, vr o1, .val (.double (FP.l2d (0 : Int64))), .second, vi 0]) X0.here hx (hb hby d26) rfl rfl ?_
    refine t_iload 7 X0.here hx (hb hby d27) rfl rfl ?_
    refine t_aloadN 8 X0.here hx (hb hby d28) rfl rfl rfl ?_
    refine own_alen (pc' := 9) X0 hx hZ e0 V_o0 (hb hby d29) rfl ?_
    refine t_icmpNo 12 X0.here hx (hb hby d30) (by decide) rfl ?_
    refine t_dloadN 13 X0.here hx (hb hby d33) rfl rfl ?_
    refine t_aloadN 14 X0.here hx (hb hby d34) rfl rfl rfl ?_
    refine t_iload 16 X0.here hx (hb hby d35) rfl rfl ?_
    refine own_aldD (pc' := 17) X0 hx hZ e0 V_o0 (j := 0) (v := (.double (FP.l2d u0))) (by decide) rfl (hb hby d36) rfl ?_
    refine t_aloadN 18 X0.here hx (hb hby d37) rfl rfl rfl ?_
    refine t_iload 20 X0.here hx (hb hby d38) rfl rfl ?_
    refine own_aldD (pc' := 21) X0 hx hZ e0 V_o1 (j := 0) (v := (.double (FP.l2d v0))) (by decide) rfl (hb hby d39) rfl ?_
    refine t_dmul 22 (r := (FP.dmul (FP.l2d u0) (FP.l2d v0))) X0.here hx (hb hby d40) (own_mulnn u0 v0) rfl rfl ?_
    refine t_dadd 23 (r := (FP.l2d ((0 : Int64) + (u0 * v0)))) X0.here hx (hb hby d41) (nn_w mubs_1) mubs_1 rfl ?_
    refine t_dstoreN (pc' := 24) (L' := #[vr o0, vr o1, .val (.double (FP.l2d ((0 : Int64) + (u0 * v0)))), .second, vi 0]) X0.here hx (hb hby d42) rfl rfl ?_
    refine t_iinc (pc' := 27) (L' := #[vr o0, vr o1, .val (.double (FP.l2d ((0 : Int64) + (u0 * v0)))), .second, vi 1]) X0.here hx (hb hby d43) rfl (by first | rfl | decide) rfl ?_
    refine t_goto (pc := 27) 5 X0.here hx (hb hby d44) (by decide) (by decide) ?_
    refine t_iload 7 X0.here hx (hb hby d27) rfl rfl ?_
    refine t_aloadN 8 X0.here hx (hb hby d28) rfl rfl rfl ?_
    refine own_alen (pc' := 9) X0 hx hZ e0 V_o0 (hb hby d29) rfl ?_
    refine t_icmpNo 12 X0.here hx (hb hby d30) (by decide) rfl ?_
    refine t_dloadN 13 X0.here hx (hb hby d33) rfl rfl ?_
    refine t_aloadN 14 X0.here hx (hb hby d34) rfl rfl rfl ?_
    refine t_iload 16 X0.here hx (hb hby d35) rfl rfl ?_
    refine own_aldD (pc' := 17) X0 hx hZ e0 V_o0 (j := 1) (v := (.double (FP.l2d u1))) (by decide) rfl (hb hby d36) rfl ?_
    refine t_aloadN 18 X0.here hx (hb hby d37) rfl rfl rfl ?_
    refine t_iload 20 X0.here hx (hb hby d38) rfl rfl ?_
    refine own_aldD (pc' := 21) X0 hx hZ e0 V_o1 (j := 1) (v := (.double (FP.l2d v1))) (by decide) rfl (hb hby d39) rfl ?_
    refine t_dmul 22 (r := (FP.dmul (FP.l2d u1) (FP.l2d v1))) X0.here hx (hb hby d40) (own_mulnn u1 v1) rfl rfl ?_
    refine t_dadd 23 (r := (FP.l2d (((0 : Int64) + (u0 * v0)) + (u1 * v1)))) X0.here hx (hb hby d41) (nn_w mubs_2) mubs_2 rfl ?_
    refine t_dstoreN (pc' := 24) (L' := #[vr o0, vr o1, .val (.double (FP.l2d (((0 : Int64) + (u0 * v0)) + (u1 * v1)))), .second, vi 1]) X0.here hx (hb hby d42) rfl rfl ?_
    refine t_iinc (pc' := 27) (L' := #[vr o0, vr o1, .val (.double (FP.l2d (((0 : Int64) + (u0 * v0)) + (u1 * v1)))), .second, vi 2]) X0.here hx (hb hby d43) rfl (by first | rfl | decide) rfl ?_
    refine t_goto (pc := 27) 5 X0.here hx (hb hby d44) (by decide) (by decide) ?_
    refine t_iload 7 X0.here hx (hb hby d27) rfl rfl ?_
    refine t_aloadN 8 X0.here hx (hb hby d28) rfl rfl rfl ?_
    refine own_alen (pc' := 9) X0 hx hZ e0 V_o0 (hb hby d29) rfl ?_
    refine t_icmpYes (pc := 9) 30 X0.here hx (hb hby d30) (by decide) (by decide) (by decide) ?_
    refine t_dloadN 31 X0.here hx (hb hby d31) rfl rfl ?_
    exact own_retD X0 hx hret (hb hby d32) hr
def Q_r_dot3 (Z : State) (u0 u1 u2 v0 v1 v2 : Int64) (o0 o1 : Addr) (k_o0 k_o1 : ClassId) (h0 : Heap) (n0 : Nat) (v : Option Value) (h : Heap) (L : List Loc) : Prop := v = some (.double (FP.l2d ((((0 : Int64) + (u0 * v0)) + (u1 * v1)) + (u2 * v2)))) ∧ Fr n0 L ∧ h = h0
theorem ef_r_dot3 (o0 o1 : Addr) (m : MethodId) : entryFrame m #[(.ref o0), (.ref o1)] 5 = mkF m 0 #[.val (.ref o0), .val (.ref o1), .unset, .unset, .unset] [] := by first | (simp [entryFrame, mkF, argsToLocals, Value.category]; done) | rfl
set_option maxRecDepth 65536 in
set_option maxHeartbeats 40000000 in
theorem r_dot3 (l : Launch) (Z : State) (a0 : Array Value) (hw : HW Z a0) (ws : List Jvm.Cond) (u0 u1 u2 v0 v1 v2 : Int64) (o0 o1 : Addr) (k_o0 k_o1 : ClassId) (h0 : Heap) (n0 : Nat) (Z0 : n0 ≤ h0.size) (hb_u0 : Bd 1048576 u0) (hb_u1 : Bd 1048576 u1) (hb_u2 : Bd 1048576 u2) (hb_v0 : Bd 1048576 v0) (hb_v1 : Bd 1048576 v1) (hb_v2 : Bd 1048576 v2) (V_o0 : Arv Z h0 o0 k_o0 .double 3 [(.double (FP.l2d u0)), (.double (FP.l2d u1)), (.double (FP.l2d u2))] (.double (FP.l2d (0 : Int64)))) (V_o1 : Arv Z h0 o1 k_o1 .double 3 [(.double (FP.l2d v0)), (.double (FP.l2d v1)), (.double (FP.l2d v2))] (.double (FP.l2d (0 : Int64)))) :
    MF l Z y1_dot b1_ 5 (some .double) ws ⟨0, 0, 0, 0⟩ #[(.ref o0), (.ref o1)] h0 (Q_r_dot3 Z u0 u1 u2 v0 v1 v2 o0 o1 k_o0 k_o1 h0 n0) := by
  refine own_body (plainFor_of_name pn_DenseVectors699) (ef_r_dot3 o0 o1) (by decide) (by decide) ?_
  intro p e s m below meth c s₁ hx hby hml hown hnm hret hZ hh e0 X0
  have N0 := Fr.nil n0
  have mubs_1 := own_muladd bd_zero hb_u0 hb_v0 (by decide) (by decide) (by decide) (by decide)
  have bs_1 : Bd 1099511627776 ((0 : Int64) + (u0 * v0)) := bd_muladd bd_zero hb_u0 hb_v0 (by decide) (by decide)
  have mubs_2 := own_muladd bs_1 hb_u1 hb_v1 (by decide) (by decide) (by decide) (by decide)
  have bs_2 : Bd 2199023255552 (((0 : Int64) + (u0 * v0)) + (u1 * v1)) := bd_muladd bs_1 hb_u1 hb_v1 (by decide) (by decide)
  have mubs_3 := own_muladd bs_2 hb_u2 hb_v2 (by decide) (by decide) (by decide) (by decide)
  have bs_3 : Bd 3298534883328 ((((0 : Int64) + (u0 * v0)) + (u1 * v1)) + (u2 * v2)) := bd_muladd bs_2 hb_u2 hb_v2 (by decide) (by decide)
  refine ⟨s₁, _, some (.double (FP.l2d ((((0 : Int64) + (u0 * v0)) + (u1 * v1)) + (u2 * v2)))), X0, (fun h => by cases h <;> rfl), ?_, fun fs hr => ?_⟩
  · show Q_r_dot3 Z u0 u1 u2 v0 v1 v2 o0 o1 k_o0 k_o1 h0 n0 _ s₁.heap _
    rw [e0]
    exact ⟨rfl, N0, rfl⟩
  · refine t_dconst0 1 (r := (FP.l2d (0 : Int64))) X0.here hx (hb hby d23) own_dconst0 rfl ?_
    refine t_dstoreN (pc' := 2) (L' := #[vr o0, vr o1, .val (.double (FP.l2d (0 : Int64))), .second, .unset]) X0.here hx (hb hby d24) rfl rfl ?_
    refine t_iconst 3 (r := 0) X0.here hx (hb hby d25) (by decide) rfl ?_
    refine t_istore (pc' := 5) (L' := #[vr o0, vr o1, .val (.double (FP.l2d (0 : Int64))), .second, vi 0]) X0.here hx (hb hby d26) rfl rfl ?_
    refine t_iload 7 X0.here hx (hb hby d27) rfl rfl ?_
    refine t_aloadN 8 X0.here hx (hb hby d28) rfl rfl rfl ?_
    refine own_alen (pc' := 9) X0 hx hZ e0 V_o0 (hb hby d29) rfl ?_
    refine t_icmpNo 12 X0.here hx (hb hby d30) (by decide) rfl ?_
    refine t_dloadN 13 X0.here hx (hb hby d33) rfl rfl ?_
    refine t_aloadN 14 X0.here hx (hb hby d34) rfl rfl rfl ?_
    refine t_iload 16 X0.here hx (hb hby d35) rfl rfl ?_
    refine own_aldD (pc' := 17) X0 hx hZ e0 V_o0 (j := 0) (v := (.double (FP.l2d u0))) (by decide) rfl (hb hby d36) rfl ?_
    refine t_aloadN 18 X0.here hx (hb hby d37) rfl rfl rfl ?_
    refine t_iload 20 X0.here hx (hb hby d38) rfl rfl ?_
    refine own_aldD (pc' := 21) X0 hx hZ e0 V_o1 (j := 0) (v := (.double (FP.l2d v0))) (by decide) rfl (hb hby d39) rfl ?_
    refine t_dmul 22 (r := (FP.dmul (FP.l2d u0) (FP.l2d v0))) X0.here hx (hb hby d40) (own_mulnn u0 v0) rfl rfl ?_
    refine t_dadd 23 (r := (FP.l2d ((0 : Int64) + (u0 * v0)))) X0.here hx (hb hby d41) (nn_w mubs_1) mubs_1 rfl ?_
    refine t_dstoreN (pc' := 24) (L' := #[vr o0, vr o1, .val (.double (FP.l2d ((0 : Int64) + (u0 * v0)))), .second, vi 0]) X0.here hx (hb hby d42) rfl rfl ?_
    refine t_iinc (pc' := 27) (L' := #[vr o0, vr o1, .val (.double (FP.l2d ((0 : Int64) + (u0 * v0)))), .second, vi 1]) X0.here hx (hb hby d43) rfl (by first | rfl | decide) rfl ?_
    refine t_goto (pc := 27) 5 X0.here hx (hb hby d44) (by decide) (by decide) ?_
    refine t_iload 7 X0.here hx (hb hby d27) rfl rfl ?_
    refine t_aloadN 8 X0.here hx (hb hby d28) rfl rfl rfl ?_
    refine own_alen (pc' := 9) X0 hx hZ e0 V_o0 (hb hby d29) rfl ?_
    refine t_icmpNo 12 X0.here hx (hb hby d30) (by decide) rfl ?_
    refine t_dloadN 13 X0.here hx (hb hby d33) rfl rfl ?_
    refine t_aloadN 14 X0.here hx (hb hby d34) rfl rfl rfl ?_
    refine t_iload 16 X0.here hx (hb hby d35) rfl rfl ?_
    refine own_aldD (pc' := 17) X0 hx hZ e0 V_o0 (j := 1) (v := (.double (FP.l2d u1))) (by decide) rfl (hb hby d36) rfl ?_
    refine t_aloadN 18 X0.here hx (hb hby d37) rfl rfl rfl ?_
    refine t_iload 20 X0.here hx (hb hby d38) rfl rfl ?_
    refine own_aldD (pc' := 21) X0 hx hZ e0 V_o1 (j := 1) (v := (.double (FP.l2d v1))) (by decide) rfl (hb hby d39) rfl ?_
    refine t_dmul 22 (r := (FP.dmul (FP.l2d u1) (FP.l2d v1))) X0.here hx (hb hby d40) (own_mulnn u1 v1) rfl rfl ?_
    refine t_dadd 23 (r := (FP.l2d (((0 : Int64) + (u0 * v0)) + (u1 * v1)))) X0.here hx (hb hby d41) (nn_w mubs_2) mubs_2 rfl ?_
    refine t_dstoreN (pc' := 24) (L' := #[vr o0, vr o1, .val (.double (FP.l2d (((0 : Int64) + (u0 * v0)) + (u1 * v1)))), .second, vi 1]) X0.here hx (hb hby d42) rfl rfl ?_
    refine t_iinc (pc' := 27) (L' := #[vr o0, vr o1, .val (.double (FP.l2d (((0 : Int64) + (u0 * v0)) + (u1 * v1)))), .second, vi 2]) X0.here hx (hb hby d43) rfl (by first | rfl | decide) rfl ?_
    refine t_goto (pc := 27) 5 X0.here hx (hb hby d44) (by decide) (by decide) ?_
    refine t_iload 7 X0.here hx (hb hby d27) rfl rfl ?_
    refine t_aloadN 8 X0.here hx (hb hby d28) rfl rfl rfl ?_
    refine own_alen (pc' := 9) X0 hx hZ e0 V_o0 (hb hby d29) rfl ?_
    refine t_icmpNo 12 X0.here hx (hb hby d30) (by decide) rfl ?_
    refine t_dloadN 13 X0.here hx (hb hby d33) rfl rfl ?_
    refine t_aloadN 14 X0.here hx (hb hby d34) rfl rfl rfl ?_
    refine t_iload 16 X0.here hx (hb hby d35) rfl rfl ?_
    refine own_aldD (pc' := 17) X0 hx hZ e0 V_o0 (j := 2) (v := (.double (FP.l2d u2))) (by decide) rfl (hb hby d36) rfl ?_
    refine t_aloadN 18 X0.here hx (hb hby d37) rfl rfl rfl ?_
    refine t_iload 20 X0.here hx (hb hby d38) rfl rfl ?_
    refine own_aldD (pc' := 21) X0 hx hZ e0 V_o1 (j := 2) (v := (.double (FP.l2d v2))) (by decide) rfl (hb hby d39) rfl ?_
    refine t_dmul 22 (r := (FP.dmul (FP.l2d u2) (FP.l2d v2))) X0.here hx (hb hby d40) (own_mulnn u2 v2) rfl rfl ?_
    refine t_dadd 23 (r := (FP.l2d ((((0 : Int64) + (u0 * v0)) + (u1 * v1)) + (u2 * v2)))) X0.here hx (hb hby d41) (nn_w mubs_3) mubs_3 rfl ?_
    refine t_dstoreN (pc' := 24) (L' := #[vr o0, vr o1, .val (.double (FP.l2d ((((0 : Int64) + (u0 * v0)) + (u1 * v1)) + (u2 * v2)))), .second, vi 2]) X0.here hx (hb hby d42) rfl rfl ?_
    refine t_iinc (pc' := 27) (L' := #[vr o0, vr o1, .val (.double (FP.l2d ((((0 : Int64) + (u0 * v0)) + (u1 * v1)) + (u2 * v2)))), .second, vi 3]) X0.here hx (hb hby d43) rfl (by first | rfl | decide) rfl ?_
    refine t_goto (pc := 27) 5 X0.here hx (hb hby d44) (by decide) (by decide) ?_
    refine t_iload 7 X0.here hx (hb hby d27) rfl rfl ?_
    refine t_aloadN 8 X0.here hx (hb hby d28) rfl rfl rfl ?_
    refine own_alen (pc' := 9) X0 hx hZ e0 V_o0 (hb hby d29) rfl ?_
    refine t_icmpYes (pc := 9) 30 X0.here hx (hb hby d30) (by decide) (by decide) (by decide) ?_
    refine t_dloadN 31 X0.here hx (hb hby d31) rfl rfl ?_
    exact own_retD X0 hx hret (hb hby d32) hr
def w0 (hw : HW Z a0) := ow 0 hw rfl
def w1 (hw : HW Z a0) := ow 1 hw rfl
def w4 (hw : HW Z a0) := ow 4 hw rfl
def w3 (hw : HW Z a0) := ow 3 hw rfl
theorem pd_0 : parseMethodDescriptor "(JI)J" = some ⟨[.long, .int], some .long⟩ := by decide +kernel
def w2 (hw : HW Z a0) := ow 2 hw rfl
def w5 (hw : HW Z a0) := ow 5 hw rfl
def w6 (hw : HW Z a0) := ow 6 hw rfl
def w9 (hw : HW Z a0) := ow 9 hw rfl
def w8 (hw : HW Z a0) := ow 8 hw rfl
theorem pd_1 : parseMethodDescriptor "([D[D)D" = some ⟨[(.array .double), (.array .double)], some .double⟩ := by decide +kernel
def w7 (hw : HW Z a0) := ow 7 hw rfl
def Q_law (n0 : Nat) (v : Option Value) (L : List Loc) : Prop := v = some (.int 1) ∧ Fr n0 L
theorem ef_law_0 (q0 q1 : Int64) (p2 : Int32) (m : MethodId) : entryFrame m #[(.long q0), (.long q1), (.int p2)] maxLocals = mkF m 0 #[.val (.long q0), .second, .val (.long q1), .second, .val (.int p2), .unset, .unset, .unset, .unset, .unset, .unset, .unset, .unset, .unset, .unset, .unset, .unset, .unset, .unset, .unset, .unset, .unset, .unset, .unset] [] := by first | (simp [entryFrame, mkF, argsToLocals, Value.category, maxLocals]; done) | rfl
set_option maxRecDepth 65536 in
set_option maxHeartbeats 40000000 in
theorem law_0 (l : Launch) (Z : State) (a0 : Array Value) (hw : HW Z a0) (ws : List Jvm.Cond) (q0 q1 : Int64) (p2 : Int32) (h0 : Heap) (n0 : Nat) (Z0 : n0 ≤ h0.size) (hk : ((p2 &&& (2147483647 : Int32)) - ((p2 &&& (2147483647 : Int32)) / (4 : Int32)) * (4 : Int32)) = (0 : Int32)) :
    MetFree l x (head1 (Jvm.Cond.code x code maxLocals ret :: ws) room_1) (fun a U => a = #[(.long q0), (.long q1), (.int p2)] ∧ Z.Warmed39 U.vm ∧ U.heap = h0) (fun _ _ _ _ _ => True) (fun _ U o U' => ∃ v L, o = .returned v ∧ Q_law n0 v L ∧ FrameEnd U o U' L 16 128) := by
  refine own_law (y := x) (k := 2) (n := 0) (plainFor_of_name pn_DenseVectorsDotPinLaw584) (ef_law_0 q0 q1 p2) (by decide) (by decide) ?_
  intro p e s m below meth c s₁ hx hby hml hown hnm hret hZ hh e0 X0
  have N0 := Fr.nil n0
  obtain ⟨_, T1, L1, X1, hQ1, st1⟩ := own_static X0 hx hZ hown (w1 hw) (w2 hw) (w3 hw) (w4 hw) (by decide) (r_part0 l Z a0 hw [] q0 h0 n0 Z0) e0 (W := 0) (by decide) (g := (mkF m 11 #[.val (.long q0), .second, .val (.long q1), .second, vi p2, vi 0, .unset, .unset, .unset, .unset, .unset, .unset, .unset, .unset, .unset, .unset, .unset, .unset, .unset, .unset, .unset, .unset, .unset, .unset] [z0, (.long q0)])) rfl (by rw [hml]; rfl) (argsL := [(.long q0), z0]) (rest := []) (lenOf pd_0 rfl) rfl rfl (own_wr rfl rfl) (hb hby at_11)
  obtain ⟨rfl, N1q, e1⟩ := hQ1
  have N1 := Fr.app N0 N1q
  obtain ⟨u1, hu1⟩ : ∃ z, z = ((q0 <<< ((43 : Int32) &&& 0x3f).toInt64) >>> ((43 : Int32) &&& 0x3f).toInt64) := ⟨_, rfl⟩
  have hb_u1 : Bd 1048576 u1 := by rw [hu1]; exact own_shr43 _
  obtain ⟨_, T2, L2, X2, hQ2, st2⟩ := own_static X1 hx hZ hown (w1 hw) (w2 hw) (w3 hw) (w4 hw) (by decide) (r_part1 l Z a0 hw [] q0 h0 n0 Z0) e1 (W := 0) (by decide) (g := (mkF m 18 #[.val (.long q0), .second, .val (.long q1), .second, vi p2, vi 0, .val (.long u1), .second, .unset, .unset, .unset, .unset, .unset, .unset, .unset, .unset, .unset, .unset, .unset, .unset, .unset, .unset, .unset, .unset] [(.int 1), (.long q0)])) rfl (by rw [hml]; rfl) (argsL := [(.long q0), (.int 1)]) (rest := []) (lenOf pd_0 rfl) rfl rfl (own_wr rfl rfl) (hb hby at_18)
  obtain ⟨rfl, N2q, e2⟩ := hQ2
  have N2 := Fr.app N1 N2q
  obtain ⟨u2, hu2⟩ : ∃ z, z = ((q0 <<< ((22 : Int32) &&& 0x3f).toInt64) >>> ((43 : Int32) &&& 0x3f).toInt64) := ⟨_, rfl⟩
  have hb_u2 : Bd 1048576 u2 := by rw [hu2]; exact own_shr43 _
  obtain ⟨_, T3, L3, X3, hQ3, st3⟩ := own_static X2 hx hZ hown (w1 hw) (w2 hw) (w3 hw) (w4 hw) (by decide) (r_part2 l Z a0 hw [] q0 h0 n0 Z0) e2 (W := 0) (by decide) (g := (mkF m 25 #[.val (.long q0), .second, .val (.long q1), .second, vi p2, vi 0, .val (.long u1), .second, .val (.long u2), .second, .unset, .unset, .unset, .unset, .unset, .unset, .unset, .unset, .unset, .unset, .unset, .unset, .unset, .unset] [(.int 2), (.long q0)])) rfl (by rw [hml]; rfl) (argsL := [(.long q0), (.int 2)]) (rest := []) (lenOf pd_0 rfl) rfl rfl (own_wr rfl rfl) (hb hby at_25)
  obtain ⟨rfl, N3q, e3⟩ := hQ3
  have N3 := Fr.app N2 N3q
  obtain ⟨u3, hu3⟩ : ∃ z, z = ((q0 <<< ((1 : Int32) &&& 0x3f).toInt64) >>> ((43 : Int32) &&& 0x3f).toInt64) := ⟨_, rfl⟩
  have hb_u3 : Bd 1048576 u3 := by rw [hu3]; exact own_shr43 _
  obtain ⟨_, T4, L4, X4, hQ4, st4⟩ := own_static X3 hx hZ hown (w1 hw) (w2 hw) (w3 hw) (w4 hw) (by decide) (r_part0 l Z a0 hw [] q1 h0 n0 Z0) e3 (W := 0) (by decide) (g := (mkF m 32 #[.val (.long q0), .second, .val (.long q1), .second, vi p2, vi 0, .val (.long u1), .second, .val (.long u2), .second, .val (.long u3), .second, .unset, .unset, .unset, .unset, .unset, .unset, .unset, .unset, .unset, .unset, .unset, .unset] [z0, (.long q1)])) rfl (by rw [hml]; rfl) (argsL := [(.long q1), z0]) (rest := []) (lenOf pd_0 rfl) rfl rfl (own_wr rfl rfl) (hb hby at_32)
  obtain ⟨rfl, N4q, e4⟩ := hQ4
  have N4 := Fr.app N3 N4q
  obtain ⟨u4, hu4⟩ : ∃ z, z = ((q1 <<< ((43 : Int32) &&& 0x3f).toInt64) >>> ((43 : Int32) &&& 0x3f).toInt64) := ⟨_, rfl⟩
  have hb_u4 : Bd 1048576 u4 := by rw [hu4]; exact own_shr43 _
  obtain ⟨_, T5, L5, X5, hQ5, st5⟩ := own_static X4 hx hZ hown (w1 hw) (w2 hw) (w3 hw) (w4 hw) (by decide) (r_part1 l Z a0 hw [] q1 h0 n0 Z0) e4 (W := 0) (by decide) (g := (mkF m 39 #[.val (.long q0), .second, .val (.long q1), .second, vi p2, vi 0, .val (.long u1), .second, .val (.long u2), .second, .val (.long u3), .second, .val (.long u4), .second, .unset, .unset, .unset, .unset, .unset, .unset, .unset, .unset, .unset, .unset] [(.int 1), (.long q1)])) rfl (by rw [hml]; rfl) (argsL := [(.long q1), (.int 1)]) (rest := []) (lenOf pd_0 rfl) rfl rfl (own_wr rfl rfl) (hb hby at_39)
  obtain ⟨rfl, N5q, e5⟩ := hQ5
  have N5 := Fr.app N4 N5q
  obtain ⟨u5, hu5⟩ : ∃ z, z = ((q1 <<< ((22 : Int32) &&& 0x3f).toInt64) >>> ((43 : Int32) &&& 0x3f).toInt64) := ⟨_, rfl⟩
  have hb_u5 : Bd 1048576 u5 := by rw [hu5]; exact own_shr43 _
  obtain ⟨_, T6, L6, X6, hQ6, st6⟩ := own_static X5 hx hZ hown (w1 hw) (w2 hw) (w3 hw) (w4 hw) (by decide) (r_part2 l Z a0 hw [] q1 h0 n0 Z0) e5 (W := 0) (by decide) (g := (mkF m 46 #[.val (.long q0), .second, .val (.long q1), .second, vi p2, vi 0, .val (.long u1), .second, .val (.long u2), .second, .val (.long u3), .second, .val (.long u4), .second, .val (.long u5), .second, .unset, .unset, .unset, .unset, .unset, .unset, .unset, .unset] [(.int 2), (.long q1)])) rfl (by rw [hml]; rfl) (argsL := [(.long q1), (.int 2)]) (rest := []) (lenOf pd_0 rfl) rfl rfl (own_wr rfl rfl) (hb hby at_46)
  obtain ⟨rfl, N6q, e6⟩ := hQ6
  have N6 := Fr.app N5 N6q
  obtain ⟨u6, hu6⟩ : ∃ z, z = ((q1 <<< ((1 : Int32) &&& 0x3f).toInt64) >>> ((43 : Int32) &&& 0x3f).toInt64) := ⟨_, rfl⟩
  have hb_u6 : Bd 1048576 u6 := by rw [hu6]; exact own_shr43 _
  obtain ⟨T7, h7, k7, X7, e7, E7, A7, st7⟩ := newP (aty := .double) X6 hx hZ (w5 hw) e6 (g := (mkF m 53 #[.val (.long q0), .second, .val (.long q1), .second, vi p2, vi 0, .val (.long u1), .second, .val (.long u2), .second, .val (.long u3), .second, .val (.long u4), .second, .val (.long u5), .second, .val (.long u6), .second, .unset, .unset, .unset, .unset, .unset, .unset] [z0])) rfl (hb hby at_53) rfl (by decide) (cap := 0) (by decide) (by decide) (by decide) (by decide)
  obtain ⟨b7, g7⟩ : ∃ z, z = h0.size := ⟨_, rfl⟩
  rw [← g7] at A7 st7
  have ge_b7 : h0.size ≤ b7 := Nat.le_of_eq g7.symm
  have K7 := KL.ofE E7
  have V7 : Arv Z h7 b7 k7 .double 0 [] (.double (FP.l2d (0 : Int64))) := (Arv.newD A7 (by decide)).pad (pad_rep [] (.double (FP.l2d (0 : Int64))) 0)
  obtain ⟨T8, h8, k8, X8, e8, E8, A8, st8⟩ := newP (aty := .double) X7 hx hZ (w5 hw) e7 (g := (mkF m 59 #[.val (.long q0), .second, .val (.long q1), .second, vi p2, vi 0, .val (.long u1), .second, .val (.long u2), .second, .val (.long u3), .second, .val (.long u4), .second, .val (.long u5), .second, .val (.long u6), .second, vr b7, .unset, .unset, .unset, .unset, .unset] [z0])) rfl (hb hby at_59) rfl (by decide) (cap := 0) (by decide) (by decide) (by decide) (by decide)
  obtain ⟨b8, g8⟩ : ∃ z, z = h7.size := ⟨_, rfl⟩
  rw [← g8] at A8 st8
  have ge_b8 : h7.size ≤ b8 := Nat.le_of_eq g8.symm
  have K8 := KL.ofE E8
  have V8 : Arv Z h8 b8 k8 .double 0 [] (.double (FP.l2d (0 : Int64))) := (Arv.newD A8 (by decide)).pad (pad_rep [] (.double (FP.l2d (0 : Int64))) 0)
  have f10 := (kArv K8 V7 na0)
  have sz_0_2 := (Nat.le_trans K7.1 K8.1)
  obtain ⟨_, T9, L9, X9, hQ9, st9⟩ := own_static X8 hx hZ hown (w6 hw) (w7 hw) (w8 hw) (w9 hw) (by decide) (r_dot0 l Z a0 hw [] b7 b8 k7 h8 n0 (Nat.le_trans Z0 sz_0_2) f10) e8 (W := 0) (by decide) (g := (mkF m 159 #[.val (.long q0), .second, .val (.long q1), .second, vi p2, vi 0, .val (.long u1), .second, .val (.long u2), .second, .val (.long u3), .second, .val (.long u4), .second, .val (.long u5), .second, .val (.long u6), .second, vr b7, vr b8, .val (.long (0 : Int64)), .second, .unset, .unset] [(.ref b8), (.ref b7)])) rfl (by rw [hml]; rfl) (argsL := [(.ref b7), (.ref b8)]) (rest := []) (lenOf pd_1 rfl) rfl rfl (own_wr rfl rfl) (hb hby at_159)
  obtain ⟨rfl, N9q, e9⟩ := hQ9
  have N9 := Fr.app N6 N9q
  refine ⟨T9, _, some (.int 1), X9, (fun h => by cases h <;> rfl), ?_, fun fs hr => ?_⟩
  · show Q_law n0 _ _
    exact ⟨rfl, N9⟩
  · refine t_iload 2 X0.here hx (hb hby at_0) rfl rfl ?_
    refine X0.ldcInt hx hown (mvT hZ (w0 hw)) (g := (mkF m 2 #[.val (.long q0), .second, .val (.long q1), .second, vi p2, .unset, .unset, .unset, .unset, .unset, .unset, .unset, .unset, .unset, .unset, .unset, .unset, .unset, .unset, .unset, .unset, .unset, .unset, .unset] [(.int p2)])) rfl (hb hby at_2) _ ?_
    refine t_iand 5 X0.here hx (hb hby at_4) rfl rfl ?_
    refine t_iconst 6 (r := 4) X0.here hx (hb hby at_5) (by decide) rfl ?_
    refine t_irem 7 (r := 0) X0.here hx (hb hby at_6) (by decide) hk rfl ?_
    refine t_istore (pc' := 9) (L' := #[.val (.long q0), .second, .val (.long q1), .second, vi p2, vi 0, .unset, .unset, .unset, .unset, .unset, .unset, .unset, .unset, .unset, .unset, .unset, .unset, .unset, .unset, .unset, .unset, .unset, .unset]) X0.here hx (hb hby at_7) rfl rfl ?_
    refine t_lloadN 10 X0.here hx (hb hby at_9) rfl rfl ?_
    refine t_iconst 11 (r := 0) X0.here hx (hb hby at_10) (by decide) rfl ?_
    refine st1 _ ?_
    refine castTop (g' := (mkF m 14 #[.val (.long q0), .second, .val (.long q1), .second, vi p2, vi 0, .unset, .unset, .unset, .unset, .unset, .unset, .unset, .unset, .unset, .unset, .unset, .unset, .unset, .unset, .unset, .unset, .unset, .unset] [(.long u1)])) (congrArg (fun z => mkF m 14 #[.val (.long q0), .second, .val (.long q1), .second, vi p2, vi 0, .unset, .unset, .unset, .unset, .unset, .unset, .unset, .unset, .unset, .unset, .unset, .unset, .unset, .unset, .unset, .unset, .unset, .unset] (Value.long z :: [])) hu1.symm) ?_
    refine t_lstore (pc' := 16) (L' := #[.val (.long q0), .second, .val (.long q1), .second, vi p2, vi 0, .val (.long u1), .second, .unset, .unset, .unset, .unset, .unset, .unset, .unset, .unset, .unset, .unset, .unset, .unset, .unset, .unset, .unset, .unset]) X1.here hx (hb hby at_14) rfl rfl ?_
    refine t_lloadN 17 X1.here hx (hb hby at_16) rfl rfl ?_
    refine t_iconst 18 (r := 1) X1.here hx (hb hby at_17) (by decide) rfl ?_
    refine st2 _ ?_
    refine castTop (g' := (mkF m 21 #[.val (.long q0), .second, .val (.long q1), .second, vi p2, vi 0, .val (.long u1), .second, .unset, .unset, .unset, .unset, .unset, .unset, .unset, .unset, .unset, .unset, .unset, .unset, .unset, .unset, .unset, .unset] [(.long u2)])) (congrArg (fun z => mkF m 21 #[.val (.long q0), .second, .val (.long q1), .second, vi p2, vi 0, .val (.long u1), .second, .unset, .unset, .unset, .unset, .unset, .unset, .unset, .unset, .unset, .unset, .unset, .unset, .unset, .unset, .unset, .unset] (Value.long z :: [])) hu2.symm) ?_
    refine t_lstore (pc' := 23) (L' := #[.val (.long q0), .second, .val (.long q1), .second, vi p2, vi 0, .val (.long u1), .second, .val (.long u2), .second, .unset, .unset, .unset, .unset, .unset, .unset, .unset, .unset, .unset, .unset, .unset, .unset, .unset, .unset]) X2.here hx (hb hby at_21) rfl rfl ?_
    refine t_lloadN 24 X2.here hx (hb hby at_23) rfl rfl ?_
    refine t_iconst 25 (r := 2) X2.here hx (hb hby at_24) (by decide) rfl ?_
    refine st3 _ ?_
    refine castTop (g' := (mkF m 28 #[.val (.long q0), .second, .val (.long q1), .second, vi p2, vi 0, .val (.long u1), .second, .val (.long u2), .second, .unset, .unset, .unset, .unset, .unset, .unset, .unset, .unset, .unset, .unset, .unset, .unset, .unset, .unset] [(.long u3)])) (congrArg (fun z => mkF m 28 #[.val (.long q0), .second, .val (.long q1), .second, vi p2, vi 0, .val (.long u1), .second, .val (.long u2), .second, .unset, .unset, .unset, .unset, .unset, .unset, .unset, .unset, .unset, .unset, .unset, .unset, .unset, .unset] (Value.long z :: [])) hu3.symm) ?_
    refine t_lstore (pc' := 30) (L' := #[.val (.long q0), .second, .val (.long q1), .second, vi p2, vi 0, .val (.long u1), .second, .val (.long u2), .second, .val (.long u3), .second, .unset, .unset, .unset, .unset, .unset, .unset, .unset, .unset, .unset, .unset, .unset, .unset]) X3.here hx (hb hby at_28) rfl rfl ?_
    refine t_lloadN 31 X3.here hx (hb hby at_30) rfl rfl ?_
    refine t_iconst 32 (r := 0) X3.here hx (hb hby at_31) (by decide) rfl ?_
    refine st4 _ ?_
    refine castTop (g' := (mkF m 35 #[.val (.long q0), .second, .val (.long q1), .second, vi p2, vi 0, .val (.long u1), .second, .val (.long u2), .second, .val (.long u3), .second, .unset, .unset, .unset, .unset, .unset, .unset, .unset, .unset, .unset, .unset, .unset, .unset] [(.long u4)])) (congrArg (fun z => mkF m 35 #[.val (.long q0), .second, .val (.long q1), .second, vi p2, vi 0, .val (.long u1), .second, .val (.long u2), .second, .val (.long u3), .second, .unset, .unset, .unset, .unset, .unset, .unset, .unset, .unset, .unset, .unset, .unset, .unset] (Value.long z :: [])) hu4.symm) ?_
    refine t_lstore (pc' := 37) (L' := #[.val (.long q0), .second, .val (.long q1), .second, vi p2, vi 0, .val (.long u1), .second, .val (.long u2), .second, .val (.long u3), .second, .val (.long u4), .second, .unset, .unset, .unset, .unset, .unset, .unset, .unset, .unset, .unset, .unset]) X4.here hx (hb hby at_35) rfl rfl ?_
    refine t_lloadN 38 X4.here hx (hb hby at_37) rfl rfl ?_
    refine t_iconst 39 (r := 1) X4.here hx (hb hby at_38) (by decide) rfl ?_
    refine st5 _ ?_
    refine castTop (g' := (mkF m 42 #[.val (.long q0), .second, .val (.long q1), .second, vi p2, vi 0, .val (.long u1), .second, .val (.long u2), .second, .val (.long u3), .second, .val (.long u4), .second, .unset, .unset, .unset, .unset, .unset, .unset, .unset, .unset, .unset, .unset] [(.long u5)])) (congrArg (fun z => mkF m 42 #[.val (.long q0), .second, .val (.long q1), .second, vi p2, vi 0, .val (.long u1), .second, .val (.long u2), .second, .val (.long u3), .second, .val (.long u4), .second, .unset, .unset, .unset, .unset, .unset, .unset, .unset, .unset, .unset, .unset] (Value.long z :: [])) hu5.symm) ?_
    refine t_lstore (pc' := 44) (L' := #[.val (.long q0), .second, .val (.long q1), .second, vi p2, vi 0, .val (.long u1), .second, .val (.long u2), .second, .val (.long u3), .second, .val (.long u4), .second, .val (.long u5), .second, .unset, .unset, .unset, .unset, .unset, .unset, .unset, .unset]) X5.here hx (hb hby at_42) rfl rfl ?_
    refine t_lloadN 45 X5.here hx (hb hby at_44) rfl rfl ?_
    refine t_iconst 46 (r := 2) X5.here hx (hb hby at_45) (by decide) rfl ?_
    refine st6 _ ?_
    refine castTop (g' := (mkF m 49 #[.val (.long q0), .second, .val (.long q1), .second, vi p2, vi 0, .val (.long u1), .second, .val (.long u2), .second, .val (.long u3), .second, .val (.long u4), .second, .val (.long u5), .second, .unset, .unset, .unset, .unset, .unset, .unset, .unset, .unset] [(.long u6)])) (congrArg (fun z => mkF m 49 #[.val (.long q0), .second, .val (.long q1), .second, vi p2, vi 0, .val (.long u1), .second, .val (.long u2), .second, .val (.long u3), .second, .val (.long u4), .second, .val (.long u5), .second, .unset, .unset, .unset, .unset, .unset, .unset, .unset, .unset] (Value.long z :: [])) hu6.symm) ?_
    refine t_lstore (pc' := 51) (L' := #[.val (.long q0), .second, .val (.long q1), .second, vi p2, vi 0, .val (.long u1), .second, .val (.long u2), .second, .val (.long u3), .second, .val (.long u4), .second, .val (.long u5), .second, .val (.long u6), .second, .unset, .unset, .unset, .unset, .unset, .unset]) X6.here hx (hb hby at_49) rfl rfl ?_
    refine t_iload 53 X6.here hx (hb hby at_51) rfl rfl ?_
    refine st7 _ ?_
    refine t_astore (pc' := 57) (L' := #[.val (.long q0), .second, .val (.long q1), .second, vi p2, vi 0, .val (.long u1), .second, .val (.long u2), .second, .val (.long u3), .second, .val (.long u4), .second, .val (.long u5), .second, .val (.long u6), .second, vr b7, .unset, .unset, .unset, .unset, .unset]) X7.here hx (hb hby at_55) rfl rfl rfl ?_
    refine t_iload 59 X7.here hx (hb hby at_57) rfl rfl ?_
    refine st8 _ ?_
    refine t_astore (pc' := 63) (L' := #[.val (.long q0), .second, .val (.long q1), .second, vi p2, vi 0, .val (.long u1), .second, .val (.long u2), .second, .val (.long u3), .second, .val (.long u4), .second, .val (.long u5), .second, .val (.long u6), .second, vr b7, vr b8, .unset, .unset, .unset, .unset]) X8.here hx (hb hby at_61) rfl rfl rfl ?_
    refine t_lconst 64 (r := (0 : Int64)) X8.here hx (hb hby at_63) (by decide) rfl ?_
    refine t_lstore (pc' := 66) (L' := #[.val (.long q0), .second, .val (.long q1), .second, vi p2, vi 0, .val (.long u1), .second, .val (.long u2), .second, .val (.long u3), .second, .val (.long u4), .second, .val (.long u5), .second, .val (.long u6), .second, vr b7, vr b8, .val (.long (0 : Int64)), .second, .unset, .unset]) X8.here hx (hb hby at_64) rfl rfl ?_
    refine t_iload 68 X8.here hx (hb hby at_66) rfl rfl ?_
    refine t_ifYes (pc := 68) 95 X8.here hx (hb hby at_68) (by decide) (by decide) (by decide) ?_
    refine t_iload 97 X8.here hx (hb hby at_95) rfl rfl ?_
    refine t_iconst 98 (r := 1) X8.here hx (hb hby at_97) (by decide) rfl ?_
    refine t_icmpYes (pc := 98) 125 X8.here hx (hb hby at_98) (by decide) (by decide) (by decide) ?_
    refine t_iload 127 X8.here hx (hb hby at_125) rfl rfl ?_
    refine t_iconst 128 (r := 2) X8.here hx (hb hby at_127) (by decide) rfl ?_
    refine t_icmpYes (pc := 128) 155 X8.here hx (hb hby at_128) (by decide) (by decide) (by decide) ?_
    refine t_aload 157 X8.here hx (hb hby at_155) rfl rfl rfl ?_
    refine t_aload 159 X8.here hx (hb hby at_157) rfl rfl rfl ?_
    refine st9 _ ?_
    refine t_dstore (pc' := 164) (L' := #[.val (.long q0), .second, .val (.long q1), .second, vi p2, vi 0, .val (.long u1), .second, .val (.long u2), .second, .val (.long u3), .second, .val (.long u4), .second, .val (.long u5), .second, .val (.long u6), .second, vr b7, vr b8, .val (.long (0 : Int64)), .second, .val (.double (FP.l2d (0 : Int64))), .second]) X9.here hx (hb hby at_162) rfl rfl ?_
    refine t_dload 166 X9.here hx (hb hby at_164) rfl rfl ?_
    refine t_lload 168 X9.here hx (hb hby at_166) rfl rfl ?_
    refine t_l2d 169 (r := (FP.l2d (0 : Int64))) X9.here hx (hb hby at_168) rfl rfl ?_
    refine t_dcmp 170 (r := 0) X9.here hx (hb hby at_169) (dcmpV_self (Jvm.Free.Fl.l2d_fin _).noNaN _) rfl ?_
    refine t_ifNo 173 X9.here hx (hb hby at_170) (by decide) rfl ?_
    refine t_iconst 174 (r := 1) X9.here hx (hb hby at_173) (by decide) rfl ?_
    refine t_goto (pc := 174) 178 X9.here hx (hb hby at_174) (by decide) (by decide) ?_
    exact retN X9 hx (t := .boolean) hret (by simp) (hb hby at_178) hr
theorem ef_law_1 (q0 q1 : Int64) (p2 : Int32) (m : MethodId) : entryFrame m #[(.long q0), (.long q1), (.int p2)] maxLocals = mkF m 0 #[.val (.long q0), .second, .val (.long q1), .second, .val (.int p2), .unset, .unset, .unset, .unset, .unset, .unset, .unset, .unset, .unset, .unset, .unset, .unset, .unset, .unset, .unset, .unset, .unset, .unset, .unset] [] := by first | (simp [entryFrame, mkF, argsToLocals, Value.category, maxLocals]; done) | rfl
set_option maxRecDepth 65536 in
set_option maxHeartbeats 40000000 in
theorem law_1 (l : Launch) (Z : State) (a0 : Array Value) (hw : HW Z a0) (ws : List Jvm.Cond) (q0 q1 : Int64) (p2 : Int32) (h0 : Heap) (n0 : Nat) (Z0 : n0 ≤ h0.size) (hk : ((p2 &&& (2147483647 : Int32)) - ((p2 &&& (2147483647 : Int32)) / (4 : Int32)) * (4 : Int32)) = (1 : Int32)) :
    MetFree l x (head1 (Jvm.Cond.code x code maxLocals ret :: ws) room_1) (fun a U => a = #[(.long q0), (.long q1), (.int p2)] ∧ Z.Warmed39 U.vm ∧ U.heap = h0) (fun _ _ _ _ _ => True) (fun _ U o U' => ∃ v L, o = .returned v ∧ Q_law n0 v L ∧ FrameEnd U o U' L 16 128) := by
  refine own_law (y := x) (k := 2) (n := 2) (plainFor_of_name pn_DenseVectorsDotPinLaw584) (ef_law_1 q0 q1 p2) (by decide) (by decide) ?_
  intro p e s m below meth c s₁ hx hby hml hown hnm hret hZ hh e0 X0
  have N0 := Fr.nil n0
  obtain ⟨_, T1, L1, X1, hQ1, st1⟩ := own_static X0 hx hZ hown (w1 hw) (w2 hw) (w3 hw) (w4 hw) (by decide) (r_part0 l Z a0 hw [] q0 h0 n0 Z0) e0 (W := 0) (by decide) (g := (mkF m 11 #[.val (.long q0), .second, .val (.long q1), .second, vi p2, vi 1, .unset, .unset, .unset, .unset, .unset, .unset, .unset, .unset, .unset, .unset, .unset, .unset, .unset, .unset, .unset, .unset, .unset, .unset] [z0, (.long q0)])) rfl (by rw [hml]; rfl) (argsL := [(.long q0), z0]) (rest := []) (lenOf pd_0 rfl) rfl rfl (own_wr rfl rfl) (hb hby at_11)
  obtain ⟨rfl, N1q, e1⟩ := hQ1
  have N1 := Fr.app N0 N1q
  obtain ⟨u1, hu1⟩ : ∃ z, z = ((q0 <<< ((43 : Int32) &&& 0x3f).toInt64) >>> ((43 : Int32) &&& 0x3f).toInt64) := ⟨_, rfl⟩
  have hb_u1 : Bd 1048576 u1 := by rw [hu1]; exact own_shr43 _
  obtain ⟨_, T2, L2, X2, hQ2, st2⟩ := own_static X1 hx hZ hown (w1 hw) (w2 hw) (w3 hw) (w4 hw) (by decide) (r_part1 l Z a0 hw [] q0 h0 n0 Z0) e1 (W := 0) (by decide) (g := (mkF m 18 #[.val (.long q0), .second, .val (.long q1), .second, vi p2, vi 1, .val (.long u1), .second, .unset, .unset, .unset, .unset, .unset, .unset, .unset, .unset, .unset, .unset, .unset, .unset, .unset, .unset, .unset, .unset] [(.int 1), (.long q0)])) rfl (by rw [hml]; rfl) (argsL := [(.long q0), (.int 1)]) (rest := []) (lenOf pd_0 rfl) rfl rfl (own_wr rfl rfl) (hb hby at_18)
  obtain ⟨rfl, N2q, e2⟩ := hQ2
  have N2 := Fr.app N1 N2q
  obtain ⟨u2, hu2⟩ : ∃ z, z = ((q0 <<< ((22 : Int32) &&& 0x3f).toInt64) >>> ((43 : Int32) &&& 0x3f).toInt64) := ⟨_, rfl⟩
  have hb_u2 : Bd 1048576 u2 := by rw [hu2]; exact own_shr43 _
  obtain ⟨_, T3, L3, X3, hQ3, st3⟩ := own_static X2 hx hZ hown (w1 hw) (w2 hw) (w3 hw) (w4 hw) (by decide) (r_part2 l Z a0 hw [] q0 h0 n0 Z0) e2 (W := 0) (by decide) (g := (mkF m 25 #[.val (.long q0), .second, .val (.long q1), .second, vi p2, vi 1, .val (.long u1), .second, .val (.long u2), .second, .unset, .unset, .unset, .unset, .unset, .unset, .unset, .unset, .unset, .unset, .unset, .unset, .unset, .unset] [(.int 2), (.long q0)])) rfl (by rw [hml]; rfl) (argsL := [(.long q0), (.int 2)]) (rest := []) (lenOf pd_0 rfl) rfl rfl (own_wr rfl rfl) (hb hby at_25)
  obtain ⟨rfl, N3q, e3⟩ := hQ3
  have N3 := Fr.app N2 N3q
  obtain ⟨u3, hu3⟩ : ∃ z, z = ((q0 <<< ((1 : Int32) &&& 0x3f).toInt64) >>> ((43 : Int32) &&& 0x3f).toInt64) := ⟨_, rfl⟩
  have hb_u3 : Bd 1048576 u3 := by rw [hu3]; exact own_shr43 _
  obtain ⟨_, T4, L4, X4, hQ4, st4⟩ := own_static X3 hx hZ hown (w1 hw) (w2 hw) (w3 hw) (w4 hw) (by decide) (r_part0 l Z a0 hw [] q1 h0 n0 Z0) e3 (W := 0) (by decide) (g := (mkF m 32 #[.val (.long q0), .second, .val (.long q1), .second, vi p2, vi 1, .val (.long u1), .second, .val (.long u2), .second, .val (.long u3), .second, .unset, .unset, .unset, .unset, .unset, .unset, .unset, .unset, .unset, .unset, .unset, .unset] [z0, (.long q1)])) rfl (by rw [hml]; rfl) (argsL := [(.long q1), z0]) (rest := []) (lenOf pd_0 rfl) rfl rfl (own_wr rfl rfl) (hb hby at_32)
  obtain ⟨rfl, N4q, e4⟩ := hQ4
  have N4 := Fr.app N3 N4q
  obtain ⟨u4, hu4⟩ : ∃ z, z = ((q1 <<< ((43 : Int32) &&& 0x3f).toInt64) >>> ((43 : Int32) &&& 0x3f).toInt64) := ⟨_, rfl⟩
  have hb_u4 : Bd 1048576 u4 := by rw [hu4]; exact own_shr43 _
  obtain ⟨_, T5, L5, X5, hQ5, st5⟩ := own_static X4 hx hZ hown (w1 hw) (w2 hw) (w3 hw) (w4 hw) (by decide) (r_part1 l Z a0 hw [] q1 h0 n0 Z0) e4 (W := 0) (by decide) (g := (mkF m 39 #[.val (.long q0), .second, .val (.long q1), .second, vi p2, vi 1, .val (.long u1), .second, .val (.long u2), .second, .val (.long u3), .second, .val (.long u4), .second, .unset, .unset, .unset, .unset, .unset, .unset, .unset, .unset, .unset, .unset] [(.int 1), (.long q1)])) rfl (by rw [hml]; rfl) (argsL := [(.long q1), (.int 1)]) (rest := []) (lenOf pd_0 rfl) rfl rfl (own_wr rfl rfl) (hb hby at_39)
  obtain ⟨rfl, N5q, e5⟩ := hQ5
  have N5 := Fr.app N4 N5q
  obtain ⟨u5, hu5⟩ : ∃ z, z = ((q1 <<< ((22 : Int32) &&& 0x3f).toInt64) >>> ((43 : Int32) &&& 0x3f).toInt64) := ⟨_, rfl⟩
  have hb_u5 : Bd 1048576 u5 := by rw [hu5]; exact own_shr43 _
  obtain ⟨_, T6, L6, X6, hQ6, st6⟩ := own_static X5 hx hZ hown (w1 hw) (w2 hw) (w3 hw) (w4 hw) (by decide) (r_part2 l Z a0 hw [] q1 h0 n0 Z0) e5 (W := 0) (by decide) (g := (mkF m 46 #[.val (.long q0), .second, .val (.long q1), .second, vi p2, vi 1, .val (.long u1), .second, .val (.long u2), .second, .val (.long u3), .second, .val (.long u4), .second, .val (.long u5), .second, .unset, .unset, .unset, .unset, .unset, .unset, .unset, .unset] [(.int 2), (.long q1)])) rfl (by rw [hml]; rfl) (argsL := [(.long q1), (.int 2)]) (rest := []) (lenOf pd_0 rfl) rfl rfl (own_wr rfl rfl) (hb hby at_46)
  obtain ⟨rfl, N6q, e6⟩ := hQ6
  have N6 := Fr.app N5 N6q
  obtain ⟨u6, hu6⟩ : ∃ z, z = ((q1 <<< ((1 : Int32) &&& 0x3f).toInt64) >>> ((43 : Int32) &&& 0x3f).toInt64) := ⟨_, rfl⟩
  have hb_u6 : Bd 1048576 u6 := by rw [hu6]; exact own_shr43 _
  obtain ⟨T7, h7, k7, X7, e7, E7, A7, st7⟩ := newP (aty := .double) X6 hx hZ (w5 hw) e6 (g := (mkF m 53 #[.val (.long q0), .second, .val (.long q1), .second, vi p2, vi 1, .val (.long u1), .second, .val (.long u2), .second, .val (.long u3), .second, .val (.long u4), .second, .val (.long u5), .second, .val (.long u6), .second, .unset, .unset, .unset, .unset, .unset, .unset] [(.int 1)])) rfl (hb hby at_53) rfl (by decide) (cap := 1) (by decide) (by decide) (by decide) (by decide)
  obtain ⟨b7, g7⟩ : ∃ z, z = h0.size := ⟨_, rfl⟩
  rw [← g7] at A7 st7
  have ge_b7 : h0.size ≤ b7 := Nat.le_of_eq g7.symm
  have K7 := KL.ofE E7
  have V7 : Arv Z h7 b7 k7 .double 1 [(.double (FP.l2d (0 : Int64)))] (.double (FP.l2d (0 : Int64))) := (Arv.newD A7 (by decide)).pad (pad_rep [] (.double (FP.l2d (0 : Int64))) 1)
  obtain ⟨T8, h8, k8, X8, e8, E8, A8, st8⟩ := newP (aty := .double) X7 hx hZ (w5 hw) e7 (g := (mkF m 59 #[.val (.long q0), .second, .val (.long q1), .second, vi p2, vi 1, .val (.long u1), .second, .val (.long u2), .second, .val (.long u3), .second, .val (.long u4), .second, .val (.long u5), .second, .val (.long u6), .second, vr b7, .unset, .unset, .unset, .unset, .unset] [(.int 1)])) rfl (hb hby at_59) rfl (by decide) (cap := 1) (by decide) (by decide) (by decide) (by decide)
  obtain ⟨b8, g8⟩ : ∃ z, z = h7.size := ⟨_, rfl⟩
  rw [← g8] at A8 st8
  have ge_b8 : h7.size ≤ b8 := Nat.le_of_eq g8.symm
  have K8 := KL.ofE E8
  have V8 : Arv Z h8 b8 k8 .double 1 [(.double (FP.l2d (0 : Int64)))] (.double (FP.l2d (0 : Int64))) := (Arv.newD A8 (by decide)).pad (pad_rep [] (.double (FP.l2d (0 : Int64))) 1)
  have f9 := (kArv K8 V7 na0)
  obtain ⟨T10, h10, X10, e10, W10, V10, st10⟩ := own_astD X8 hx hZ e8 f9 (j := 0) (by decide) 0 rfl (Nat.le_of_ble_eq_true rfl) (g := (mkF m 77 #[.val (.long q0), .second, .val (.long q1), .second, vi p2, vi 1, .val (.long u1), .second, .val (.long u2), .second, .val (.long u3), .second, .val (.long u4), .second, .val (.long u5), .second, .val (.long u6), .second, vr b7, vr b8, .val (.long (0 : Int64)), .second, .unset, .unset] [(.double (FP.l2d u1)), z0, (.ref b7)])) rfl rfl (hb hby at_77)
  have K10 := KL.ofW W10
  replace V10 : Arv Z h10 b7 k7 .double 1 [(.double (FP.l2d u1))] (.double (FP.l2d (0 : Int64))) := V10
  have N10 := Fr.snoc X10 N6 (Nat.le_trans Z0 (Nat.le_trans (Nat.le_refl _) ge_b7))
  have lt_b7 : b7 < h7.size := Arv.lt V7
  have f11 := (kArv K10 V8 (naN (lt_ne lt_b7 ge_b8) na0))
  obtain ⟨T12, h12, X12, e12, W12, V12, st12⟩ := own_astD X10 hx hZ e10 f11 (j := 0) (by decide) 0 rfl (Nat.le_of_ble_eq_true rfl) (g := (mkF m 84 #[.val (.long q0), .second, .val (.long q1), .second, vi p2, vi 1, .val (.long u1), .second, .val (.long u2), .second, .val (.long u3), .second, .val (.long u4), .second, .val (.long u5), .second, .val (.long u6), .second, vr b7, vr b8, .val (.long (0 : Int64)), .second, .unset, .unset] [(.double (FP.l2d u4)), z0, (.ref b8)])) rfl rfl (hb hby at_84)
  have K12 := KL.ofW W12
  replace V12 : Arv Z h12 b8 k8 .double 1 [(.double (FP.l2d u4))] (.double (FP.l2d (0 : Int64))) := V12
  have N12 := Fr.snoc X12 N10 (Nat.le_trans Z0 (Nat.le_trans K7.1 ge_b8))
  have f14 := (kArv K12 V10 (naN (Ne.symm (lt_ne lt_b7 ge_b8)) na0))
  have sz_0_2 := (Nat.le_trans K7.1 K8.1)
  have sz_0_3 := (Nat.le_trans sz_0_2 K10.1)
  have sz_0_4 := (Nat.le_trans sz_0_3 K12.1)
  obtain ⟨_, T13, L13, X13, hQ13, st13⟩ := own_static X12 hx hZ hown (w6 hw) (w7 hw) (w8 hw) (w9 hw) (by decide) (r_dot1 l Z a0 hw [] u1 u4 b7 b8 k7 k8 h12 n0 (Nat.le_trans Z0 sz_0_4) hb_u1 hb_u4 f14 V12) e12 (W := 0) (by decide) (g := (mkF m 159 #[.val (.long q0), .second, .val (.long q1), .second, vi p2, vi 1, .val (.long u1), .second, .val (.long u2), .second, .val (.long u3), .second, .val (.long u4), .second, .val (.long u5), .second, .val (.long u6), .second, vr b7, vr b8, .val (.long ((0 : Int64) + (u1 * u4))), .second, .unset, .unset] [(.ref b8), (.ref b7)])) rfl (by rw [hml]; rfl) (argsL := [(.ref b7), (.ref b8)]) (rest := []) (lenOf pd_1 rfl) rfl rfl (own_wr rfl rfl) (hb hby at_159)
  obtain ⟨rfl, N13q, e13⟩ := hQ13
  have N13 := Fr.app N12 N13q
  refine ⟨T13, _, some (.int 1), X13, (fun h => by cases h <;> rfl), ?_, fun fs hr => ?_⟩
  · show Q_law n0 _ _
    exact ⟨rfl, N13⟩
  · refine t_iload 2 X0.here hx (hb hby at_0) rfl rfl ?_
    refine X0.ldcInt hx hown (mvT hZ (w0 hw)) (g := (mkF m 2 #[.val (.long q0), .second, .val (.long q1), .second, vi p2, .unset, .unset, .unset, .unset, .unset, .unset, .unset, .unset, .unset, .unset, .unset, .unset, .unset, .unset, .unset, .unset, .unset, .unset, .unset] [(.int p2)])) rfl (hb hby at_2) _ ?_
    refine t_iand 5 X0.here hx (hb hby at_4) rfl rfl ?_
    refine t_iconst 6 (r := 4) X0.here hx (hb hby at_5) (by decide) rfl ?_
    refine t_irem 7 (r := 1) X0.here hx (hb hby at_6) (by decide) hk rfl ?_
    refine t_istore (pc' := 9) (L' := #[.val (.long q0), .second, .val (.long q1), .second, vi p2, vi 1, .unset, .unset, .unset, .unset, .unset, .unset, .unset, .unset, .unset, .unset, .unset, .unset, .unset, .unset, .unset, .unset, .unset, .unset]) X0.here hx (hb hby at_7) rfl rfl ?_
    refine t_lloadN 10 X0.here hx (hb hby at_9) rfl rfl ?_
    refine t_iconst 11 (r := 0) X0.here hx (hb hby at_10) (by decide) rfl ?_
    refine st1 _ ?_
    refine castTop (g' := (mkF m 14 #[.val (.long q0), .second, .val (.long q1), .second, vi p2, vi 1, .unset, .unset, .unset, .unset, .unset, .unset, .unset, .unset, .unset, .unset, .unset, .unset, .unset, .unset, .unset, .unset, .unset, .unset] [(.long u1)])) (congrArg (fun z => mkF m 14 #[.val (.long q0), .second, .val (.long q1), .second, vi p2, vi 1, .unset, .unset, .unset, .unset, .unset, .unset, .unset, .unset, .unset, .unset, .unset, .unset, .unset, .unset, .unset, .unset, .unset, .unset] (Value.long z :: [])) hu1.symm) ?_
    refine t_lstore (pc' := 16) (L' := #[.val (.long q0), .second, .val (.long q1), .second, vi p2, vi 1, .val (.long u1), .second, .unset, .unset, .unset, .unset, .unset, .unset, .unset, .unset, .unset, .unset, .unset, .unset, .unset, .unset, .unset, .unset]) X1.here hx (hb hby at_14) rfl rfl ?_
    refine t_lloadN 17 X1.here hx (hb hby at_16) rfl rfl ?_
    refine t_iconst 18 (r := 1) X1.here hx (hb hby at_17) (by decide) rfl ?_
    refine st2 _ ?_
    refine castTop (g' := (mkF m 21 #[.val (.long q0), .second, .val (.long q1), .second, vi p2, vi 1, .val (.long u1), .second, .unset, .unset, .unset, .unset, .unset, .unset, .unset, .unset, .unset, .unset, .unset, .unset, .unset, .unset, .unset, .unset] [(.long u2)])) (congrArg (fun z => mkF m 21 #[.val (.long q0), .second, .val (.long q1), .second, vi p2, vi 1, .val (.long u1), .second, .unset, .unset, .unset, .unset, .unset, .unset, .unset, .unset, .unset, .unset, .unset, .unset, .unset, .unset, .unset, .unset] (Value.long z :: [])) hu2.symm) ?_
    refine t_lstore (pc' := 23) (L' := #[.val (.long q0), .second, .val (.long q1), .second, vi p2, vi 1, .val (.long u1), .second, .val (.long u2), .second, .unset, .unset, .unset, .unset, .unset, .unset, .unset, .unset, .unset, .unset, .unset, .unset, .unset, .unset]) X2.here hx (hb hby at_21) rfl rfl ?_
    refine t_lloadN 24 X2.here hx (hb hby at_23) rfl rfl ?_
    refine t_iconst 25 (r := 2) X2.here hx (hb hby at_24) (by decide) rfl ?_
    refine st3 _ ?_
    refine castTop (g' := (mkF m 28 #[.val (.long q0), .second, .val (.long q1), .second, vi p2, vi 1, .val (.long u1), .second, .val (.long u2), .second, .unset, .unset, .unset, .unset, .unset, .unset, .unset, .unset, .unset, .unset, .unset, .unset, .unset, .unset] [(.long u3)])) (congrArg (fun z => mkF m 28 #[.val (.long q0), .second, .val (.long q1), .second, vi p2, vi 1, .val (.long u1), .second, .val (.long u2), .second, .unset, .unset, .unset, .unset, .unset, .unset, .unset, .unset, .unset, .unset, .unset, .unset, .unset, .unset] (Value.long z :: [])) hu3.symm) ?_
    refine t_lstore (pc' := 30) (L' := #[.val (.long q0), .second, .val (.long q1), .second, vi p2, vi 1, .val (.long u1), .second, .val (.long u2), .second, .val (.long u3), .second, .unset, .unset, .unset, .unset, .unset, .unset, .unset, .unset, .unset, .unset, .unset, .unset]) X3.here hx (hb hby at_28) rfl rfl ?_
    refine t_lloadN 31 X3.here hx (hb hby at_30) rfl rfl ?_
    refine t_iconst 32 (r := 0) X3.here hx (hb hby at_31) (by decide) rfl ?_
    refine st4 _ ?_
    refine castTop (g' := (mkF m 35 #[.val (.long q0), .second, .val (.long q1), .second, vi p2, vi 1, .val (.long u1), .second, .val (.long u2), .second, .val (.long u3), .second, .unset, .unset, .unset, .unset, .unset, .unset, .unset, .unset, .unset, .unset, .unset, .unset] [(.long u4)])) (congrArg (fun z => mkF m 35 #[.val (.long q0), .second, .val (.long q1), .second, vi p2, vi 1, .val (.long u1), .second, .val (.long u2), .second, .val (.long u3), .second, .unset, .unset, .unset, .unset, .unset, .unset, .unset, .unset, .unset, .unset, .unset, .unset] (Value.long z :: [])) hu4.symm) ?_
    refine t_lstore (pc' := 37) (L' := #[.val (.long q0), .second, .val (.long q1), .second, vi p2, vi 1, .val (.long u1), .second, .val (.long u2), .second, .val (.long u3), .second, .val (.long u4), .second, .unset, .unset, .unset, .unset, .unset, .unset, .unset, .unset, .unset, .unset]) X4.here hx (hb hby at_35) rfl rfl ?_
    refine t_lloadN 38 X4.here hx (hb hby at_37) rfl rfl ?_
    refine t_iconst 39 (r := 1) X4.here hx (hb hby at_38) (by decide) rfl ?_
    refine st5 _ ?_
    refine castTop (g' := (mkF m 42 #[.val (.long q0), .second, .val (.long q1), .second, vi p2, vi 1, .val (.long u1), .second, .val (.long u2), .second, .val (.long u3), .second, .val (.long u4), .second, .unset, .unset, .unset, .unset, .unset, .unset, .unset, .unset, .unset, .unset] [(.long u5)])) (congrArg (fun z => mkF m 42 #[.val (.long q0), .second, .val (.long q1), .second, vi p2, vi 1, .val (.long u1), .second, .val (.long u2), .second, .val (.long u3), .second, .val (.long u4), .second, .unset, .unset, .unset, .unset, .unset, .unset, .unset, .unset, .unset, .unset] (Value.long z :: [])) hu5.symm) ?_
    refine t_lstore (pc' := 44) (L' := #[.val (.long q0), .second, .val (.long q1), .second, vi p2, vi 1, .val (.long u1), .second, .val (.long u2), .second, .val (.long u3), .second, .val (.long u4), .second, .val (.long u5), .second, .unset, .unset, .unset, .unset, .unset, .unset, .unset, .unset]) X5.here hx (hb hby at_42) rfl rfl ?_
    refine t_lloadN 45 X5.here hx (hb hby at_44) rfl rfl ?_
    refine t_iconst 46 (r := 2) X5.here hx (hb hby at_45) (by decide) rfl ?_
    refine st6 _ ?_
    refine castTop (g' := (mkF m 49 #[.val (.long q0), .second, .val (.long q1), .second, vi p2, vi 1, .val (.long u1), .second, .val (.long u2), .second, .val (.long u3), .second, .val (.long u4), .second, .val (.long u5), .second, .unset, .unset, .unset, .unset, .unset, .unset, .unset, .unset] [(.long u6)])) (congrArg (fun z => mkF m 49 #[.val (.long q0), .second, .val (.long q1), .second, vi p2, vi 1, .val (.long u1), .second, .val (.long u2), .second, .val (.long u3), .second, .val (.long u4), .second, .val (.long u5), .second, .unset, .unset, .unset, .unset, .unset, .unset, .unset, .unset] (Value.long z :: [])) hu6.symm) ?_
    refine t_lstore (pc' := 51) (L' := #[.val (.long q0), .second, .val (.long q1), .second, vi p2, vi 1, .val (.long u1), .second, .val (.long u2), .second, .val (.long u3), .second, .val (.long u4), .second, .val (.long u5), .second, .val (.long u6), .second, .unset, .unset, .unset, .unset, .unset, .unset]) X6.here hx (hb hby at_49) rfl rfl ?_
    refine t_iload 53 X6.here hx (hb hby at_51) rfl rfl ?_
    refine st7 _ ?_
    refine t_astore (pc' := 57) (L' := #[.val (.long q0), .second, .val (.long q1), .second, vi p2, vi 1, .val (.long u1), .second, .val (.long u2), .second, .val (.long u3), .second, .val (.long u4), .second, .val (.long u5), .second, .val (.long u6), .second, vr b7, .unset, .unset, .unset, .unset, .unset]) X7.here hx (hb hby at_55) rfl rfl rfl ?_
    refine t_iload 59 X7.here hx (hb hby at_57) rfl rfl ?_
    refine st8 _ ?_
    refine t_astore (pc' := 63) (L' := #[.val (.long q0), .second, .val (.long q1), .second, vi p2, vi 1, .val (.long u1), .second, .val (.long u2), .second, .val (.long u3), .second, .val (.long u4), .second, .val (.long u5), .second, .val (.long u6), .second, vr b7, vr b8, .unset, .unset, .unset, .unset]) X8.here hx (hb hby at_61) rfl rfl rfl ?_
    refine t_lconst 64 (r := (0 : Int64)) X8.here hx (hb hby at_63) (by decide) rfl ?_
    refine t_lstore (pc' := 66) (L' := #[.val (.long q0), .second, .val (.long q1), .second, vi p2, vi 1, .val (.long u1), .second, .val (.long u2), .second, .val (.long u3), .second, .val (.long u4), .second, .val (.long u5), .second, .val (.long u6), .second, vr b7, vr b8, .val (.long (0 : Int64)), .second, .unset, .unset]) X8.here hx (hb hby at_64) rfl rfl ?_
    refine t_iload 68 X8.here hx (hb hby at_66) rfl rfl ?_
    refine t_ifNo 71 X8.here hx (hb hby at_68) (by decide) rfl ?_
    refine t_aload 73 X8.here hx (hb hby at_71) rfl rfl rfl ?_
    refine t_iconst 74 (r := 0) X8.here hx (hb hby at_73) (by decide) rfl ?_
    refine t_lload 76 X8.here hx (hb hby at_74) rfl rfl ?_
    refine t_l2d 77 (r := (FP.l2d u1)) X8.here hx (hb hby at_76) rfl rfl ?_
    refine st10 _ ?_
    refine t_aload 80 X10.here hx (hb hby at_78) rfl rfl rfl ?_
    refine t_iconst 81 (r := 0) X10.here hx (hb hby at_80) (by decide) rfl ?_
    refine t_lload 83 X10.here hx (hb hby at_81) rfl rfl ?_
    refine t_l2d 84 (r := (FP.l2d u4)) X10.here hx (hb hby at_83) rfl rfl ?_
    refine st12 _ ?_
    refine t_lload 87 X12.here hx (hb hby at_85) rfl rfl ?_
    refine t_lload 89 X12.here hx (hb hby at_87) rfl rfl ?_
    refine t_lload 91 X12.here hx (hb hby at_89) rfl rfl ?_
    refine t_lmul 92 X12.here hx (hb hby at_91) rfl rfl ?_
    refine t_ladd 93 X12.here hx (hb hby at_92) rfl rfl ?_
    refine t_lstore (pc' := 95) (L' := #[.val (.long q0), .second, .val (.long q1), .second, vi p2, vi 1, .val (.long u1), .second, .val (.long u2), .second, .val (.long u3), .second, .val (.long u4), .second, .val (.long u5), .second, .val (.long u6), .second, vr b7, vr b8, .val (.long ((0 : Int64) + (u1 * u4))), .second, .unset, .unset]) X12.here hx (hb hby at_93) rfl rfl ?_
    refine t_iload 97 X12.here hx (hb hby at_95) rfl rfl ?_
    refine t_iconst 98 (r := 1) X12.here hx (hb hby at_97) (by decide) rfl ?_
    refine t_icmpYes (pc := 98) 125 X12.here hx (hb hby at_98) (by decide) (by decide) (by decide) ?_
    refine t_iload 127 X12.here hx (hb hby at_125) rfl rfl ?_
    refine t_iconst 128 (r := 2) X12.here hx (hb hby at_127) (by decide) rfl ?_
    refine t_icmpYes (pc := 128) 155 X12.here hx (hb hby at_128) (by decide) (by decide) (by decide) ?_
    refine t_aload 157 X12.here hx (hb hby at_155) rfl rfl rfl ?_
    refine t_aload 159 X12.here hx (hb hby at_157) rfl rfl rfl ?_
    refine st13 _ ?_
    refine t_dstore (pc' := 164) (L' := #[.val (.long q0), .second, .val (.long q1), .second, vi p2, vi 1, .val (.long u1), .second, .val (.long u2), .second, .val (.long u3), .second, .val (.long u4), .second, .val (.long u5), .second, .val (.long u6), .second, vr b7, vr b8, .val (.long ((0 : Int64) + (u1 * u4))), .second, .val (.double (FP.l2d ((0 : Int64) + (u1 * u4)))), .second]) X13.here hx (hb hby at_162) rfl rfl ?_
    refine t_dload 166 X13.here hx (hb hby at_164) rfl rfl ?_
    refine t_lload 168 X13.here hx (hb hby at_166) rfl rfl ?_
    refine t_l2d 169 (r := (FP.l2d ((0 : Int64) + (u1 * u4)))) X13.here hx (hb hby at_168) rfl rfl ?_
    refine t_dcmp 170 (r := 0) X13.here hx (hb hby at_169) (dcmpV_self (Jvm.Free.Fl.l2d_fin _).noNaN _) rfl ?_
    refine t_ifNo 173 X13.here hx (hb hby at_170) (by decide) rfl ?_
    refine t_iconst 174 (r := 1) X13.here hx (hb hby at_173) (by decide) rfl ?_
    refine t_goto (pc := 174) 178 X13.here hx (hb hby at_174) (by decide) (by decide) ?_
    exact retN X13 hx (t := .boolean) hret (by simp) (hb hby at_178) hr
theorem ef_law_2 (q0 q1 : Int64) (p2 : Int32) (m : MethodId) : entryFrame m #[(.long q0), (.long q1), (.int p2)] maxLocals = mkF m 0 #[.val (.long q0), .second, .val (.long q1), .second, .val (.int p2), .unset, .unset, .unset, .unset, .unset, .unset, .unset, .unset, .unset, .unset, .unset, .unset, .unset, .unset, .unset, .unset, .unset, .unset, .unset] [] := by first | (simp [entryFrame, mkF, argsToLocals, Value.category, maxLocals]; done) | rfl
set_option maxRecDepth 65536 in
set_option maxHeartbeats 40000000 in
theorem law_2 (l : Launch) (Z : State) (a0 : Array Value) (hw : HW Z a0) (ws : List Jvm.Cond) (q0 q1 : Int64) (p2 : Int32) (h0 : Heap) (n0 : Nat) (Z0 : n0 ≤ h0.size) (hk : ((p2 &&& (2147483647 : Int32)) - ((p2 &&& (2147483647 : Int32)) / (4 : Int32)) * (4 : Int32)) = (2 : Int32)) :
    MetFree l x (head1 (Jvm.Cond.code x code maxLocals ret :: ws) room_1) (fun a U => a = #[(.long q0), (.long q1), (.int p2)] ∧ Z.Warmed39 U.vm ∧ U.heap = h0) (fun _ _ _ _ _ => True) (fun _ U o U' => ∃ v L, o = .returned v ∧ Q_law n0 v L ∧ FrameEnd U o U' L 16 128) := by
  refine own_law (y := x) (k := 2) (n := 4) (plainFor_of_name pn_DenseVectorsDotPinLaw584) (ef_law_2 q0 q1 p2) (by decide) (by decide) ?_
  intro p e s m below meth c s₁ hx hby hml hown hnm hret hZ hh e0 X0
  have N0 := Fr.nil n0
  obtain ⟨_, T1, L1, X1, hQ1, st1⟩ := own_static X0 hx hZ hown (w1 hw) (w2 hw) (w3 hw) (w4 hw) (by decide) (r_part0 l Z a0 hw [] q0 h0 n0 Z0) e0 (W := 0) (by decide) (g := (mkF m 11 #[.val (.long q0), .second, .val (.long q1), .second, vi p2, vi 2, .unset, .unset, .unset, .unset, .unset, .unset, .unset, .unset, .unset, .unset, .unset, .unset, .unset, .unset, .unset, .unset, .unset, .unset] [z0, (.long q0)])) rfl (by rw [hml]; rfl) (argsL := [(.long q0), z0]) (rest := []) (lenOf pd_0 rfl) rfl rfl (own_wr rfl rfl) (hb hby at_11)
  obtain ⟨rfl, N1q, e1⟩ := hQ1
  have N1 := Fr.app N0 N1q
  obtain ⟨u1, hu1⟩ : ∃ z, z = ((q0 <<< ((43 : Int32) &&& 0x3f).toInt64) >>> ((43 : Int32) &&& 0x3f).toInt64) := ⟨_, rfl⟩
  have hb_u1 : Bd 1048576 u1 := by rw [hu1]; exact own_shr43 _
  obtain ⟨_, T2, L2, X2, hQ2, st2⟩ := own_static X1 hx hZ hown (w1 hw) (w2 hw) (w3 hw) (w4 hw) (by decide) (r_part1 l Z a0 hw [] q0 h0 n0 Z0) e1 (W := 0) (by decide) (g := (mkF m 18 #[.val (.long q0), .second, .val (.long q1), .second, vi p2, vi 2, .val (.long u1), .second, .unset, .unset, .unset, .unset, .unset, .unset, .unset, .unset, .unset, .unset, .unset, .unset, .unset, .unset, .unset, .unset] [(.int 1), (.long q0)])) rfl (by rw [hml]; rfl) (argsL := [(.long q0), (.int 1)]) (rest := []) (lenOf pd_0 rfl) rfl rfl (own_wr rfl rfl) (hb hby at_18)
  obtain ⟨rfl, N2q, e2⟩ := hQ2
  have N2 := Fr.app N1 N2q
  obtain ⟨u2, hu2⟩ : ∃ z, z = ((q0 <<< ((22 : Int32) &&& 0x3f).toInt64) >>> ((43 : Int32) &&& 0x3f).toInt64) := ⟨_, rfl⟩
  have hb_u2 : Bd 1048576 u2 := by rw [hu2]; exact own_shr43 _
  obtain ⟨_, T3, L3, X3, hQ3, st3⟩ := own_static X2 hx hZ hown (w1 hw) (w2 hw) (w3 hw) (w4 hw) (by decide) (r_part2 l Z a0 hw [] q0 h0 n0 Z0) e2 (W := 0) (by decide) (g := (mkF m 25 #[.val (.long q0), .second, .val (.long q1), .second, vi p2, vi 2, .val (.long u1), .second, .val (.long u2), .second, .unset, .unset, .unset, .unset, .unset, .unset, .unset, .unset, .unset, .unset, .unset, .unset, .unset, .unset] [(.int 2), (.long q0)])) rfl (by rw [hml]; rfl) (argsL := [(.long q0), (.int 2)]) (rest := []) (lenOf pd_0 rfl) rfl rfl (own_wr rfl rfl) (hb hby at_25)
  obtain ⟨rfl, N3q, e3⟩ := hQ3
  have N3 := Fr.app N2 N3q
  obtain ⟨u3, hu3⟩ : ∃ z, z = ((q0 <<< ((1 : Int32) &&& 0x3f).toInt64) >>> ((43 : Int32) &&& 0x3f).toInt64) := ⟨_, rfl⟩
  have hb_u3 : Bd 1048576 u3 := by rw [hu3]; exact own_shr43 _
  obtain ⟨_, T4, L4, X4, hQ4, st4⟩ := own_static X3 hx hZ hown (w1 hw) (w2 hw) (w3 hw) (w4 hw) (by decide) (r_part0 l Z a0 hw [] q1 h0 n0 Z0) e3 (W := 0) (by decide) (g := (mkF m 32 #[.val (.long q0), .second, .val (.long q1), .second, vi p2, vi 2, .val (.long u1), .second, .val (.long u2), .second, .val (.long u3), .second, .unset, .unset, .unset, .unset, .unset, .unset, .unset, .unset, .unset, .unset, .unset, .unset] [z0, (.long q1)])) rfl (by rw [hml]; rfl) (argsL := [(.long q1), z0]) (rest := []) (lenOf pd_0 rfl) rfl rfl (own_wr rfl rfl) (hb hby at_32)
  obtain ⟨rfl, N4q, e4⟩ := hQ4
  have N4 := Fr.app N3 N4q
  obtain ⟨u4, hu4⟩ : ∃ z, z = ((q1 <<< ((43 : Int32) &&& 0x3f).toInt64) >>> ((43 : Int32) &&& 0x3f).toInt64) := ⟨_, rfl⟩
  have hb_u4 : Bd 1048576 u4 := by rw [hu4]; exact own_shr43 _
  obtain ⟨_, T5, L5, X5, hQ5, st5⟩ := own_static X4 hx hZ hown (w1 hw) (w2 hw) (w3 hw) (w4 hw) (by decide) (r_part1 l Z a0 hw [] q1 h0 n0 Z0) e4 (W := 0) (by decide) (g := (mkF m 39 #[.val (.long q0), .second, .val (.long q1), .second, vi p2, vi 2, .val (.long u1), .second, .val (.long u2), .second, .val (.long u3), .second, .val (.long u4), .second, .unset, .unset, .unset, .unset, .unset, .unset, .unset, .unset, .unset, .unset] [(.int 1), (.long q1)])) rfl (by rw [hml]; rfl) (argsL := [(.long q1), (.int 1)]) (rest := []) (lenOf pd_0 rfl) rfl rfl (own_wr rfl rfl) (hb hby at_39)
  obtain ⟨rfl, N5q, e5⟩ := hQ5
  have N5 := Fr.app N4 N5q
  obtain ⟨u5, hu5⟩ : ∃ z, z = ((q1 <<< ((22 : Int32) &&& 0x3f).toInt64) >>> ((43 : Int32) &&& 0x3f).toInt64) := ⟨_, rfl⟩
  have hb_u5 : Bd 1048576 u5 := by rw [hu5]; exact own_shr43 _
  obtain ⟨_, T6, L6, X6, hQ6, st6⟩ := own_static X5 hx hZ hown (w1 hw) (w2 hw) (w3 hw) (w4 hw) (by decide) (r_part2 l Z a0 hw [] q1 h0 n0 Z0) e5 (W := 0) (by decide) (g := (mkF m 46 #[.val (.long q0), .second, .val (.long q1), .second, vi p2, vi 2, .val (.long u1), .second, .val (.long u2), .second, .val (.long u3), .second, .val (.long u4), .second, .val (.long u5), .second, .unset, .unset, .unset, .unset, .unset, .unset, .unset, .unset] [(.int 2), (.long q1)])) rfl (by rw [hml]; rfl) (argsL := [(.long q1), (.int 2)]) (rest := []) (lenOf pd_0 rfl) rfl rfl (own_wr rfl rfl) (hb hby at_46)
  obtain ⟨rfl, N6q, e6⟩ := hQ6
  have N6 := Fr.app N5 N6q
  obtain ⟨u6, hu6⟩ : ∃ z, z = ((q1 <<< ((1 : Int32) &&& 0x3f).toInt64) >>> ((43 : Int32) &&& 0x3f).toInt64) := ⟨_, rfl⟩
  have hb_u6 : Bd 1048576 u6 := by rw [hu6]; exact own_shr43 _
  obtain ⟨T7, h7, k7, X7, e7, E7, A7, st7⟩ := newP (aty := .double) X6 hx hZ (w5 hw) e6 (g := (mkF m 53 #[.val (.long q0), .second, .val (.long q1), .second, vi p2, vi 2, .val (.long u1), .second, .val (.long u2), .second, .val (.long u3), .second, .val (.long u4), .second, .val (.long u5), .second, .val (.long u6), .second, .unset, .unset, .unset, .unset, .unset, .unset] [(.int 2)])) rfl (hb hby at_53) rfl (by decide) (cap := 2) (by decide) (by decide) (by decide) (by decide)
  obtain ⟨b7, g7⟩ : ∃ z, z = h0.size := ⟨_, rfl⟩
  rw [← g7] at A7 st7
  have ge_b7 : h0.size ≤ b7 := Nat.le_of_eq g7.symm
  have K7 := KL.ofE E7
  have V7 : Arv Z h7 b7 k7 .double 2 [(.double (FP.l2d (0 : Int64))), (.double (FP.l2d (0 : Int64)))] (.double (FP.l2d (0 : Int64))) := (Arv.newD A7 (by decide)).pad (pad_rep [] (.double (FP.l2d (0 : Int64))) 2)
  obtain ⟨T8, h8, k8, X8, e8, E8, A8, st8⟩ := newP (aty := .double) X7 hx hZ (w5 hw) e7 (g := (mkF m 59 #[.val (.long q0), .second, .val (.long q1), .second, vi p2, vi 2, .val (.long u1), .second, .val (.long u2), .second, .val (.long u3), .second, .val (.long u4), .second, .val (.long u5), .second, .val (.long u6), .second, vr b7, .unset, .unset, .unset, .unset, .unset] [(.int 2)])) rfl (hb hby at_59) rfl (by decide) (cap := 2) (by decide) (by decide) (by decide) (by decide)
  obtain ⟨b8, g8⟩ : ∃ z, z = h7.size := ⟨_, rfl⟩
  rw [← g8] at A8 st8
  have ge_b8 : h7.size ≤ b8 := Nat.le_of_eq g8.symm
  have K8 := KL.ofE E8
  have V8 : Arv Z h8 b8 k8 .double 2 [(.double (FP.l2d (0 : Int64))), (.double (FP.l2d (0 : Int64)))] (.double (FP.l2d (0 : Int64))) := (Arv.newD A8 (by decide)).pad (pad_rep [] (.double (FP.l2d (0 : Int64))) 2)
  have f9 := (kArv K8 V7 na0)
  obtain ⟨T10, h10, X10, e10, W10, V10, st10⟩ := own_astD X8 hx hZ e8 f9 (j := 0) (by decide) 0 rfl (Nat.le_of_ble_eq_true rfl) (g := (mkF m 77 #[.val (.long q0), .second, .val (.long q1), .second, vi p2, vi 2, .val (.long u1), .second, .val (.long u2), .second, .val (.long u3), .second, .val (.long u4), .second, .val (.long u5), .second, .val (.long u6), .second, vr b7, vr b8, .val (.long (0 : Int64)), .second, .unset, .unset] [(.double (FP.l2d u1)), z0, (.ref b7)])) rfl rfl (hb hby at_77)
  have K10 := KL.ofW W10
  replace V10 : Arv Z h10 b7 k7 .double 2 [(.double (FP.l2d u1)), (.double (FP.l2d (0 : Int64)))] (.double (FP.l2d (0 : Int64))) := V10
  have N10 := Fr.snoc X10 N6 (Nat.le_trans Z0 (Nat.le_trans (Nat.le_refl _) ge_b7))
  have lt_b7 : b7 < h7.size := Arv.lt V7
  have f11 := (kArv K10 V8 (naN (lt_ne lt_b7 ge_b8) na0))
  obtain ⟨T12, h12, X12, e12, W12, V12, st12⟩ := own_astD X10 hx hZ e10 f11 (j := 0) (by decide) 0 rfl (Nat.le_of_ble_eq_true rfl) (g := (mkF m 84 #[.val (.long q0), .second, .val (.long q1), .second, vi p2, vi 2, .val (.long u1), .second, .val (.long u2), .second, .val (.long u3), .second, .val (.long u4), .second, .val (.long u5), .second, .val (.long u6), .second, vr b7, vr b8, .val (.long (0 : Int64)), .second, .unset, .unset] [(.double (FP.l2d u4)), z0, (.ref b8)])) rfl rfl (hb hby at_84)
  have K12 := KL.ofW W12
  replace V12 : Arv Z h12 b8 k8 .double 2 [(.double (FP.l2d u4)), (.double (FP.l2d (0 : Int64)))] (.double (FP.l2d (0 : Int64))) := V12
  have N12 := Fr.snoc X12 N10 (Nat.le_trans Z0 (Nat.le_trans K7.1 ge_b8))
  have f13 := (kArv K12 V10 (naN (Ne.symm (lt_ne lt_b7 ge_b8)) na0))
  obtain ⟨T14, h14, X14, e14, W14, V14, st14⟩ := own_astD X12 hx hZ e12 f13 (j := 1) (by decide) 1 rfl (Nat.le_of_ble_eq_true rfl) (g := (mkF m 107 #[.val (.long q0), .second, .val (.long q1), .second, vi p2, vi 2, .val (.long u1), .second, .val (.long u2), .second, .val (.long u3), .second, .val (.long u4), .second, .val (.long u5), .second, .val (.long u6), .second, vr b7, vr b8, .val (.long ((0 : Int64) + (u1 * u4))), .second, .unset, .unset] [(.double (FP.l2d u2)), (.int 1), (.ref b7)])) rfl rfl (hb hby at_107)
  have K14 := KL.ofW W14
  replace V14 : Arv Z h14 b7 k7 .double 2 [(.double (FP.l2d u1)), (.double (FP.l2d u2))] (.double (FP.l2d (0 : Int64))) := V14
  have N14 := Fr.snoc X14 N12 (Nat.le_trans Z0 (Nat.le_trans (Nat.le_refl _) ge_b7))
  have f15 := (kArv K14 V12 (naN (lt_ne lt_b7 ge_b8) na0))
  obtain ⟨T16, h16, X16, e16, W16, V16, st16⟩ := own_astD X14 hx hZ e14 f15 (j := 1) (by decide) 1 rfl (Nat.le_of_ble_eq_true rfl) (g := (mkF m 114 #[.val (.long q0), .second, .val (.long q1), .second, vi p2, vi 2, .val (.long u1), .second, .val (.long u2), .second, .val (.long u3), .second, .val (.long u4), .second, .val (.long u5), .second, .val (.long u6), .second, vr b7, vr b8, .val (.long ((0 : Int64) + (u1 * u4))), .second, .unset, .unset] [(.double (FP.l2d u5)), (.int 1), (.ref b8)])) rfl rfl (hb hby at_114)
  have K16 := KL.ofW W16
  replace V16 : Arv Z h16 b8 k8 .double 2 [(.double (FP.l2d u4)), (.double (FP.l2d u5))] (.double (FP.l2d (0 : Int64))) := V16
  have N16 := Fr.snoc X16 N14 (Nat.le_trans Z0 (Nat.le_trans K7.1 ge_b8))
  have f18 := (kArv K16 V14 (naN (Ne.symm (lt_ne lt_b7 ge_b8)) na0))
  have sz_0_2 := (Nat.le_trans K7.1 K8.1)
  have sz_0_3 := (Nat.le_trans sz_0_2 K10.1)
  have sz_0_4 := (Nat.le_trans sz_0_3 K12.1)
  have sz_0_5 := (Nat.le_trans sz_0_4 K14.1)
  have sz_0_6 := (Nat.le_trans sz_0_5 K16.1)
  obtain ⟨_, T17, L17, X17, hQ17, st17⟩ := own_static X16 hx hZ hown (w6 hw) (w7 hw) (w8 hw) (w9 hw) (by decide) (r_dot2 l Z a0 hw [] u1 u2 u4 u5 b7 b8 k7 k8 h16 n0 (Nat.le_trans Z0 sz_0_6) hb_u1 hb_u2 hb_u4 hb_u5 f18 V16) e16 (W := 0) (by decide) (g := (mkF m 159 #[.val (.long q0), .second, .val (.long q1), .second, vi p2, vi 2, .val (.long u1), .second, .val (.long u2), .second, .val (.long u3), .second, .val (.long u4), .second, .val (.long u5), .second, .val (.long u6), .second, vr b7, vr b8, .val (.long (((0 : Int64) + (u1 * u4)) + (u2 * u5))), .second, .unset, .unset] [(.ref b8), (.ref b7)])) rfl (by rw [hml]; rfl) (argsL := [(.ref b7), (.ref b8)]) (rest := []) (lenOf pd_1 rfl) rfl rfl (own_wr rfl rfl) (hb hby at_159)
  obtain ⟨rfl, N17q, e17⟩ := hQ17
  have N17 := Fr.app N16 N17q
  refine ⟨T17, _, some (.int 1), X17, (fun h => by cases h <;> rfl), ?_, fun fs hr => ?_⟩
  · show Q_law n0 _ _
    exact ⟨rfl, N17⟩
  · refine t_iload 2 X0.here hx (hb hby at_0) rfl rfl ?_
    refine X0.ldcInt hx hown (mvT hZ (w0 hw)) (g := (mkF m 2 #[.val (.long q0), .second, .val (.long q1), .second, vi p2, .unset, .unset, .unset, .unset, .unset, .unset, .unset, .unset, .unset, .unset, .unset, .unset, .unset, .unset, .unset, .unset, .unset, .unset, .unset] [(.int p2)])) rfl (hb hby at_2) _ ?_
    refine t_iand 5 X0.here hx (hb hby at_4) rfl rfl ?_
    refine t_iconst 6 (r := 4) X0.here hx (hb hby at_5) (by decide) rfl ?_
    refine t_irem 7 (r := 2) X0.here hx (hb hby at_6) (by decide) hk rfl ?_
    refine t_istore (pc' := 9) (L' := #[.val (.long q0), .second, .val (.long q1), .second, vi p2, vi 2, .unset, .unset, .unset, .unset, .unset, .unset, .unset, .unset, .unset, .unset, .unset, .unset, .unset, .unset, .unset, .unset, .unset, .unset]) X0.here hx (hb hby at_7) rfl rfl ?_
    refine t_lloadN 10 X0.here hx (hb hby at_9) rfl rfl ?_
    refine t_iconst 11 (r := 0) X0.here hx (hb hby at_10) (by decide) rfl ?_
    refine st1 _ ?_
    refine castTop (g' := (mkF m 14 #[.val (.long q0), .second, .val (.long q1), .second, vi p2, vi 2, .unset, .unset, .unset, .unset, .unset, .unset, .unset, .unset, .unset, .unset, .unset, .unset, .unset, .unset, .unset, .unset, .unset, .unset] [(.long u1)])) (congrArg (fun z => mkF m 14 #[.val (.long q0), .second, .val (.long q1), .second, vi p2, vi 2, .unset, .unset, .unset, .unset, .unset, .unset, .unset, .unset, .unset, .unset, .unset, .unset, .unset, .unset, .unset, .unset, .unset, .unset] (Value.long z :: [])) hu1.symm) ?_
    refine t_lstore (pc' := 16) (L' := #[.val (.long q0), .second, .val (.long q1), .second, vi p2, vi 2, .val (.long u1), .second, .unset, .unset, .unset, .unset, .unset, .unset, .unset, .unset, .unset, .unset, .unset, .unset, .unset, .unset, .unset, .unset]) X1.here hx (hb hby at_14) rfl rfl ?_
    refine t_lloadN 17 X1.here hx (hb hby at_16) rfl rfl ?_
    refine t_iconst 18 (r := 1) X1.here hx (hb hby at_17) (by decide) rfl ?_
    refine st2 _ ?_
    refine castTop (g' := (mkF m 21 #[.val (.long q0), .second, .val (.long q1), .second, vi p2, vi 2, .val (.long u1), .second, .unset, .unset, .unset, .unset, .unset, .unset, .unset, .unset, .unset, .unset, .unset, .unset, .unset, .unset, .unset, .unset] [(.long u2)])) (congrArg (fun z => mkF m 21 #[.val (.long q0), .second, .val (.long q1), .second, vi p2, vi 2, .val (.long u1), .second, .unset, .unset, .unset, .unset, .unset, .unset, .unset, .unset, .unset, .unset, .unset, .unset, .unset, .unset, .unset, .unset] (Value.long z :: [])) hu2.symm) ?_
    refine t_lstore (pc' := 23) (L' := #[.val (.long q0), .second, .val (.long q1), .second, vi p2, vi 2, .val (.long u1), .second, .val (.long u2), .second, .unset, .unset, .unset, .unset, .unset, .unset, .unset, .unset, .unset, .unset, .unset, .unset, .unset, .unset]) X2.here hx (hb hby at_21) rfl rfl ?_
    refine t_lloadN 24 X2.here hx (hb hby at_23) rfl rfl ?_
    refine t_iconst 25 (r := 2) X2.here hx (hb hby at_24) (by decide) rfl ?_
    refine st3 _ ?_
    refine castTop (g' := (mkF m 28 #[.val (.long q0), .second, .val (.long q1), .second, vi p2, vi 2, .val (.long u1), .second, .val (.long u2), .second, .unset, .unset, .unset, .unset, .unset, .unset, .unset, .unset, .unset, .unset, .unset, .unset, .unset, .unset] [(.long u3)])) (congrArg (fun z => mkF m 28 #[.val (.long q0), .second, .val (.long q1), .second, vi p2, vi 2, .val (.long u1), .second, .val (.long u2), .second, .unset, .unset, .unset, .unset, .unset, .unset, .unset, .unset, .unset, .unset, .unset, .unset, .unset, .unset] (Value.long z :: [])) hu3.symm) ?_
    refine t_lstore (pc' := 30) (L' := #[.val (.long q0), .second, .val (.long q1), .second, vi p2, vi 2, .val (.long u1), .second, .val (.long u2), .second, .val (.long u3), .second, .unset, .unset, .unset, .unset, .unset, .unset, .unset, .unset, .unset, .unset, .unset, .unset]) X3.here hx (hb hby at_28) rfl rfl ?_
    refine t_lloadN 31 X3.here hx (hb hby at_30) rfl rfl ?_
    refine t_iconst 32 (r := 0) X3.here hx (hb hby at_31) (by decide) rfl ?_
    refine st4 _ ?_
    refine castTop (g' := (mkF m 35 #[.val (.long q0), .second, .val (.long q1), .second, vi p2, vi 2, .val (.long u1), .second, .val (.long u2), .second, .val (.long u3), .second, .unset, .unset, .unset, .unset, .unset, .unset, .unset, .unset, .unset, .unset, .unset, .unset] [(.long u4)])) (congrArg (fun z => mkF m 35 #[.val (.long q0), .second, .val (.long q1), .second, vi p2, vi 2, .val (.long u1), .second, .val (.long u2), .second, .val (.long u3), .second, .unset, .unset, .unset, .unset, .unset, .unset, .unset, .unset, .unset, .unset, .unset, .unset] (Value.long z :: [])) hu4.symm) ?_
    refine t_lstore (pc' := 37) (L' := #[.val (.long q0), .second, .val (.long q1), .second, vi p2, vi 2, .val (.long u1), .second, .val (.long u2), .second, .val (.long u3), .second, .val (.long u4), .second, .unset, .unset, .unset, .unset, .unset, .unset, .unset, .unset, .unset, .unset]) X4.here hx (hb hby at_35) rfl rfl ?_
    refine t_lloadN 38 X4.here hx (hb hby at_37) rfl rfl ?_
    refine t_iconst 39 (r := 1) X4.here hx (hb hby at_38) (by decide) rfl ?_
    refine st5 _ ?_
    refine castTop (g' := (mkF m 42 #[.val (.long q0), .second, .val (.long q1), .second, vi p2, vi 2, .val (.long u1), .second, .val (.long u2), .second, .val (.long u3), .second, .val (.long u4), .second, .unset, .unset, .unset, .unset, .unset, .unset, .unset, .unset, .unset, .unset] [(.long u5)])) (congrArg (fun z => mkF m 42 #[.val (.long q0), .second, .val (.long q1), .second, vi p2, vi 2, .val (.long u1), .second, .val (.long u2), .second, .val (.long u3), .second, .val (.long u4), .second, .unset, .unset, .unset, .unset, .unset, .unset, .unset, .unset, .unset, .unset] (Value.long z :: [])) hu5.symm) ?_
    refine t_lstore (pc' := 44) (L' := #[.val (.long q0), .second, .val (.long q1), .second, vi p2, vi 2, .val (.long u1), .second, .val (.long u2), .second, .val (.long u3), .second, .val (.long u4), .second, .val (.long u5), .second, .unset, .unset, .unset, .unset, .unset, .unset, .unset, .unset]) X5.here hx (hb hby at_42) rfl rfl ?_
    refine t_lloadN 45 X5.here hx (hb hby at_44) rfl rfl ?_
    refine t_iconst 46 (r := 2) X5.here hx (hb hby at_45) (by decide) rfl ?_
    refine st6 _ ?_
    refine castTop (g' := (mkF m 49 #[.val (.long q0), .second, .val (.long q1), .second, vi p2, vi 2, .val (.long u1), .second, .val (.long u2), .second, .val (.long u3), .second, .val (.long u4), .second, .val (.long u5), .second, .unset, .unset, .unset, .unset, .unset, .unset, .unset, .unset] [(.long u6)])) (congrArg (fun z => mkF m 49 #[.val (.long q0), .second, .val (.long q1), .second, vi p2, vi 2, .val (.long u1), .second, .val (.long u2), .second, .val (.long u3), .second, .val (.long u4), .second, .val (.long u5), .second, .unset, .unset, .unset, .unset, .unset, .unset, .unset, .unset] (Value.long z :: [])) hu6.symm) ?_
    refine t_lstore (pc' := 51) (L' := #[.val (.long q0), .second, .val (.long q1), .second, vi p2, vi 2, .val (.long u1), .second, .val (.long u2), .second, .val (.long u3), .second, .val (.long u4), .second, .val (.long u5), .second, .val (.long u6), .second, .unset, .unset, .unset, .unset, .unset, .unset]) X6.here hx (hb hby at_49) rfl rfl ?_
    refine t_iload 53 X6.here hx (hb hby at_51) rfl rfl ?_
    refine st7 _ ?_
    refine t_astore (pc' := 57) (L' := #[.val (.long q0), .second, .val (.long q1), .second, vi p2, vi 2, .val (.long u1), .second, .val (.long u2), .second, .val (.long u3), .second, .val (.long u4), .second, .val (.long u5), .second, .val (.long u6), .second, vr b7, .unset, .unset, .unset, .unset, .unset]) X7.here hx (hb hby at_55) rfl rfl rfl ?_
    refine t_iload 59 X7.here hx (hb hby at_57) rfl rfl ?_
    refine st8 _ ?_
    refine t_astore (pc' := 63) (L' := #[.val (.long q0), .second, .val (.long q1), .second, vi p2, vi 2, .val (.long u1), .second, .val (.long u2), .second, .val (.long u3), .second, .val (.long u4), .second, .val (.long u5), .second, .val (.long u6), .second, vr b7, vr b8, .unset, .unset, .unset, .unset]) X8.here hx (hb hby at_61) rfl rfl rfl ?_
    refine t_lconst 64 (r := (0 : Int64)) X8.here hx (hb hby at_63) (by decide) rfl ?_
    refine t_lstore (pc' := 66) (L' := #[.val (.long q0), .second, .val (.long q1), .second, vi p2, vi 2, .val (.long u1), .second, .val (.long u2), .second, .val (.long u3), .second, .val (.long u4), .second, .val (.long u5), .second, .val (.long u6), .second, vr b7, vr b8, .val (.long (0 : Int64)), .second, .unset, .unset]) X8.here hx (hb hby at_64) rfl rfl ?_
    refine t_iload 68 X8.here hx (hb hby at_66) rfl rfl ?_
    refine t_ifNo 71 X8.here hx (hb hby at_68) (by decide) rfl ?_
    refine t_aload 73 X8.here hx (hb hby at_71) rfl rfl rfl ?_
    refine t_iconst 74 (r := 0) X8.here hx (hb hby at_73) (by decide) rfl ?_
    refine t_lload 76 X8.here hx (hb hby at_74) rfl rfl ?_
    refine t_l2d 77 (r := (FP.l2d u1)) X8.here hx (hb hby at_76) rfl rfl ?_
    refine st10 _ ?_
    refine t_aload 80 X10.here hx (hb hby at_78) rfl rfl rfl ?_
    refine t_iconst 81 (r := 0) X10.here hx (hb hby at_80) (by decide) rfl ?_
    refine t_lload 83 X10.here hx (hb hby at_81) rfl rfl ?_
    refine t_l2d 84 (r := (FP.l2d u4)) X10.here hx (hb hby at_83) rfl rfl ?_
    refine st12 _ ?_
    refine t_lload 87 X12.here hx (hb hby at_85) rfl rfl ?_
    refine t_lload 89 X12.here hx (hb hby at_87) rfl rfl ?_
    refine t_lload 91 X12.here hx (hb hby at_89) rfl rfl ?_
    refine t_lmul 92 X12.here hx (hb hby at_91) rfl rfl ?_
    refine t_ladd 93 X12.here hx (hb hby at_92) rfl rfl ?_
    refine t_lstore (pc' := 95) (L' := #[.val (.long q0), .second, .val (.long q1), .second, vi p2, vi 2, .val (.long u1), .second, .val (.long u2), .second, .val (.long u3), .second, .val (.long u4), .second, .val (.long u5), .second, .val (.long u6), .second, vr b7, vr b8, .val (.long ((0 : Int64) + (u1 * u4))), .second, .unset, .unset]) X12.here hx (hb hby at_93) rfl rfl ?_
    refine t_iload 97 X12.here hx (hb hby at_95) rfl rfl ?_
    refine t_iconst 98 (r := 1) X12.here hx (hb hby at_97) (by decide) rfl ?_
    refine t_icmpNo 101 X12.here hx (hb hby at_98) (by decide) rfl ?_
    refine t_aload 103 X12.here hx (hb hby at_101) rfl rfl rfl ?_
    refine t_iconst 104 (r := 1) X12.here hx (hb hby at_103) (by decide) rfl ?_
    refine t_lload 106 X12.here hx (hb hby at_104) rfl rfl ?_
    refine t_l2d 107 (r := (FP.l2d u2)) X12.here hx (hb hby at_106) rfl rfl ?_
    refine st14 _ ?_
    refine t_aload 110 X14.here hx (hb hby at_108) rfl rfl rfl ?_
    refine t_iconst 111 (r := 1) X14.here hx (hb hby at_110) (by decide) rfl ?_
    refine t_lload 113 X14.here hx (hb hby at_111) rfl rfl ?_
    refine t_l2d 114 (r := (FP.l2d u5)) X14.here hx (hb hby at_113) rfl rfl ?_
    refine st16 _ ?_
    refine t_lload 117 X16.here hx (hb hby at_115) rfl rfl ?_
    refine t_lload 119 X16.here hx (hb hby at_117) rfl rfl ?_
    refine t_lload 121 X16.here hx (hb hby at_119) rfl rfl ?_
    refine t_lmul 122 X16.here hx (hb hby at_121) rfl rfl ?_
    refine t_ladd 123 X16.here hx (hb hby at_122) rfl rfl ?_
    refine t_lstore (pc' := 125) (L' := #[.val (.long q0), .second, .val (.long q1), .second, vi p2, vi 2, .val (.long u1), .second, .val (.long u2), .second, .val (.long u3), .second, .val (.long u4), .second, .val (.long u5), .second, .val (.long u6), .second, vr b7, vr b8, .val (.long (((0 : Int64) + (u1 * u4)) + (u2 * u5))), .second, .unset, .unset]) X16.here hx (hb hby at_123) rfl rfl ?_
    refine t_iload 127 X16.here hx (hb hby at_125) rfl rfl ?_
    refine t_iconst 128 (r := 2) X16.here hx (hb hby at_127) (by decide) rfl ?_
    refine t_icmpYes (pc := 128) 155 X16.here hx (hb hby at_128) (by decide) (by decide) (by decide) ?_
    refine t_aload 157 X16.here hx (hb hby at_155) rfl rfl rfl ?_
    refine t_aload 159 X16.here hx (hb hby at_157) rfl rfl rfl ?_
    refine st17 _ ?_
    refine t_dstore (pc' := 164) (L' := #[.val (.long q0), .second, .val (.long q1), .second, vi p2, vi 2, .val (.long u1), .second, .val (.long u2), .second, .val (.long u3), .second, .val (.long u4), .second, .val (.long u5), .second, .val (.long u6), .second, vr b7, vr b8, .val (.long (((0 : Int64) + (u1 * u4)) + (u2 * u5))), .second, .val (.double (FP.l2d (((0 : Int64) + (u1 * u4)) + (u2 * u5)))), .second]) X17.here hx (hb hby at_162) rfl rfl ?_
    refine t_dload 166 X17.here hx (hb hby at_164) rfl rfl ?_
    refine t_lload 168 X17.here hx (hb hby at_166) rfl rfl ?_
    refine t_l2d 169 (r := (FP.l2d (((0 : Int64) + (u1 * u4)) + (u2 * u5)))) X17.here hx (hb hby at_168) rfl rfl ?_
    refine t_dcmp 170 (r := 0) X17.here hx (hb hby at_169) (dcmpV_self (Jvm.Free.Fl.l2d_fin _).noNaN _) rfl ?_
    refine t_ifNo 173 X17.here hx (hb hby at_170) (by decide) rfl ?_
    refine t_iconst 174 (r := 1) X17.here hx (hb hby at_173) (by decide) rfl ?_
    refine t_goto (pc := 174) 178 X17.here hx (hb hby at_174) (by decide) (by decide) ?_
    exact retN X17 hx (t := .boolean) hret (by simp) (hb hby at_178) hr
theorem ef_law_3 (q0 q1 : Int64) (p2 : Int32) (m : MethodId) : entryFrame m #[(.long q0), (.long q1), (.int p2)] maxLocals = mkF m 0 #[.val (.long q0), .second, .val (.long q1), .second, .val (.int p2), .unset, .unset, .unset, .unset, .unset, .unset, .unset, .unset, .unset, .unset, .unset, .unset, .unset, .unset, .unset, .unset, .unset, .unset, .unset] [] := by first | (simp [entryFrame, mkF, argsToLocals, Value.category, maxLocals]; done) | rfl
set_option maxRecDepth 65536 in
set_option maxHeartbeats 40000000 in
theorem law_3 (l : Launch) (Z : State) (a0 : Array Value) (hw : HW Z a0) (ws : List Jvm.Cond) (q0 q1 : Int64) (p2 : Int32) (h0 : Heap) (n0 : Nat) (Z0 : n0 ≤ h0.size) (hk : ((p2 &&& (2147483647 : Int32)) - ((p2 &&& (2147483647 : Int32)) / (4 : Int32)) * (4 : Int32)) = (3 : Int32)) :
    MetFree l x (head1 (Jvm.Cond.code x code maxLocals ret :: ws) room_1) (fun a U => a = #[(.long q0), (.long q1), (.int p2)] ∧ Z.Warmed39 U.vm ∧ U.heap = h0) (fun _ _ _ _ _ => True) (fun _ U o U' => ∃ v L, o = .returned v ∧ Q_law n0 v L ∧ FrameEnd U o U' L 16 128) := by
  refine own_law (y := x) (k := 2) (n := 6) (plainFor_of_name pn_DenseVectorsDotPinLaw584) (ef_law_3 q0 q1 p2) (by decide) (by decide) ?_
  intro p e s m below meth c s₁ hx hby hml hown hnm hret hZ hh e0 X0
  have N0 := Fr.nil n0
  obtain ⟨_, T1, L1, X1, hQ1, st1⟩ := own_static X0 hx hZ hown (w1 hw) (w2 hw) (w3 hw) (w4 hw) (by decide) (r_part0 l Z a0 hw [] q0 h0 n0 Z0) e0 (W := 0) (by decide) (g := (mkF m 11 #[.val (.long q0), .second, .val (.long q1), .second, vi p2, vi 3, .unset, .unset, .unset, .unset, .unset, .unset, .unset, .unset, .unset, .unset, .unset, .unset, .unset, .unset, .unset, .unset, .unset, .unset] [z0, (.long q0)])) rfl (by rw [hml]; rfl) (argsL := [(.long q0), z0]) (rest := []) (lenOf pd_0 rfl) rfl rfl (own_wr rfl rfl) (hb hby at_11)
  obtain ⟨rfl, N1q, e1⟩ := hQ1
  have N1 := Fr.app N0 N1q
  obtain ⟨u1, hu1⟩ : ∃ z, z = ((q0 <<< ((43 : Int32) &&& 0x3f).toInt64) >>> ((43 : Int32) &&& 0x3f).toInt64) := ⟨_, rfl⟩
  have hb_u1 : Bd 1048576 u1 := by rw [hu1]; exact own_shr43 _
  obtain ⟨_, T2, L2, X2, hQ2, st2⟩ := own_static X1 hx hZ hown (w1 hw) (w2 hw) (w3 hw) (w4 hw) (by decide) (r_part1 l Z a0 hw [] q0 h0 n0 Z0) e1 (W := 0) (by decide) (g := (mkF m 18 #[.val (.long q0), .second, .val (.long q1), .second, vi p2, vi 3, .val (.long u1), .second, .unset, .unset, .unset, .unset, .unset, .unset, .unset, .unset, .unset, .unset, .unset, .unset, .unset, .unset, .unset, .unset] [(.int 1), (.long q0)])) rfl (by rw [hml]; rfl) (argsL := [(.long q0), (.int 1)]) (rest := []) (lenOf pd_0 rfl) rfl rfl (own_wr rfl rfl) (hb hby at_18)
  obtain ⟨rfl, N2q, e2⟩ := hQ2
  have N2 := Fr.app N1 N2q
  obtain ⟨u2, hu2⟩ : ∃ z, z = ((q0 <<< ((22 : Int32) &&& 0x3f).toInt64) >>> ((43 : Int32) &&& 0x3f).toInt64) := ⟨_, rfl⟩
  have hb_u2 : Bd 1048576 u2 := by rw [hu2]; exact own_shr43 _
  obtain ⟨_, T3, L3, X3, hQ3, st3⟩ := own_static X2 hx hZ hown (w1 hw) (w2 hw) (w3 hw) (w4 hw) (by decide) (r_part2 l Z a0 hw [] q0 h0 n0 Z0) e2 (W := 0) (by decide) (g := (mkF m 25 #[.val (.long q0), .second, .val (.long q1), .second, vi p2, vi 3, .val (.long u1), .second, .val (.long u2), .second, .unset, .unset, .unset, .unset, .unset, .unset, .unset, .unset, .unset, .unset, .unset, .unset, .unset, .unset] [(.int 2), (.long q0)])) rfl (by rw [hml]; rfl) (argsL := [(.long q0), (.int 2)]) (rest := []) (lenOf pd_0 rfl) rfl rfl (own_wr rfl rfl) (hb hby at_25)
  obtain ⟨rfl, N3q, e3⟩ := hQ3
  have N3 := Fr.app N2 N3q
  obtain ⟨u3, hu3⟩ : ∃ z, z = ((q0 <<< ((1 : Int32) &&& 0x3f).toInt64) >>> ((43 : Int32) &&& 0x3f).toInt64) := ⟨_, rfl⟩
  have hb_u3 : Bd 1048576 u3 := by rw [hu3]; exact own_shr43 _
  obtain ⟨_, T4, L4, X4, hQ4, st4⟩ := own_static X3 hx hZ hown (w1 hw) (w2 hw) (w3 hw) (w4 hw) (by decide) (r_part0 l Z a0 hw [] q1 h0 n0 Z0) e3 (W := 0) (by decide) (g := (mkF m 32 #[.val (.long q0), .second, .val (.long q1), .second, vi p2, vi 3, .val (.long u1), .second, .val (.long u2), .second, .val (.long u3), .second, .unset, .unset, .unset, .unset, .unset, .unset, .unset, .unset, .unset, .unset, .unset, .unset] [z0, (.long q1)])) rfl (by rw [hml]; rfl) (argsL := [(.long q1), z0]) (rest := []) (lenOf pd_0 rfl) rfl rfl (own_wr rfl rfl) (hb hby at_32)
  obtain ⟨rfl, N4q, e4⟩ := hQ4
  have N4 := Fr.app N3 N4q
  obtain ⟨u4, hu4⟩ : ∃ z, z = ((q1 <<< ((43 : Int32) &&& 0x3f).toInt64) >>> ((43 : Int32) &&& 0x3f).toInt64) := ⟨_, rfl⟩
  have hb_u4 : Bd 1048576 u4 := by rw [hu4]; exact own_shr43 _
  obtain ⟨_, T5, L5, X5, hQ5, st5⟩ := own_static X4 hx hZ hown (w1 hw) (w2 hw) (w3 hw) (w4 hw) (by decide) (r_part1 l Z a0 hw [] q1 h0 n0 Z0) e4 (W := 0) (by decide) (g := (mkF m 39 #[.val (.long q0), .second, .val (.long q1), .second, vi p2, vi 3, .val (.long u1), .second, .val (.long u2), .second, .val (.long u3), .second, .val (.long u4), .second, .unset, .unset, .unset, .unset, .unset, .unset, .unset, .unset, .unset, .unset] [(.int 1), (.long q1)])) rfl (by rw [hml]; rfl) (argsL := [(.long q1), (.int 1)]) (rest := []) (lenOf pd_0 rfl) rfl rfl (own_wr rfl rfl) (hb hby at_39)
  obtain ⟨rfl, N5q, e5⟩ := hQ5
  have N5 := Fr.app N4 N5q
  obtain ⟨u5, hu5⟩ : ∃ z, z = ((q1 <<< ((22 : Int32) &&& 0x3f).toInt64) >>> ((43 : Int32) &&& 0x3f).toInt64) := ⟨_, rfl⟩
  have hb_u5 : Bd 1048576 u5 := by rw [hu5]; exact own_shr43 _
  obtain ⟨_, T6, L6, X6, hQ6, st6⟩ := own_static X5 hx hZ hown (w1 hw) (w2 hw) (w3 hw) (w4 hw) (by decide) (r_part2 l Z a0 hw [] q1 h0 n0 Z0) e5 (W := 0) (by decide) (g := (mkF m 46 #[.val (.long q0), .second, .val (.long q1), .second, vi p2, vi 3, .val (.long u1), .second, .val (.long u2), .second, .val (.long u3), .second, .val (.long u4), .second, .val (.long u5), .second, .unset, .unset, .unset, .unset, .unset, .unset, .unset, .unset] [(.int 2), (.long q1)])) rfl (by rw [hml]; rfl) (argsL := [(.long q1), (.int 2)]) (rest := []) (lenOf pd_0 rfl) rfl rfl (own_wr rfl rfl) (hb hby at_46)
  obtain ⟨rfl, N6q, e6⟩ := hQ6
  have N6 := Fr.app N5 N6q
  obtain ⟨u6, hu6⟩ : ∃ z, z = ((q1 <<< ((1 : Int32) &&& 0x3f).toInt64) >>> ((43 : Int32) &&& 0x3f).toInt64) := ⟨_, rfl⟩
  have hb_u6 : Bd 1048576 u6 := by rw [hu6]; exact own_shr43 _
  obtain ⟨T7, h7, k7, X7, e7, E7, A7, st7⟩ := newP (aty := .double) X6 hx hZ (w5 hw) e6 (g := (mkF m 53 #[.val (.long q0), .second, .val (.long q1), .second, vi p2, vi 3, .val (.long u1), .second, .val (.long u2), .second, .val (.long u3), .second, .val (.long u4), .second, .val (.long u5), .second, .val (.long u6), .second, .unset, .unset, .unset, .unset, .unset, .unset] [(.int 3)])) rfl (hb hby at_53) rfl (by decide) (cap := 3) (by decide) (by decide) (by decide) (by decide)
  obtain ⟨b7, g7⟩ : ∃ z, z = h0.size := ⟨_, rfl⟩
  rw [← g7] at A7 st7
  have ge_b7 : h0.size ≤ b7 := Nat.le_of_eq g7.symm
  have K7 := KL.ofE E7
  have V7 : Arv Z h7 b7 k7 .double 3 [(.double (FP.l2d (0 : Int64))), (.double (FP.l2d (0 : Int64))), (.double (FP.l2d (0 : Int64)))] (.double (FP.l2d (0 : Int64))) := (Arv.newD A7 (by decide)).pad (pad_rep [] (.double (FP.l2d (0 : Int64))) 3)
  obtain ⟨T8, h8, k8, X8, e8, E8, A8, st8⟩ := newP (aty := .double) X7 hx hZ (w5 hw) e7 (g := (mkF m 59 #[.val (.long q0), .second, .val (.long q1), .second, vi p2, vi 3, .val (.long u1), .second, .val (.long u2), .second, .val (.long u3), .second, .val (.long u4), .second, .val (.long u5), .second, .val (.long u6), .second, vr b7, .unset, .unset, .unset, .unset, .unset] [(.int 3)])) rfl (hb hby at_59) rfl (by decide) (cap := 3) (by decide) (by decide) (by decide) (by decide)
  obtain ⟨b8, g8⟩ : ∃ z, z = h7.size := ⟨_, rfl⟩
  rw [← g8] at A8 st8
  have ge_b8 : h7.size ≤ b8 := Nat.le_of_eq g8.symm
  have K8 := KL.ofE E8
  have V8 : Arv Z h8 b8 k8 .double 3 [(.double (FP.l2d (0 : Int64))), (.double (FP.l2d (0 : Int64))), (.double (FP.l2d (0 : Int64)))] (.double (FP.l2d (0 : Int64))) := (Arv.newD A8 (by decide)).pad (pad_rep [] (.double (FP.l2d (0 : Int64))) 3)
  have f9 := (kArv K8 V7 na0)
  obtain ⟨T10, h10, X10, e10, W10, V10, st10⟩ := own_astD X8 hx hZ e8 f9 (j := 0) (by decide) 0 rfl (Nat.le_of_ble_eq_true rfl) (g := (mkF m 77 #[.val (.long q0), .second, .val (.long q1), .second, vi p2, vi 3, .val (.long u1), .second, .val (.long u2), .second, .val (.long u3), .second, .val (.long u4), .second, .val (.long u5), .second, .val (.long u6), .second, vr b7, vr b8, .val (.long (0 : Int64)), .second, .unset, .unset] [(.double (FP.l2d u1)), z0, (.ref b7)])) rfl rfl (hb hby at_77)
  have K10 := KL.ofW W10
  replace V10 : Arv Z h10 b7 k7 .double 3 [(.double (FP.l2d u1)), (.double (FP.l2d (0 : Int64))), (.double (FP.l2d (0 : Int64)))] (.double (FP.l2d (0 : Int64))) := V10
  have N10 := Fr.snoc X10 N6 (Nat.le_trans Z0 (Nat.le_trans (Nat.le_refl _) ge_b7))
  have lt_b7 : b7 < h7.size := Arv.lt V7
  have f11 := (kArv K10 V8 (naN (lt_ne lt_b7 ge_b8) na0))
  obtain ⟨T12, h12, X12, e12, W12, V12, st12⟩ := own_astD X10 hx hZ e10 f11 (j := 0) (by decide) 0 rfl (Nat.le_of_ble_eq_true rfl) (g := (mkF m 84 #[.val (.long q0), .second, .val (.long q1), .second, vi p2, vi 3, .val (.long u1), .second, .val (.long u2), .second, .val (.long u3), .second, .val (.long u4), .second, .val (.long u5), .second, .val (.long u6), .second, vr b7, vr b8, .val (.long (0 : Int64)), .second, .unset, .unset] [(.double (FP.l2d u4)), z0, (.ref b8)])) rfl rfl (hb hby at_84)
  have K12 := KL.ofW W12
  replace V12 : Arv Z h12 b8 k8 .double 3 [(.double (FP.l2d u4)), (.double (FP.l2d (0 : Int64))), (.double (FP.l2d (0 : Int64)))] (.double (FP.l2d (0 : Int64))) := V12
  have N12 := Fr.snoc X12 N10 (Nat.le_trans Z0 (Nat.le_trans K7.1 ge_b8))
  have f13 := (kArv K12 V10 (naN (Ne.symm (lt_ne lt_b7 ge_b8)) na0))
  obtain ⟨T14, h14, X14, e14, W14, V14, st14⟩ := own_astD X12 hx hZ e12 f13 (j := 1) (by decide) 1 rfl (Nat.le_of_ble_eq_true rfl) (g := (mkF m 107 #[.val (.long q0), .second, .val (.long q1), .second, vi p2, vi 3, .val (.long u1), .second, .val (.long u2), .second, .val (.long u3), .second, .val (.long u4), .second, .val (.long u5), .second, .val (.long u6), .second, vr b7, vr b8, .val (.long ((0 : Int64) + (u1 * u4))), .second, .unset, .unset] [(.double (FP.l2d u2)), (.int 1), (.ref b7)])) rfl rfl (hb hby at_107)
  have K14 := KL.ofW W14
  replace V14 : Arv Z h14 b7 k7 .double 3 [(.double (FP.l2d u1)), (.double (FP.l2d u2)), (.double (FP.l2d (0 : Int64)))] (.double (FP.l2d (0 : Int64))) := V14
  have N14 := Fr.snoc X14 N12 (Nat.le_trans Z0 (Nat.le_trans (Nat.le_refl _) ge_b7))
  have f15 := (kArv K14 V12 (naN (lt_ne lt_b7 ge_b8) na0))
  obtain ⟨T16, h16, X16, e16, W16, V16, st16⟩ := own_astD X14 hx hZ e14 f15 (j := 1) (by decide) 1 rfl (Nat.le_of_ble_eq_true rfl) (g := (mkF m 114 #[.val (.long q0), .second, .val (.long q1), .second, vi p2, vi 3, .val (.long u1), .second, .val (.long u2), .second, .val (.long u3), .second, .val (.long u4), .second, .val (.long u5), .second, .val (.long u6), .second, vr b7, vr b8, .val (.long ((0 : Int64) + (u1 * u4))), .second, .unset, .unset] [(.double (FP.l2d u5)), (.int 1), (.ref b8)])) rfl rfl (hb hby at_114)
  have K16 := KL.ofW W16
  replace V16 : Arv Z h16 b8 k8 .double 3 [(.double (FP.l2d u4)), (.double (FP.l2d u5)), (.double (FP.l2d (0 : Int64)))] (.double (FP.l2d (0 : Int64))) := V16
  have N16 := Fr.snoc X16 N14 (Nat.le_trans Z0 (Nat.le_trans K7.1 ge_b8))
  have f17 := (kArv K16 V14 (naN (Ne.symm (lt_ne lt_b7 ge_b8)) na0))
  obtain ⟨T18, h18, X18, e18, W18, V18, st18⟩ := own_astD X16 hx hZ e16 f17 (j := 2) (by decide) 2 rfl (Nat.le_of_ble_eq_true rfl) (g := (mkF m 137 #[.val (.long q0), .second, .val (.long q1), .second, vi p2, vi 3, .val (.long u1), .second, .val (.long u2), .second, .val (.long u3), .second, .val (.long u4), .second, .val (.long u5), .second, .val (.long u6), .second, vr b7, vr b8, .val (.long (((0 : Int64) + (u1 * u4)) + (u2 * u5))), .second, .unset, .unset] [(.double (FP.l2d u3)), (.int 2), (.ref b7)])) rfl rfl (hb hby at_137)
  have K18 := KL.ofW W18
  replace V18 : Arv Z h18 b7 k7 .double 3 [(.double (FP.l2d u1)), (.double (FP.l2d u2)), (.double (FP.l2d u3))] (.double (FP.l2d (0 : Int64))) := V18
  have N18 := Fr.snoc X18 N16 (Nat.le_trans Z0 (Nat.le_trans (Nat.le_refl _) ge_b7))
  have f19 := (kArv K18 V16 (naN (lt_ne lt_b7 ge_b8) na0))
  obtain ⟨T20, h20, X20, e20, W20, V20, st20⟩ := own_astD X18 hx hZ e18 f19 (j := 2) (by decide) 2 rfl (Nat.le_of_ble_eq_true rfl) (g := (mkF m 144 #[.val (.long q0), .second, .val (.long q1), .second, vi p2, vi 3, .val (.long u1), .second, .val (.long u2), .second, .val (.long u3), .second, .val (.long u4), .second, .val (.long u5), .second, .val (.long u6), .second, vr b7, vr b8, .val (.long (((0 : Int64) + (u1 * u4)) + (u2 * u5))), .second, .unset, .unset] [(.double (FP.l2d u6)), (.int 2), (.ref b8)])) rfl rfl (hb hby at_144)
  have K20 := KL.ofW W20
  replace V20 : Arv Z h20 b8 k8 .double 3 [(.double (FP.l2d u4)), (.double (FP.l2d u5)), (.double (FP.l2d u6))] (.double (FP.l2d (0 : Int64))) := V20
  have N20 := Fr.snoc X20 N18 (Nat.le_trans Z0 (Nat.le_trans K7.1 ge_b8))
  have f22 := (kArv K20 V18 (naN (Ne.symm (lt_ne lt_b7 ge_b8)) na0))
  have sz_0_2 := (Nat.le_trans K7.1 K8.1)
  have sz_0_3 := (Nat.le_trans sz_0_2 K10.1)
  have sz_0_4 := (Nat.le_trans sz_0_3 K12.1)
  have sz_0_5 := (Nat.le_trans sz_0_4 K14.1)
  have sz_0_6 := (Nat.le_trans sz_0_5 K16.1)
  have sz_0_7 := (Nat.le_trans sz_0_6 K18.1)
  have sz_0_8 := (Nat.le_trans sz_0_7 K20.1)
  obtain ⟨_, T21, L21, X21, hQ21, st21⟩ := own_static X20 hx hZ hown (w6 hw) (w7 hw) (w8 hw) (w9 hw) (by decide) (r_dot3 l Z a0 hw [] u1 u2 u3 u4 u5 u6 b7 b8 k7 k8 h20 n0 (Nat.le_trans Z0 sz_0_8) hb_u1 hb_u2 hb_u3 hb_u4 hb_u5 hb_u6 f22 V20) e20 (W := 0) (by decide) (g := (mkF m 159 #[.val (.long q0), .second, .val (.long q1), .second, vi p2, vi 3, .val (.long u1), .second, .val (.long u2), .second, .val (.long u3), .second, .val (.long u4), .second, .val (.long u5), .second, .val (.long u6), .second, vr b7, vr b8, .val (.long ((((0 : Int64) + (u1 * u4)) + (u2 * u5)) + (u3 * u6))), .second, .unset, .unset] [(.ref b8), (.ref b7)])) rfl (by rw [hml]; rfl) (argsL := [(.ref b7), (.ref b8)]) (rest := []) (lenOf pd_1 rfl) rfl rfl (own_wr rfl rfl) (hb hby at_159)
  obtain ⟨rfl, N21q, e21⟩ := hQ21
  have N21 := Fr.app N20 N21q
  refine ⟨T21, _, some (.int 1), X21, (fun h => by cases h <;> rfl), ?_, fun fs hr => ?_⟩
  · show Q_law n0 _ _
    exact ⟨rfl, N21⟩
  · refine t_iload 2 X0.here hx (hb hby at_0) rfl rfl ?_
    refine X0.ldcInt hx hown (mvT hZ (w0 hw)) (g := (mkF m 2 #[.val (.long q0), .second, .val (.long q1), .second, vi p2, .unset, .unset, .unset, .unset, .unset, .unset, .unset, .unset, .unset, .unset, .unset, .unset, .unset, .unset, .unset, .unset, .unset, .unset, .unset] [(.int p2)])) rfl (hb hby at_2) _ ?_
    refine t_iand 5 X0.here hx (hb hby at_4) rfl rfl ?_
    refine t_iconst 6 (r := 4) X0.here hx (hb hby at_5) (by decide) rfl ?_
    refine t_irem 7 (r := 3) X0.here hx (hb hby at_6) (by decide) hk rfl ?_
    refine t_istore (pc' := 9) (L' := #[.val (.long q0), .second, .val (.long q1), .second, vi p2, vi 3, .unset, .unset, .unset, .unset, .unset, .unset, .unset, .unset, .unset, .unset, .unset, .unset, .unset, .unset, .unset, .unset, .unset, .unset]) X0.here hx (hb hby at_7) rfl rfl ?_
    refine t_lloadN 10 X0.here hx (hb hby at_9) rfl rfl ?_
    refine t_iconst 11 (r := 0) X0.here hx (hb hby at_10) (by decide) rfl ?_
    refine st1 _ ?_
    refine castTop (g' := (mkF m 14 #[.val (.long q0), .second, .val (.long q1), .second, vi p2, vi 3, .unset, .unset, .unset, .unset, .unset, .unset, .unset, .unset, .unset, .unset, .unset, .unset, .unset, .unset, .unset, .unset, .unset, .unset] [(.long u1)])) (congrArg (fun z => mkF m 14 #[.val (.long q0), .second, .val (.long q1), .second, vi p2, vi 3, .unset, .unset, .unset, .unset, .unset, .unset, .unset, .unset, .unset, .unset, .unset, .unset, .unset, .unset, .unset, .unset, .unset, .unset] (Value.long z :: [])) hu1.symm) ?_
    refine t_lstore (pc' := 16) (L' := #[.val (.long q0), .second, .val (.long q1), .second, vi p2, vi 3, .val (.long u1), .second, .unset, .unset, .unset, .unset, .unset, .unset, .unset, .unset, .unset, .unset, .unset, .unset, .unset, .unset, .unset, .unset]) X1.here hx (hb hby at_14) rfl rfl ?_
    refine t_lloadN 17 X1.here hx (hb hby at_16) rfl rfl ?_
    refine t_iconst 18 (r := 1) X1.here hx (hb hby at_17) (by decide) rfl ?_
    refine st2 _ ?_
    refine castTop (g' := (mkF m 21 #[.val (.long q0), .second, .val (.long q1), .second, vi p2, vi 3, .val (.long u1), .second, .unset, .unset, .unset, .unset, .unset, .unset, .unset, .unset, .unset, .unset, .unset, .unset, .unset, .unset, .unset, .unset] [(.long u2)])) (congrArg (fun z => mkF m 21 #[.val (.long q0), .second, .val (.long q1), .second, vi p2, vi 3, .val (.long u1), .second, .unset, .unset, .unset, .unset, .unset, .unset, .unset, .unset, .unset, .unset, .unset, .unset, .unset, .unset, .unset, .unset] (Value.long z :: [])) hu2.symm) ?_
    refine t_lstore (pc' := 23) (L' := #[.val (.long q0), .second, .val (.long q1), .second, vi p2, vi 3, .val (.long u1), .second, .val (.long u2), .second, .unset, .unset, .unset, .unset, .unset, .unset, .unset, .unset, .unset, .unset, .unset, .unset, .unset, .unset]) X2.here hx (hb hby at_21) rfl rfl ?_
    refine t_lloadN 24 X2.here hx (hb hby at_23) rfl rfl ?_
    refine t_iconst 25 (r := 2) X2.here hx (hb hby at_24) (by decide) rfl ?_
    refine st3 _ ?_
    refine castTop (g' := (mkF m 28 #[.val (.long q0), .second, .val (.long q1), .second, vi p2, vi 3, .val (.long u1), .second, .val (.long u2), .second, .unset, .unset, .unset, .unset, .unset, .unset, .unset, .unset, .unset, .unset, .unset, .unset, .unset, .unset] [(.long u3)])) (congrArg (fun z => mkF m 28 #[.val (.long q0), .second, .val (.long q1), .second, vi p2, vi 3, .val (.long u1), .second, .val (.long u2), .second, .unset, .unset, .unset, .unset, .unset, .unset, .unset, .unset, .unset, .unset, .unset, .unset, .unset, .unset] (Value.long z :: [])) hu3.symm) ?_
    refine t_lstore (pc' := 30) (L' := #[.val (.long q0), .second, .val (.long q1), .second, vi p2, vi 3, .val (.long u1), .second, .val (.long u2), .second, .val (.long u3), .second, .unset, .unset, .unset, .unset, .unset, .unset, .unset, .unset, .unset, .unset, .unset, .unset]) X3.here hx (hb hby at_28) rfl rfl ?_
    refine t_lloadN 31 X3.here hx (hb hby at_30) rfl rfl ?_
    refine t_iconst 32 (r := 0) X3.here hx (hb hby at_31) (by decide) rfl ?_
    refine st4 _ ?_
    refine castTop (g' := (mkF m 35 #[.val (.long q0), .second, .val (.long q1), .second, vi p2, vi 3, .val (.long u1), .second, .val (.long u2), .second, .val (.long u3), .second, .unset, .unset, .unset, .unset, .unset, .unset, .unset, .unset, .unset, .unset, .unset, .unset] [(.long u4)])) (congrArg (fun z => mkF m 35 #[.val (.long q0), .second, .val (.long q1), .second, vi p2, vi 3, .val (.long u1), .second, .val (.long u2), .second, .val (.long u3), .second, .unset, .unset, .unset, .unset, .unset, .unset, .unset, .unset, .unset, .unset, .unset, .unset] (Value.long z :: [])) hu4.symm) ?_
    refine t_lstore (pc' := 37) (L' := #[.val (.long q0), .second, .val (.long q1), .second, vi p2, vi 3, .val (.long u1), .second, .val (.long u2), .second, .val (.long u3), .second, .val (.long u4), .second, .unset, .unset, .unset, .unset, .unset, .unset, .unset, .unset, .unset, .unset]) X4.here hx (hb hby at_35) rfl rfl ?_
    refine t_lloadN 38 X4.here hx (hb hby at_37) rfl rfl ?_
    refine t_iconst 39 (r := 1) X4.here hx (hb hby at_38) (by decide) rfl ?_
    refine st5 _ ?_
    refine castTop (g' := (mkF m 42 #[.val (.long q0), .second, .val (.long q1), .second, vi p2, vi 3, .val (.long u1), .second, .val (.long u2), .second, .val (.long u3), .second, .val (.long u4), .second, .unset, .unset, .unset, .unset, .unset, .unset, .unset, .unset, .unset, .unset] [(.long u5)])) (congrArg (fun z => mkF m 42 #[.val (.long q0), .second, .val (.long q1), .second, vi p2, vi 3, .val (.long u1), .second, .val (.long u2), .second, .val (.long u3), .second, .val (.long u4), .second, .unset, .unset, .unset, .unset, .unset, .unset, .unset, .unset, .unset, .unset] (Value.long z :: [])) hu5.symm) ?_
    refine t_lstore (pc' := 44) (L' := #[.val (.long q0), .second, .val (.long q1), .second, vi p2, vi 3, .val (.long u1), .second, .val (.long u2), .second, .val (.long u3), .second, .val (.long u4), .second, .val (.long u5), .second, .unset, .unset, .unset, .unset, .unset, .unset, .unset, .unset]) X5.here hx (hb hby at_42) rfl rfl ?_
    refine t_lloadN 45 X5.here hx (hb hby at_44) rfl rfl ?_
    refine t_iconst 46 (r := 2) X5.here hx (hb hby at_45) (by decide) rfl ?_
    refine st6 _ ?_
    refine castTop (g' := (mkF m 49 #[.val (.long q0), .second, .val (.long q1), .second, vi p2, vi 3, .val (.long u1), .second, .val (.long u2), .second, .val (.long u3), .second, .val (.long u4), .second, .val (.long u5), .second, .unset, .unset, .unset, .unset, .unset, .unset, .unset, .unset] [(.long u6)])) (congrArg (fun z => mkF m 49 #[.val (.long q0), .second, .val (.long q1), .second, vi p2, vi 3, .val (.long u1), .second, .val (.long u2), .second, .val (.long u3), .second, .val (.long u4), .second, .val (.long u5), .second, .unset, .unset, .unset, .unset, .unset, .unset, .unset, .unset] (Value.long z :: [])) hu6.symm) ?_
    refine t_lstore (pc' := 51) (L' := #[.val (.long q0), .second, .val (.long q1), .second, vi p2, vi 3, .val (.long u1), .second, .val (.long u2), .second, .val (.long u3), .second, .val (.long u4), .second, .val (.long u5), .second, .val (.long u6), .second, .unset, .unset, .unset, .unset, .unset, .unset]) X6.here hx (hb hby at_49) rfl rfl ?_
    refine t_iload 53 X6.here hx (hb hby at_51) rfl rfl ?_
    refine st7 _ ?_
    refine t_astore (pc' := 57) (L' := #[.val (.long q0), .second, .val (.long q1), .second, vi p2, vi 3, .val (.long u1), .second, .val (.long u2), .second, .val (.long u3), .second, .val (.long u4), .second, .val (.long u5), .second, .val (.long u6), .second, vr b7, .unset, .unset, .unset, .unset, .unset]) X7.here hx (hb hby at_55) rfl rfl rfl ?_
    refine t_iload 59 X7.here hx (hb hby at_57) rfl rfl ?_
    refine st8 _ ?_
    refine t_astore (pc' := 63) (L' := #[.val (.long q0), .second, .val (.long q1), .second, vi p2, vi 3, .val (.long u1), .second, .val (.long u2), .second, .val (.long u3), .second, .val (.long u4), .second, .val (.long u5), .second, .val (.long u6), .second, vr b7, vr b8, .unset, .unset, .unset, .unset]) X8.here hx (hb hby at_61) rfl rfl rfl ?_
    refine t_lconst 64 (r := (0 : Int64)) X8.here hx (hb hby at_63) (by decide) rfl ?_
    refine t_lstore (pc' := 66) (L' := #[.val (.long q0), .second, .val (.long q1), .second, vi p2, vi 3, .val (.long u1), .second, .val (.long u2), .second, .val (.long u3), .second, .val (.long u4), .second, .val (.long u5), .second, .val (.long u6), .second, vr b7, vr b8, .val (.long (0 : Int64)), .second, .unset, .unset]) X8.here hx (hb hby at_64) rfl rfl ?_
    refine t_iload 68 X8.here hx (hb hby at_66) rfl rfl ?_
    refine t_ifNo 71 X8.here hx (hb hby at_68) (by decide) rfl ?_
    refine t_aload 73 X8.here hx (hb hby at_71) rfl rfl rfl ?_
    refine t_iconst 74 (r := 0) X8.here hx (hb hby at_73) (by decide) rfl ?_
    refine t_lload 76 X8.here hx (hb hby at_74) rfl rfl ?_
    refine t_l2d 77 (r := (FP.l2d u1)) X8.here hx (hb hby at_76) rfl rfl ?_
    refine st10 _ ?_
    refine t_aload 80 X10.here hx (hb hby at_78) rfl rfl rfl ?_
    refine t_iconst 81 (r := 0) X10.here hx (hb hby at_80) (by decide) rfl ?_
    refine t_lload 83 X10.here hx (hb hby at_81) rfl rfl ?_
    refine t_l2d 84 (r := (FP.l2d u4)) X10.here hx (hb hby at_83) rfl rfl ?_
    refine st12 _ ?_
    refine t_lload 87 X12.here hx (hb hby at_85) rfl rfl ?_
    refine t_lload 89 X12.here hx (hb hby at_87) rfl rfl ?_
    refine t_lload 91 X12.here hx (hb hby at_89) rfl rfl ?_
    refine t_lmul 92 X12.here hx (hb hby at_91) rfl rfl ?_
    refine t_ladd 93 X12.here hx (hb hby at_92) rfl rfl ?_
    refine t_lstore (pc' := 95) (L' := #[.val (.long q0), .second, .val (.long q1), .second, vi p2, vi 3, .val (.long u1), .second, .val (.long u2), .second, .val (.long u3), .second, .val (.long u4), .second, .val (.long u5), .second, .val (.long u6), .second, vr b7, vr b8, .val (.long ((0 : Int64) + (u1 * u4))), .second, .unset, .unset]) X12.here hx (hb hby at_93) rfl rfl ?_
    refine t_iload 97 X12.here hx (hb hby at_95) rfl rfl ?_
    refine t_iconst 98 (r := 1) X12.here hx (hb hby at_97) (by decide) rfl ?_
    refine t_icmpNo 101 X12.here hx (hb hby at_98) (by decide) rfl ?_
    refine t_aload 103 X12.here hx (hb hby at_101) rfl rfl rfl ?_
    refine t_iconst 104 (r := 1) X12.here hx (hb hby at_103) (by decide) rfl ?_
    refine t_lload 106 X12.here hx (hb hby at_104) rfl rfl ?_
    refine t_l2d 107 (r := (FP.l2d u2)) X12.here hx (hb hby at_106) rfl rfl ?_
    refine st14 _ ?_
    refine t_aload 110 X14.here hx (hb hby at_108) rfl rfl rfl ?_
    refine t_iconst 111 (r := 1) X14.here hx (hb hby at_110) (by decide) rfl ?_
    refine t_lload 113 X14.here hx (hb hby at_111) rfl rfl ?_
    refine t_l2d 114 (r := (FP.l2d u5)) X14.here hx (hb hby at_113) rfl rfl ?_
    refine st16 _ ?_
    refine t_lload 117 X16.here hx (hb hby at_115) rfl rfl ?_
    refine t_lload 119 X16.here hx (hb hby at_117) rfl rfl ?_
    refine t_lload 121 X16.here hx (hb hby at_119) rfl rfl ?_
    refine t_lmul 122 X16.here hx (hb hby at_121) rfl rfl ?_
    refine t_ladd 123 X16.here hx (hb hby at_122) rfl rfl ?_
    refine t_lstore (pc' := 125) (L' := #[.val (.long q0), .second, .val (.long q1), .second, vi p2, vi 3, .val (.long u1), .second, .val (.long u2), .second, .val (.long u3), .second, .val (.long u4), .second, .val (.long u5), .second, .val (.long u6), .second, vr b7, vr b8, .val (.long (((0 : Int64) + (u1 * u4)) + (u2 * u5))), .second, .unset, .unset]) X16.here hx (hb hby at_123) rfl rfl ?_
    refine t_iload 127 X16.here hx (hb hby at_125) rfl rfl ?_
    refine t_iconst 128 (r := 2) X16.here hx (hb hby at_127) (by decide) rfl ?_
    refine t_icmpNo 131 X16.here hx (hb hby at_128) (by decide) rfl ?_
    refine t_aload 133 X16.here hx (hb hby at_131) rfl rfl rfl ?_
    refine t_iconst 134 (r := 2) X16.here hx (hb hby at_133) (by decide) rfl ?_
    refine t_lload 136 X16.here hx (hb hby at_134) rfl rfl ?_
    refine t_l2d 137 (r := (FP.l2d u3)) X16.here hx (hb hby at_136) rfl rfl ?_
    refine st18 _ ?_
    refine t_aload 140 X18.here hx (hb hby at_138) rfl rfl rfl ?_
    refine t_iconst 141 (r := 2) X18.here hx (hb hby at_140) (by decide) rfl ?_
    refine t_lload 143 X18.here hx (hb hby at_141) rfl rfl ?_
    refine t_l2d 144 (r := (FP.l2d u6)) X18.here hx (hb hby at_143) rfl rfl ?_
    refine st20 _ ?_
    refine t_lload 147 X20.here hx (hb hby at_145) rfl rfl ?_
    refine t_lload 149 X20.here hx (hb hby at_147) rfl rfl ?_
    refine t_lload 151 X20.here hx (hb hby at_149) rfl rfl ?_
    refine t_lmul 152 X20.here hx (hb hby at_151) rfl rfl ?_
    refine t_ladd 153 X20.here hx (hb hby at_152) rfl rfl ?_
    refine t_lstore (pc' := 155) (L' := #[.val (.long q0), .second, .val (.long q1), .second, vi p2, vi 3, .val (.long u1), .second, .val (.long u2), .second, .val (.long u3), .second, .val (.long u4), .second, .val (.long u5), .second, .val (.long u6), .second, vr b7, vr b8, .val (.long ((((0 : Int64) + (u1 * u4)) + (u2 * u5)) + (u3 * u6))), .second, .unset, .unset]) X20.here hx (hb hby at_153) rfl rfl ?_
    refine t_aload 157 X20.here hx (hb hby at_155) rfl rfl rfl ?_
    refine t_aload 159 X20.here hx (hb hby at_157) rfl rfl rfl ?_
    refine st21 _ ?_
    refine t_dstore (pc' := 164) (L' := #[.val (.long q0), .second, .val (.long q1), .second, vi p2, vi 3, .val (.long u1), .second, .val (.long u2), .second, .val (.long u3), .second, .val (.long u4), .second, .val (.long u5), .second, .val (.long u6), .second, vr b7, vr b8, .val (.long ((((0 : Int64) + (u1 * u4)) + (u2 * u5)) + (u3 * u6))), .second, .val (.double (FP.l2d ((((0 : Int64) + (u1 * u4)) + (u2 * u5)) + (u3 * u6)))), .second]) X21.here hx (hb hby at_162) rfl rfl ?_
    refine t_dload 166 X21.here hx (hb hby at_164) rfl rfl ?_
    refine t_lload 168 X21.here hx (hb hby at_166) rfl rfl ?_
    refine t_l2d 169 (r := (FP.l2d ((((0 : Int64) + (u1 * u4)) + (u2 * u5)) + (u3 * u6)))) X21.here hx (hb hby at_168) rfl rfl ?_
    refine t_dcmp 170 (r := 0) X21.here hx (hb hby at_169) (dcmpV_self (Jvm.Free.Fl.l2d_fin _).noNaN _) rfl ?_
    refine t_ifNo 173 X21.here hx (hb hby at_170) (by decide) rfl ?_
    refine t_iconst 174 (r := 1) X21.here hx (hb hby at_173) (by decide) rfl ?_
    refine t_goto (pc := 174) 178 X21.here hx (hb hby at_174) (by decide) (by decide) ?_
    exact retN X21 hx (t := .boolean) hret (by simp) (hb hby at_178) hr
set_option maxRecDepth 65536 in
set_option maxHeartbeats 40000000 in
theorem rm_law (l : Launch) (Z : State) (a0 : Array Value) (hw : HW Z a0) (ws : List Jvm.Cond) (q0 q1 : Int64) (p2 : Int32) (h0 : Heap) (n0 : Nat) (Z0 : n0 ≤ h0.size) :
    MetFree l x (head1 (Jvm.Cond.code x code maxLocals ret :: ws) room_1) (fun a U => a = #[(.long q0), (.long q1), (.int p2)] ∧ Z.Warmed39 U.vm ∧ U.heap = h0) (fun _ _ _ _ _ => True) (fun _ U o U' => ∃ v L, o = .returned v ∧ Q_law n0 v L ∧ FrameEnd U o U' L 16 128) := by
  rcases own_rem4 p2 with hk | hk | hk | hk
  · exact law_0 l Z a0 hw ws q0 q1 p2 h0 n0 Z0 hk
  · exact law_1 l Z a0 hw ws q0 q1 p2 h0 n0 Z0 hk
  · exact law_2 l Z a0 hw ws q0 q1 p2 h0 n0 Z0 hk
  · exact law_3 l Z a0 hw ws q0 q1 p2 h0 n0 Z0 hk
set_option maxRecDepth 65536 in
set_option maxHeartbeats 40000000 in
theorem comes_1 {Post : Tables → Env → Array Value → State → Outcome → State → Prop} (hpost : ∀ tb e args s v u, (limb_1_1.after args s (.returned v) u = true ∧ limb_1_2.after args s (.returned v) u = true ∧ True) → FrameEnd s (.returned v) u (Jvm.fieldLocs frame_1_writes args s ++ Jvm.arrayLocs frame_1_arrays args s ++ Jvm.staticLocs frame_1_statics s) 16 128 → Post tb e args s (.returned v) u) :
    ArmFor flags0 classFile x code maxLocals ret World_1 tables_1 room_1 Calls_1 rest_1 Pre_1 Post := by
  intro l hfl _ _ p e ha hc hk s m args below hf hA hF happ hP
  obtain ⟨hcalls, hrest, hpre⟩ := hP
  obtain ⟨-, -, -, hnamed, -, -, -, hat⟩ := (Spec.applies_iff hf).mp happ
  obtain ⟨hg, hn⟩ := and_e (Cond.before_iff.mp (show (Jvm.Cond.and given_1 narrow_1).before args s = true from hpre))
  obtain ⟨g1, g2⟩ := and_e hg
  obtain ⟨g3, g4⟩ := and_e g2
  obtain ⟨g5, g6⟩ := and_e g4
  obtain ⟨w0, w1, w2, rfl⟩ : ∃ w0 w1 w2 : Value, args = #[w0, w1, w2] := by
    have hs : args.size = 3 := by simpa [Cond.value, given_1] using g1
    obtain ⟨L⟩ := args
    match L, hs with
    | [w0, w1, w2], _ => exact ⟨w0, w1, w2, rfl⟩
  have hw := fun d (hd : d ∈ tables_1) => atoms_spec (ws := Jvm.Cond.code x code maxLocals ret :: tables_1) hat d (List.mem_cons_of_mem _ hd)
  have hfit : Fit s := fun {y c} hc i hi => by
    obtain ⟨ha, rfl⟩ := Array.getElem?_eq_some_iff.mp hc
    have q := List.all_eq_true.mp ((Array.all_eq_true_iff_forall_mem.mp hF) _ (Array.getElem_mem ha)) i (List.mem_range.mpr hi)
    simpa [Array.getElem?_eq_getElem hi] using q
  obtain ⟨i0, ei0⟩ := isL_v g3
  obtain rfl : w0 = (.long i0) := Option.some.inj ei0
  obtain ⟨i1, ei1⟩ := isL_v g5
  obtain rfl : w1 = (.long i1) := Option.some.inj ei1
  obtain ⟨i2, ei2⟩ := is_v g6
  obtain rfl : w2 = (.int i2) := Option.some.inj ei2
  obtain ⟨n, o, h1, h2, h3, _, L, rfl, ⟨rfl, N⟩, hq⟩ := rm_law l s _ hw tables_1 i0 i1 i2 s.heap s.heap.size (Nat.le_refl _) p e ha hc hk s m _ below hf ((Spec.applies_iff_loose hf).mp happ).1 ⟨rfl, State.Warmed39.refl s, rfl⟩ trivial
  refine ⟨n, _, h1, h2, h3, hpost _ _ _ _ _ _ ⟨Cond.after_iff.mpr rfl, Cond.after_iff.mpr (eq_i res_at (Term.int_eval (1)) rfl), trivial⟩ ⟨hq.1, hq.2.1, (hq.2.2.sift fun y hy => Or.inr (N y hy)).mono (by decide) (by decide)⟩⟩
theorem main_1_1 : Claimed_1_1 := comes_1 fun _ _ _ _ _ _ h hF => ⟨h.1, hF⟩
theorem main_1_2 : Claimed_1_2 := comes_1 fun _ _ _ _ _ _ h hF => ⟨h.2.1, hF⟩
end Jvm.Pilot.@@N@@
namespace Jvm.Pilot.@@N@@
open Jvm Jvm.ClassFile Sem Op Lib Jvm.Free Jvm.Stand Jvm.Pilot.@@N@@.Jvm.D
/-! MADE BY PROGRAM (witnessworld.py) out of the Statement's table words and the real class files: 11 classes; the members and pool entries that the words name. The judged class is class 1, her method 2. -/
namespace start1
open Jvm.ClassFile
def u (s : String) : CpInfo := .utf8 (stringToUtf16 s)
/-- a pool by its gaps: so many unusable entries, then the entry; so many at the end -/
def gap : Nat → List CpInfo → List CpInfo
  | 0, r => r
  | n + 1, r => .unusable :: gap n r
def poolList (es : List (Nat × CpInfo)) (last : Nat) : List CpInfo := es.foldr (fun e r => gap e.1 (e.2 :: r)) (gap last [])
def pool (es : List (Nat × CpInfo)) (last : Nat) : Array CpInfo := ⟨poolList es last⟩
def fileOf (pool : Array CpInfo) (this : Nat) (attrs : Array Attribute := #[]) (ms : Array MethodInfo := #[]) (fl : Nat := 33) (sup : Nat := 0) (ifs : Array Nat := #[]) (fds : Array FieldInfo := #[]) : ClassFile where
  minorVersion := 0
  majorVersion := 65
  constantPool := pool
  accessFlags := fl
  thisClass := this
  superClass := sup
  interfaces := ifs
  fields := fds
  methods := ms
  attributes := attrs
def plain (name : String) (sup : Option ClassId) : Class where
  name := name
  kind := .ordinary
  loader := none
  accessFlags := 33
  super := sup
  interfaces := #[]
  cf := none
  fields := #[]
  methods := #[]
  instanceTypes := #[]
  staticTypes := #[]
  resolved := #[]
  callSites := []
  init := .initialized
  statics := none
  mirror := none

def pool0 : Array CpInfo := pool [(5, u "<init>"), (0, u "()V"), (1, .class_ 10), (1, u "java/lang/Object")] 113

def k0m0 : Method := { name := "<init>", desc := "()V", sig := { parameters := [], returnType := none }, accessFlags := 1, code := none }
/-- java/lang/Object -/
def k0 : Class := { plain "java/lang/Object" none with
  accessFlags := 33
  interfaces := #[]
  cf := some (fileOf pool0 8 #[] #[{ accessFlags := 1, nameIndex := 5, descriptorIndex := 6, attributes := #[] }] 33 0 #[] #[])
  fields := #[]
  methods := #[k0m0]
  instanceTypes := #[]
  staticTypes := #[]
  resolved := Array.replicate 124 none
  statics := none }

def pool1 : Array CpInfo := pool [(2, .class_ 4), (1, u "java/lang/Object"), (0, u "<init>"), (0, u "()V"), (0, .integer 2147483647), (0, .methodref 9 10), (0, .class_ 11), (0, .nameAndType 12 13), (0, u "com/example/unearth/unearth/search/DenseVectorsDotPinLaw"), (0, u "part"), (0, u "(JI)J"), (0, .methodref 15 16), (0, .class_ 17), (0, .nameAndType 18 19), (0, u "com/example/unearth/unearth/search/DenseVectors"), (0, u "dot"), (0, u "([D[D)D"), (3, u "law"), (0, u "(JJI)Z")] 4

def k1m0 : Method := { name := "<init>", desc := "()V", sig := { parameters := [], returnType := none }, accessFlags := 2, code := none }
def k1c1 : Code := { maxStack := 3, maxLocals := 3, code := method_2_code, exceptionTable := #[], attributes := #[] }
def k1m1 : Method := { name := "part", desc := "(JI)J", sig := { parameters := [.long, .int], returnType := some .long }, accessFlags := 10, code := some k1c1 }
def k1c2 : Code := { maxStack := 6, maxLocals := 24, code := code, exceptionTable := #[], attributes := #[] }
def k1m2 : Method := { name := "law", desc := "(JJI)Z", sig := { parameters := [.long, .long, .int], returnType := some .boolean }, accessFlags := 9, code := some k1c2 }
/-- com/example/unearth/unearth/search/DenseVectorsDotPinLaw -/
def k1 : Class := { plain "com/example/unearth/unearth/search/DenseVectorsDotPinLaw" (some 0) with
  accessFlags := 49
  interfaces := #[]
  cf := some (fileOf pool1 9 #[] #[{ accessFlags := 2, nameIndex := 5, descriptorIndex := 6, attributes := #[] }, { accessFlags := 10, nameIndex := 12, descriptorIndex := 13, attributes := #[] }, { accessFlags := 9, nameIndex := 23, descriptorIndex := 24, attributes := #[] }] 49 2 #[] #[])
  fields := #[]
  methods := #[k1m0, k1m1, k1m2]
  instanceTypes := #[]
  staticTypes := #[]
  resolved := Array.replicate 29 none
  statics := none }

def pool2 : Array CpInfo := pool [(2, .class_ 4), (1, u "java/lang/Object"), (0, u "<init>"), (0, u "()V"), (1, .class_ 10), (1, u "com/example/unearth/unearth/search/DenseVectors"), (0, u "dot"), (0, u "([D[D)D")] 19

def k2m0 : Method := { name := "<init>", desc := "()V", sig := { parameters := [], returnType := none }, accessFlags := 2, code := none }
def k2c1 : Code := { maxStack := 6, maxLocals := 5, code := prog_21_method_2_code, exceptionTable := #[], attributes := #[] }
def k2m1 : Method := { name := "dot", desc := "([D[D)D", sig := { parameters := [(.array .double), (.array .double)], returnType := some .double }, accessFlags := 8, code := some k2c1 }
/-- com/example/unearth/unearth/search/DenseVectors -/
def k2 : Class := { plain "com/example/unearth/unearth/search/DenseVectors" (some 0) with
  accessFlags := 32
  interfaces := #[]
  cf := some (fileOf pool2 8 #[] #[{ accessFlags := 2, nameIndex := 5, descriptorIndex := 6, attributes := #[] }, { accessFlags := 8, nameIndex := 11, descriptorIndex := 12, attributes := #[] }] 32 2 #[] #[])
  fields := #[]
  methods := #[k2m0, k2m1]
  instanceTypes := #[]
  staticTypes := #[]
  resolved := Array.replicate 32 none
  statics := none }

def pool3 : Array CpInfo := pool [(1, u "java/lang/Cloneable"), (0, .class_ 1), (0, u "java/lang/Object"), (0, .class_ 3)] 3

/-- java/lang/Cloneable -/
def k3 : Class := { plain "java/lang/Cloneable" (some 0) with
  accessFlags := 1537
  interfaces := #[]
  cf := some (fileOf pool3 2 #[] #[] 1537 4 #[] #[])
  fields := #[]
  methods := #[]
  instanceTypes := #[]
  staticTypes := #[]
  resolved := Array.replicate 8 none
  statics := none }

def pool4 : Array CpInfo := pool [(1, u "java/io/Serializable"), (0, .class_ 1), (0, u "java/lang/Object"), (0, .class_ 3)] 3

/-- java/io/Serializable -/
def k4 : Class := { plain "java/io/Serializable" (some 0) with
  accessFlags := 1537
  interfaces := #[]
  cf := some (fileOf pool4 2 #[] #[] 1537 4 #[] #[])
  fields := #[]
  methods := #[]
  instanceTypes := #[]
  staticTypes := #[]
  resolved := Array.replicate 8 none
  statics := none }

/-- the primitive byte -/
def k5 : Class := { plain "byte" none with kind := .primitive 'B', accessFlags := 0x411 }
/-- [B -/
def k6 : Class := { plain "[B" (some 0) with kind := .array 5 .byte, interfaces := #[3, 4], accessFlags := 1041 }

/-- the primitive double -/
def k7 : Class := { plain "double" none with kind := .primitive 'D', accessFlags := 0x411 }
/-- [D -/
def k8 : Class := { plain "[D" (some 0) with kind := .array 7 .double, interfaces := #[3, 4], accessFlags := 1041 }

/-- the primitive int -/
def k9 : Class := { plain "int" none with kind := .primitive 'I', accessFlags := 0x411 }
/-- [I -/
def k10 : Class := { plain "[I" (some 0) with kind := .array 9 .int, interfaces := #[3, 4], accessFlags := 1041 }

def heap : Heap := #[]
def classes : Array Class := #[k0, k1, k2, k3, k4, k5, k6, k7, k8, k9, k10]
def interned : List (Array UInt16 × Addr) := []
def slotsUsed : Nat := 0
def theMethod : MethodId := ⟨1, 2⟩
def args0 : Array Value := #[.long 7, .long 9, .int 3]
def aboutOver (below : List Frame) : State where
  vm := { classes := classes, interned := interned.toArray }
  heap := heap
  slotsUsed := slotsUsed
  threads := #[{ frames := .invoking theMethod args0 :: below }]
def below0 : List Frame := [.native { method := ⟨0, 0⟩, args := #[] }]
def about1 : State := aboutOver below0
def p0 : Program := .bare "" "" ""
def e0 : Env := launch0.env 0 0 0
theorem w_frames : about1.frames = Frame.invoking theMethod args0 :: below0 := rfl
set_option maxRecDepth 65536 in
theorem w_args : argsFit about1.vm theMethod args0 = true := by decide +kernel
set_option maxRecDepth 65536 in
theorem w_heap : heapFits about1 = true := by decide +kernel
set_option maxRecDepth 65536 in
theorem w_runnable : about1.curStatus? = some .runnable := by decide +kernel
set_option maxRecDepth 65536 in
theorem w_alone : about1.alone = true := by decide +kernel
set_option maxRecDepth 65536 in
theorem w_named : about1.methodNamed? x = some theMethod := by decide +kernel
set_option maxRecDepth 65536 in
theorem w_hears : about1.hears theMethod below0 = true := by decide +kernel
set_option maxRecDepth 65536 in
theorem w_ripe : about1.ripe theMethod args0 below0 = true := by decide +kernel
theorem w_running : about1.status = .running := rfl
set_option maxRecDepth 65536 in
theorem w_room : about1.hasRoom e0.platform room_1 = true :=
  launch0.hasRoom_least _ room_1 (by decide +kernel) (by decide +kernel) (by decide +kernel) (by decide +kernel) (by decide +kernel) (by decide +kernel)
theorem allAtoms_all (ts : List Jvm.Cond) (a : Array Jvm.Value) (st : Jvm.State) : (allAtoms ts).before a st = ts.all (fun c => c.before a st) := by
  induction ts with
  | nil => rfl
  | cons c t ih =>
    show (Jvm.Cond.and c (allAtoms t)).before a st = _
    rw [Jvm.Cond.before_and, ih, List.all_cons]
def words1 : List Jvm.Cond := Jvm.Cond.code x code maxLocals ret :: tables_1
/-- a 'code' word, met by the world's own term for the bytes: nothing is compared byte by byte -/
theorem code_word {y : MethodName} {bytes : ByteArray} {mx : Nat} {rt : Option FieldType} {a : Array Value} {s : State} {m : MethodId} {meth : Method} {c : Code} (h1 : s.methodNamed? y = some m) (h2 : s.vm.method? m = some meth) (h3 : meth.code = some c) (h4 : c.code = bytes)
    (h5 : (c.maxLocals == mx && c.exceptionTable.isEmpty && decide (c.maxStack ≤ mostOperands) && decide (meth.sig.returnType = rt) && !meth.locks && decide (parseMethodDescriptor y.desc = some meth.sig)) = true) : (Jvm.Cond.code y bytes mx rt).before a s = true := by
  simp only [Bool.and_eq_true, beq_iff_eq, Bool.not_eq_true', decide_eq_true_eq] at h5
  obtain ⟨⟨⟨⟨⟨g1, g2⟩, g3⟩, g4⟩, g5⟩, g6⟩ := h5
  simp [Cond.before, Cond.holds, Cond.value, h1, h2, h3, h4, g1, g2, g3, g4, g5, g6]
def isCode : Jvm.Cond → Bool
  | .code _ _ _ _ => true
  | _ => false
theorem all_split {L : List Jvm.Cond} {P : Jvm.Cond → Bool} (h1 : L.all (fun c => isCode c || P c) = true) (h2 : ∀ c ∈ L.filter isCode, P c = true) : L.all P = true := by
  refine List.all_eq_true.mpr fun c hc => ?_
  have h := List.all_eq_true.mp h1 c hc
  rcases Bool.eq_false_or_eq_true (isCode c) with hi | hi
  · exact h2 c (List.mem_filter.mpr ⟨hc, hi⟩)
  · simpa [hi] using h
set_option maxRecDepth 65536 in
theorem w_c0 : (Jvm.Cond.code x code maxLocals ret).before args0 about1 = true := code_word (m := ⟨1, 2⟩) (meth := k1m2) (c := k1c2) (by decide +kernel) rfl rfl rfl (by decide +kernel)
set_option maxRecDepth 65536 in
theorem w_c1 : (Jvm.Cond.code ({ cls := "com/example/unearth/unearth/search/DenseVectorsDotPinLaw", name := "part", desc := "(JI)J" } : Jvm.MethodName) method_2_code (3 : Nat) (Option.some Jvm.ClassFile.FieldType.long)).before args0 about1 = true := code_word (m := ⟨1, 1⟩) (meth := k1m1) (c := k1c1) (by decide +kernel) rfl rfl rfl (by decide +kernel)
set_option maxRecDepth 65536 in
theorem w_c2 : (Jvm.Cond.code ({ cls := "com/example/unearth/unearth/search/DenseVectors", name := "dot", desc := "([D[D)D" } : Jvm.MethodName) prog_21_method_2_code (5 : Nat) (Option.some Jvm.ClassFile.FieldType.double)).before args0 about1 = true := code_word (m := ⟨2, 1⟩) (meth := k2m1) (c := k2c1) (by decide +kernel) rfl rfl rfl (by decide +kernel)
def codes1 : List Jvm.Cond := [Jvm.Cond.code x code maxLocals ret, Jvm.Cond.code ({ cls := "com/example/unearth/unearth/search/DenseVectorsDotPinLaw", name := "part", desc := "(JI)J" } : Jvm.MethodName) method_2_code (3 : Nat) (Option.some Jvm.ClassFile.FieldType.long), Jvm.Cond.code ({ cls := "com/example/unearth/unearth/search/DenseVectors", name := "dot", desc := "([D[D)D" } : Jvm.MethodName) prog_21_method_2_code (5 : Nat) (Option.some Jvm.ClassFile.FieldType.double)]
set_option maxRecDepth 65536 in
theorem codes_eq : words1.filter isCode = codes1 := rfl
theorem w_codes : ∀ c ∈ words1.filter isCode, c.before args0 about1 = true := by
  rw [codes_eq]
  intro c hc
  simp only [codes1, List.mem_cons, List.not_mem_nil, or_false] at hc
  rcases hc with rfl | rfl | rfl
  · exact w_c0
  · exact w_c1
  · exact w_c2
set_option maxRecDepth 65536 in
theorem w_t1 : words1.all (fun c => isCode c || c.before args0 about1) = true := by decide +kernel
theorem w_tables : (allAtoms (Jvm.Cond.code x code maxLocals ret :: tables_1)).before args0 about1 = true := by
  rw [allAtoms_all]
  show words1.all (fun c => c.before args0 about1) = true
  refine all_split ?_ w_codes
  rw [w_t1]
set_option maxRecDepth 65536 in
theorem w_case : (Jvm.Cond.and given_1 narrow_1).before args0 about1 = true := by decide +kernel
theorem w_applies : (headSpec (Jvm.Cond.code x code maxLocals ret :: tables_1) room_1).applies x e0.platform about1 = true :=
  (Spec.applies_iff w_frames).mpr ⟨w_running, w_runnable, w_alone, w_named, w_hears, w_ripe, w_room, w_tables⟩
theorem atStart : AtStart classFile x code maxLocals ret World_1 tables_1 room_1 Calls_1 rest_1 Pre_1 launch0 p0 e0 about1 theMethod args0 below0 :=
  ⟨lists_1, trivial, launch0.admits_env _ _ _, launch0.least_env, fairChoices_fair.cas, fairChoices_fair.clock, w_frames, w_args, w_heap, w_applies, trivial, trivial, w_case⟩
end start1
theorem witness_1 : WitnessClaimed_1 := ⟨start1.p0, start1.e0, start1.about1, start1.theMethod, start1.args0, start1.below0, start1.atStart⟩
end Jvm.Pilot.@@N@@
