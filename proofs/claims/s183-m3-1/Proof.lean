import JvmDerived
import JvmDerived.Pilot.@@N@@Statement
import JvmDerived.Pilot.@@N@@Code
set_option linter.unusedVariables false
set_option linter.unusedSimpArgs false
namespace Jvm.RoadKit
open Sem ClassFile Op Lib Jvm.Stand Jvm.Free Jvm.LawKit
section New
variable {p : Program} {l : Launch} {e : Env} {R : Room} {s : State} {m : MethodId} {args : Array Value} {below : List Frame} {meth : Method} {c : Code} {T : State} {locs : List Loc} {cells slots : Nat}
theorem retI (X : Stand p l e R s m args below meth c T locs cells slots) (hx : p.tables.exec = Jvm.exec) {pc : Nat} {Ls : Array Slot} {z : Int32} {rest : List Value} (hret : meth.sig.returnType = some .int) (hd : decode c.code pc = .ok (.ireturn, 1)) {fs : List Frame}
    (hl : ∀ (f : JFrame) (acts : List Action), f.method = m → f.locked = none → f.entered = [] → (doReturn e (T.setTop f) acts (some (.int z))).1 = T.setFrames fs) : Steps p.tables e below (T.setTop (mkF m pc Ls (.int z :: rest))) (T.setFrames fs) := by
  have hm' : T.vm.method? m = some meth := X.method'
  have hn : narrow .int (.int z) = .int z := rfl
  show Steps p.tables e below (T.setTop { method := m, pc := pc, locals := Ls, stack := _ :: rest, locked := none }) _
  jvm_step X.here [X.here.top, hx, hd, hm', hret, hn]
  first | (intro acts; rw [hl _ acts rfl rfl rfl]) | rw [hl _ _ rfl rfl rfl]
  exact Steps.refl _
end New
end Jvm.RoadKit
namespace Jvm.Pilot.@@N@@
open Jvm Jvm.ClassFile Sem Op Lib Jvm.Free Jvm.Stand Jvm.LawKit Jvm.RoadKit Bundle Jvm.Pilot.@@N@@.Jvm.D
section Own
variable {p : Program} {l : Launch} {e : Env} {R : Room} {s : State} {m : MethodId} {args : Array Value} {below : List Frame} {meth : Method} {c : Code} {T : State} {locs : List Loc} {cells slots : Nat} {Z : State} {a0 : Array Value} {h h' h0 : Heap} {a b : Addr} {C nm dd : String} {v w : Value} {sl n0 : Nat} {ws ws' : List (Addr × Nat)} {ty : FieldType} {k : ClassId} {z j : Int32} {vs : List Value} {dv : Value}
/-- the cells of h stand in h' as they stood, but for the places in ws -/
def KL (h h' : Heap) (ws : List (Addr × Nat)) : Prop := h.size ≤ h'.size ∧ ∀ (x : Addr) (c : Cell), h[x]? = some c → ∃ c' : Cell, h'[x]? = some c' ∧ c'.cls = c.cls ∧ c'.vm = c.vm ∧ c'.slots.size = c.slots.size ∧ (∀ i, (x, i) ∉ ws → c'.slots[i]? = c.slots[i]?) ∧ ((∀ w ∈ ws, w.1 ≠ x) → c' = c)
theorem KL.refl (h : Heap) (ws : List (Addr × Nat)) : KL h h ws := ⟨Nat.le_refl _, fun x c q => ⟨c, q, rfl, rfl, rfl, fun _ _ => rfl, fun _ => rfl⟩⟩
theorem KL.trans (K : KL h0 h ws) (K' : KL h h' ws') (q : ∀ w ∈ ws', w ∈ ws ∨ h0.size ≤ w.1) : KL h0 h' ws := by
  refine ⟨Nat.le_trans K.1 K'.1, fun x c hx => ?_⟩
  obtain ⟨c1, a1, a2, a3, a4, a5, a6⟩ := K.2 x c hx
  obtain ⟨c2, b1, b2, b3, b4, b5, b6⟩ := K'.2 x c1 a1
  have hlt : x < h0.size := (Array.getElem?_eq_some_iff.mp hx).1
  refine ⟨c2, b1, b2.trans a2, b3.trans a3, b4.trans a4, fun i hi => ?_, fun hn => ?_⟩
  · rw [b5 i fun hm => ?_]
    · exact a5 i hi
    · rcases q _ hm with u | u
      · exact hi u
      · exact absurd hlt (Nat.not_lt.mpr u)
  · rw [b6 fun w hw e => ?_]
    · exact a6 hn
    · rcases q w hw with u | u
      · exact hn w u e
      · subst e; exact absurd hlt (Nat.not_lt.mpr u)
theorem KL.ofE (E : Ext h h') : KL h h' [] := ⟨E.1, fun x c q => ⟨c, E.2 x c q, rfl, rfl, rfl, fun _ _ => rfl, fun _ => rfl⟩⟩
theorem KL.ofW (W : Wr h h' a sl v) : KL h h' [(a, sl)] := by
  refine ⟨Nat.le_of_eq W.size.symm, fun x c q => ?_⟩
  obtain ⟨c', e1, e2, e3, e4, e5, e6, -⟩ := wr_at W q
  refine ⟨c', e1, e2, e3, e4, fun i hi => ?_, fun hn => e5 fun e => hn _ (List.mem_singleton.mpr rfl) e.symm⟩
  by_cases ex : x = a
  · subst ex; exact e6 i fun ei => hi (by rw [ei]; exact List.mem_singleton.mpr rfl)
  · rw [e5 ex]
theorem KL.ofEq (q : h' = h) : KL h h' [] := q ▸ KL.refl h []
theorem nw0 {x : Addr × Nat} : x ∉ ([] : List (Addr × Nat)) := fun q => nomatch q
theorem nwS {i i' : Nat} {L : List (Addr × Nat)} (q : a ≠ b ∨ i ≠ i') (r : (a, i) ∉ L) : (a, i) ∉ (b, i') :: L := fun y => by
  rcases List.mem_cons.mp y with u | u
  · obtain ⟨u1, u2⟩ := Prod.mk.inj u; exact q.elim (fun f => f u1) (fun f => f u2)
  · exact r u
theorem na0 {P : Addr × Nat → Prop} : ∀ w ∈ ([] : List (Addr × Nat)), P w := fun _ q => nomatch q
theorem naS {P : Addr × Nat → Prop} {x : Addr × Nat} {L : List (Addr × Nat)} (q : P x) (r : ∀ w ∈ L, P w) : ∀ w ∈ x :: L, P w := fun w y => by
  rcases List.mem_cons.mp y with u | u
  · exact u ▸ q
  · exact r w u
theorem kFld (K : KL h h' ws) (F : Fld Z h a C nm dd v) (q : (a, Jvm.RoadKit.slotOf Z C nm dd) ∉ ws) : Fld Z h' a C nm dd v := by
  obtain ⟨cell, cf, k, i, f, h1, h2, h3, h4, h5, h6, h7⟩ := F
  obtain ⟨c', e1, e2, e3, -, e5, -⟩ := K.2 a cell h1
  refine ⟨c', cf, k, i, f, e1, h2, h3, by rw [e3]; exact h4, by rw [e3]; exact h5, by rw [e2]; exact h6, ?_⟩
  rw [e5 f.slot (by simpa [Jvm.RoadKit.slotOf, h2] using q)]; exact h7
theorem kExa (K : KL h h' ws) (F : Exa Z h a C) : Exa Z h' a C := by
  obtain ⟨cell, k, h1, h2, h3, h4, h5⟩ := F
  obtain ⟨c', e1, e2, e3, e4, -⟩ := K.2 a cell h1
  exact ⟨c', k, e1, by rw [e2]; exact h2, by rw [e2]; exact h3, by rw [e3]; exact h4, by rw [e4]; exact h5⟩
theorem kArv (K : KL h h' ws) (F : Arv Z h a k ty z vs dv) (q : ∀ w ∈ ws, w.1 ≠ a) : Arv Z h' a k ty z vs dv := by
  obtain ⟨c, A, r⟩ := F
  obtain ⟨c', e1, -, -, -, -, e6⟩ := K.2 a c A.1
  exact ⟨c, ⟨(e6 q) ▸ e1, A.2⟩, r⟩
theorem kOld (K : KL h h' ws) (O : Old Z n0 h) (q : ∀ w ∈ ws, n0 ≤ w.1) : Old Z n0 h' := by
  refine ⟨O.1, Nat.le_trans O.2.1 K.1, fun x c hx => ?_⟩
  obtain ⟨c', e1, -, -, -, -, e6⟩ := K.2 x c (O.2.2 x c hx)
  have hlt : x < n0 := O.1 ▸ (Array.getElem?_eq_some_iff.mp hx).1
  rw [← e6 fun w hw e => absurd hlt (Nat.not_lt.mpr (e ▸ q w hw))]; exact e1
theorem lt_ne (q : a < h.size) (r : h.size ≤ b) : a ≠ b := Nat.ne_of_lt (Nat.lt_of_lt_of_le q r)
theorem own_wr {g : JFrame} {rest : List Value} {W : Nat} (q : g.monitorRoom = 0) (r : (rest.map fun v => v.category).sum = W) : 2 * g.monitorRoom + (rest.map fun v => v.category).sum ≤ W := by rw [q, r]; omega
theorem naO {x : Addr × Nat} {L : List (Addr × Nat)} (q : x ∈ ws ∨ sl ≤ x.1) (r : ∀ w ∈ L, w ∈ ws ∨ sl ≤ w.1) : ∀ w ∈ x :: L, w ∈ ws ∨ sl ≤ w.1 := naS (P := fun w => w ∈ ws ∨ sl ≤ w.1) q r
theorem naN {x : Addr × Nat} {L : List (Addr × Nat)} (q : x.1 ≠ a) (r : ∀ w ∈ L, w.1 ≠ a) : ∀ w ∈ x :: L, w.1 ≠ a := naS (P := fun w => w.1 ≠ a) q r
theorem own_mi {x : Addr × Nat} (i : Nat) (q : ws[i]? = some x) : x ∈ ws ∨ sl ≤ x.1 := Or.inl (List.mem_of_getElem? q)
theorem naB {P : Addr → Prop} {L : List (Addr × Nat)} (n : Nat) (e : (List.range n).map (fun i => (b, i)) = L) (q : P b) : ∀ w ∈ L, P w.1 := fun w hw => by
  rw [← e] at hw
  obtain ⟨i, -, rfl⟩ := List.mem_map.mp hw
  exact q
theorem naNB {L : List (Addr × Nat)} (n : Nat) (e : (List.range n).map (fun i => (b, i)) = L) (q : b ≠ a) : ∀ w ∈ L, w.1 ≠ a := naB (P := fun x => x ≠ a) n e q
theorem naOB {L : List (Addr × Nat)} (n : Nat) (e : (List.range n).map (fun i => (b, i)) = L) (q : sl ≤ b) : ∀ w ∈ L, w ∈ ws ∨ sl ≤ w.1 := fun w hw => Or.inr (naB (P := fun x => sl ≤ x) n e q w hw)
theorem nwB {i : Nat} {L : List (Addr × Nat)} (n : Nat) (e : (List.range n).map (fun i => (b, i)) = L) (q : a ≠ b) : (a, i) ∉ L := fun y => naB (P := fun x => x ≠ a) n e q.symm _ y rfl
theorem naM {Q : Addr × Nat → Prop} {L : List (Addr × Nat)} (n : Nat) (e : (L.take n).map Prod.fst = List.replicate n b) (q : ∀ i, Q (b, i)) (r : ∀ w ∈ L.drop n, Q w) : ∀ w ∈ L, Q w := fun w hw => by
  rw [← List.take_append_drop n L] at hw
  rcases List.mem_append.mp hw with u | u
  · have h1 := List.mem_map_of_mem (f := Prod.fst) u
    rw [e] at h1
    have h2 := List.eq_of_mem_replicate h1
    obtain ⟨x, i⟩ := w
    have h3 : x = b := h2
    rw [h3]; exact q i
  · exact r w u
theorem naNM {L : List (Addr × Nat)} (n : Nat) (e : (L.take n).map Prod.fst = List.replicate n b) (q : b ≠ a) (r : ∀ w ∈ L.drop n, w.1 ≠ a) : ∀ w ∈ L, w.1 ≠ a := naM (Q := fun w => w.1 ≠ a) n e (fun _ => q) r
theorem naOM {L : List (Addr × Nat)} (n : Nat) (e : (L.take n).map Prod.fst = List.replicate n b) (q : sl ≤ b) (r : ∀ w ∈ L.drop n, w ∈ ws ∨ sl ≤ w.1) : ∀ w ∈ L, w ∈ ws ∨ sl ≤ w.1 := naM (Q := fun w => w ∈ ws ∨ sl ≤ w.1) n e (fun _ => Or.inr q) r
theorem naGM {L : List (Addr × Nat)} (n : Nat) (e : (L.take n).map Prod.fst = List.replicate n b) (q : sl ≤ b) (r : ∀ w ∈ L.drop n, sl ≤ w.1) : ∀ w ∈ L, sl ≤ w.1 := naM (Q := fun w => sl ≤ w.1) n e (fun _ => q) r
theorem nwM {i : Nat} {L : List (Addr × Nat)} (n : Nat) (e : (L.take n).map Prod.fst = List.replicate n b) (q : a ≠ b) (r : (a, i) ∉ L.drop n) : (a, i) ∉ L := fun y => naM (Q := fun w => w ≠ (a, i)) n e (fun _ z => q (Prod.mk.inj z).1.symm) (fun w hw z => r (z ▸ hw)) _ y rfl
theorem own_retJ (X : Stand p l e R s m args below meth c T locs cells slots) (hx : p.tables.exec = Jvm.exec) {pc : Nat} {Ls : Array Slot} {z : Int64} {rest : List Value} (hret : meth.sig.returnType = some .long) (hd : decode c.code pc = .ok (.lreturn, 1)) {fs : List Frame}
    (hl : ∀ (f : JFrame) (acts : List Action), f.method = m → f.locked = none → f.entered = [] → (doReturn e (T.setTop f) acts (some (.long z))).1 = T.setFrames fs) : Steps p.tables e below (T.setTop (mkF m pc Ls (.long z :: rest))) (T.setFrames fs) := by
  have hm' : T.vm.method? m = some meth := X.method'
  show Steps p.tables e below (T.setTop { method := m, pc := pc, locals := Ls, stack := _ :: rest, locked := none }) _
  jvm_step X.here [X.here.top, hx, hd, hm', hret, narrow]
  first | (intro acts; rw [hl _ acts rfl rfl rfl]) | rw [hl _ _ rfl rfl rfl]
  exact Steps.refl _
theorem own_retD (X : Stand p l e R s m args below meth c T locs cells slots) (hx : p.tables.exec = Jvm.exec) {pc : Nat} {Ls : Array Slot} {z : UInt64} {rest : List Value} (hret : meth.sig.returnType = some .double) (hd : decode c.code pc = .ok (.dreturn, 1)) {fs : List Frame}
    (hl : ∀ (f : JFrame) (acts : List Action), f.method = m → f.locked = none → f.entered = [] → (doReturn e (T.setTop f) acts (some (.double z))).1 = T.setFrames fs) : Steps p.tables e below (T.setTop (mkF m pc Ls (.double z :: rest))) (T.setFrames fs) := by
  have hm' : T.vm.method? m = some meth := X.method'
  show Steps p.tables e below (T.setTop { method := m, pc := pc, locals := Ls, stack := _ :: rest, locked := none }) _
  jvm_step X.here [X.here.top, hx, hd, hm', hret, narrow]
  first | (intro acts; rw [hl _ acts rfl rfl rfl]) | rw [hl _ _ rfl rfl rfl]
  exact Steps.refl _
theorem own_nf {x0 y0 y : MethodName} (w : (Cond.selects C x0 y0).before args s = true) (hyy : y0.cls = y.cls) : NotFace s y := fun r0 h0 => by
  obtain ⟨_, _, m2, -, -, q3, -, kr, hkr, hni⟩ := Cond.selects_spec w
  have hc2 := findClass_of_methodNamed q3
  rw [hyy, findClass_of_methodNamed h0] at hc2
  rw [← Option.some.inj hc2] at hkr
  exact ⟨kr, hkr, hni⟩
theorem own_nsR {O K : String} {n : Nat} (w : (Cond.noSuperclass O).before a0 Z = true) (wk : (Cond.instantiable K n).before a0 Z = true) (hn : O ≠ K) : NS Z O K := by
  obtain ⟨c, k, h1, h2, h3, -, -⟩ := Cond.noSuperclass_spec w
  obtain ⟨t, k', g1, -⟩ := Cond.instantiable_spec wk
  have ne := ids_ne h1 g1 hn
  refine ⟨c, t, h1, g1, fun fuel => ?_⟩
  cases fuel with
  | zero => rfl
  | succ f => simp [Vm.isSubclassAux, ne, h2, h3]
theorem own_nsN {S K : String} {n : Nat} (w : (Cond.superclass C S).before a0 Z = true) (wk : (Cond.instantiable K n).before a0 Z = true) (q : NS Z C K) (hn : C ≠ K) : ∃ c t, Z.vm.findClass C = some c ∧ Z.vm.findClass K = some t ∧ Z.vm.assignable c t = false := by
  obtain ⟨c, t, h0, g0, n3⟩ := q
  obtain ⟨p, k, kp, h1, h2, h3, h4, h5, -, h7⟩ := Cond.superclass_spec h0 w
  obtain ⟨t', k', g1, g2, g5, g7, -⟩ := Cond.instantiable_spec wk
  cases g0.symm.trans g1
  have g8 : k'.isInterface = false := by
    cases hi : k'.isInterface with
    | false => rfl
    | true => simp [hi] at g7
  have ne := ids_ne h0 g0 hn
  refine ⟨c, t, h0, g0, ?_⟩
  show Z.vm.assignableAux (255 + 1) c t = false
  simp [Vm.assignableAux, ne, h2, g2, h5, g5, g8, Vm.isSubclass, n3]
theorem own_static (X : Stand p l e R s m args below meth c T locs cells slots) (hx : p.tables.exec = Jvm.exec) (hZ : Z.Warmed39 s.vm) {own : String} {index : Nat} {y : MethodName} {bytes : ByteArray} {maxL : Nat} {ret : Option FieldType} {rm : Room} {Q : Option Value → Heap → List Loc → Prop} {as' : Array Value}
    (hown : s.vm.findClass own = some m.cls) (w1 : (Cond.methodLink own index y).before a0 Z = true) (w2 : (Cond.static y).before a0 Z = true) (w3 : (Cond.initialized y.cls).before a0 Z = true) (w4 : (Cond.code y bytes maxL ret).before a0 Z = true) (hy : y.cls ≠ "java/lang/invoke/MethodHandle" ∧ y.cls ≠ "java/lang/invoke/VarHandle")
    (hM : MetFree l y (head1 [Cond.code y bytes maxL ret] rm) (fun a U => a = as' ∧ Z.Warmed39 U.vm ∧ U.heap = h) (fun _ _ _ _ _ => True) (fun _ U o U' => ∃ v L, o = .returned v ∧ Q v U'.heap L ∧ FrameEnd U o U' L rm.cells rm.slots))
    (eT : T.heap = h) {W : Nat} (hR : rm.frames + 1 ≤ R.frames ∧ W + (maxL + 11) + rm.locals ≤ R.locals ∧ cells + rm.cells ≤ R.cells ∧ slots + rm.slots ≤ R.slots)
    {g : JFrame} (hg : g.method = m) (hsize : g.locals.size = c.maxLocals) {argsL rest : List Value} (hlen : ∀ sig, parseMethodDescriptor y.desc = some sig → argsL.length = sig.parameters.length) (hstack : g.stack = argsL.reverse ++ rest) (has : argsL.toArray = as') (hW : 2 * g.monitorRoom + (rest.map fun v => v.category).sum ≤ W) (hd : decode c.code g.pc = .ok (.invokestatic index, 3)) :
    ∃ (v : Option Value) (T' : State) (L : List Loc), Stand p l e R s m args below meth c T' (locs ++ L) (cells + rm.cells) (slots + rm.slots) ∧ Q v T'.heap L ∧ ∀ target, Steps p.tables e below (T'.setTop { g with pc := g.pc + 3, stack := v.toList ++ rest }) target → Steps p.tables e below (T.setTop g) target := by
  obtain ⟨v, _, ⟨T', L', k', n'⟩, -, X', ⟨L, hQ, l1, l2, l3⟩, st⟩ := Jvm.LawKit.callS X hx (y := y) hown (mvT hZ w1) (mvT hZ w2) (mvT hZ w3) (mvT hZ w4) hy (backOf (W := W) hM hZ w4 w3 hR.1 hR.2.1) (g := g) hg hsize (argsL := argsL) (rest := rest) hlen hstack hW hd (fun _ _ => ⟨has, eT, hR.2.2.1, hR.2.2.2⟩)
  dsimp only [Pt.U, Pt.locs, Pt.cells, Pt.slots] at X' l1 l2 l3 st hQ
  subst l1 l2 l3
  exact ⟨v, T', L, X', hQ, st⟩
theorem own_init (X : Stand p l e R s m args below meth c T locs cells slots) (hx : p.tables.exec = Jvm.exec) (hZ : Z.Warmed39 s.vm) {own : String} {index : Nat} {y : MethodName} {bytes : ByteArray} {maxL : Nat} {rm : Room} {Q : Option Value → Heap → List Loc → Prop} {as' : Array Value} (hy1 : y.name = "<init>")
    (hown : s.vm.findClass own = some m.cls) (w1 : (Cond.methodLink own index y).before a0 Z = true) (w2 : (Cond.instanceMethod y).before a0 Z = true) (w3 : (Cond.initialized y.cls).before a0 Z = true) (w4 : (Cond.code y bytes maxL none).before a0 Z = true) (hy : y.cls ≠ "java/lang/invoke/MethodHandle" ∧ y.cls ≠ "java/lang/invoke/VarHandle")
    (hM : MetFree l y (head1 [Cond.code y bytes maxL none] rm) (fun a U => a = as' ∧ Z.Warmed39 U.vm ∧ U.heap = h) (fun _ _ _ _ _ => True) (fun _ U o U' => ∃ v L, o = .returned v ∧ Q v U'.heap L ∧ FrameEnd U o U' L rm.cells rm.slots))
    (eT : T.heap = h) {W : Nat} (hR : rm.frames + 1 ≤ R.frames ∧ W + (maxL + 11) + rm.locals ≤ R.locals ∧ cells + rm.cells ≤ R.cells ∧ slots + rm.slots ≤ R.slots)
    {g : JFrame} (hg : g.method = m) (hsize : g.locals.size = c.maxLocals) {argsL rest : List Value} (hlen : ∀ sig, parseMethodDescriptor y.desc = some sig → argsL.length = sig.parameters.length) (hstack : g.stack = argsL.reverse ++ .ref a :: rest) (has : (.ref a :: argsL).toArray = as') (hW : 2 * g.monitorRoom + (rest.map fun v => v.category).sum ≤ W) (hd : decode c.code g.pc = .ok (.invokespecial index, 3)) :
    ∃ (v : Option Value) (T' : State) (L : List Loc), Stand p l e R s m args below meth c T' (locs ++ L) (cells + rm.cells) (slots + rm.slots) ∧ Q v T'.heap L ∧ ∀ target, Steps p.tables e below (T'.setTop { g with pc := g.pc + 3, stack := v.toList ++ rest }) target → Steps p.tables e below (T.setTop g) target := by
  obtain ⟨v, _, ⟨T', L', k', n'⟩, -, X', ⟨L, hQ, l1, l2, l3⟩, st⟩ := X.specialBack hx (y := y) hy1 hown (mvT hZ w1) (mvT hZ w2) (mvT hZ w4) hy (backOf (W := W) hM hZ w4 w3 hR.1 hR.2.1) (g := g) hg hsize (Steps.refl _) (a := a) (argsL := argsL) (rest := rest) hlen hstack hW hd (fun _ _ => ⟨has, eT, hR.2.2.1, hR.2.2.2⟩)
  dsimp only [Pt.U, Pt.locs, Pt.cells, Pt.slots] at X' l1 l2 l3 st hQ
  subst l1 l2 l3
  exact ⟨v, T', L, X', hQ, fun _ t => st.trans t⟩
theorem own_virtual (X : Stand p l e R s m args below meth c T locs cells slots) (hx : p.tables.exec = Jvm.exec) (hZ : Z.Warmed39 s.vm) {own : String} {index : Nat} {y z : MethodName} {bytes : ByteArray} {maxL : Nat} {ret : Option FieldType} {rm : Room} {Q : Option Value → Heap → List Loc → Prop} {as' : Array Value}
    (hown : s.vm.findClass own = some m.cls) (w1 : (Cond.methodLink own index y).before a0 Z = true) (w2 : (Cond.declares y).before a0 Z = true) (hnf : NotFace s y) (w5 : (Cond.selects C y z).before a0 Z = true) (w6 : (Cond.instanceMethod z).before a0 Z = true) (w3 : (Cond.initialized z.cls).before a0 Z = true) (w4 : (Cond.code z bytes maxL ret).before a0 Z = true) (hy : y.cls ≠ "java/lang/invoke/MethodHandle" ∧ y.cls ≠ "java/lang/invoke/VarHandle")
    (hM : MetFree l z (head1 [Cond.code z bytes maxL ret] rm) (fun a U => a = as' ∧ Z.Warmed39 U.vm ∧ U.heap = h) (fun _ _ _ _ _ => True) (fun _ U o U' => ∃ v L, o = .returned v ∧ Q v U'.heap L ∧ FrameEnd U o U' L rm.cells rm.slots))
    (eT : T.heap = h) (E : Exa Z h a C) {W : Nat} (hR : rm.frames + 1 ≤ R.frames ∧ W + (maxL + 11) + rm.locals ≤ R.locals ∧ cells + rm.cells ≤ R.cells ∧ slots + rm.slots ≤ R.slots)
    {g : JFrame} (hg : g.method = m) (hsize : g.locals.size = c.maxLocals) {argsL rest : List Value} (hlen : ∀ sig, parseMethodDescriptor y.desc = some sig → argsL.length = sig.parameters.length) (hstack : g.stack = argsL.reverse ++ .ref a :: rest) (has : (.ref a :: argsL).toArray = as') (hW : 2 * g.monitorRoom + (rest.map fun v => v.category).sum ≤ W) (hd : decode c.code g.pc = .ok (.invokevirtual index, 3)) :
    ∃ (v : Option Value) (T' : State) (L : List Loc), Stand p l e R s m args below meth c T' (locs ++ L) (cells + rm.cells) (slots + rm.slots) ∧ Q v T'.heap L ∧ ∀ target, Steps p.tables e below (T'.setTop { g with pc := g.pc + 3, stack := v.toList ++ rest }) target → Steps p.tables e below (T.setTop g) target := by
  obtain ⟨cq, kq, qa, qb, qc⟩ := isOf hZ eT E
  obtain ⟨v, _, ⟨T', L', k', n'⟩, -, X', ⟨L, hQ, l1, l2, l3⟩, st⟩ := X.virtualBack hx (y := y) (z := z) hown (mvT hZ w1) (mvT hZ w2) hnf (mvT hZ w5) (mvT hZ w6) hy (backOf (W := W) hM hZ w4 w3 hR.1 hR.2.1) qa qc (g := g) hg hsize (Steps.refl _) (argsL := argsL) (rest := rest) hlen hstack hW hd (fun _ _ => ⟨has, eT, hR.2.2.1, hR.2.2.2⟩)
  dsimp only [Pt.U, Pt.locs, Pt.cells, Pt.slots] at X' l1 l2 l3 st hQ
  subst l1 l2 l3
  exact ⟨v, T', L, X', hQ, fun _ t => st.trans t⟩
theorem own_private (X : Stand p l e R s m args below meth c T locs cells slots) (hx : p.tables.exec = Jvm.exec) (hZ : Z.Warmed39 s.vm) {own : String} {index : Nat} {y x0 y0 : MethodName} {bytes : ByteArray} {maxL : Nat} {ret : Option FieldType} {rm : Room} {Q : Option Value → Heap → List Loc → Prop} {as' : Array Value}
    (hown : s.vm.findClass own = some m.cls) (w1 : (Cond.methodLink own index y).before a0 Z = true) (w6 : (Cond.instanceMethod y).before a0 Z = true) (w5 : (Cond.selects C x0 y0).before a0 Z = true) (hyy : y0.cls = y.cls) (w7 : (Cond.privateMethod y).before a0 Z = true) (w3 : (Cond.initialized y.cls).before a0 Z = true) (w4 : (Cond.code y bytes maxL ret).before a0 Z = true) (hy : y.cls ≠ "java/lang/invoke/MethodHandle" ∧ y.cls ≠ "java/lang/invoke/VarHandle")
    (hM : MetFree l y (head1 [Cond.code y bytes maxL ret] rm) (fun a U => a = as' ∧ Z.Warmed39 U.vm ∧ U.heap = h) (fun _ _ _ _ _ => True) (fun _ U o U' => ∃ v L, o = .returned v ∧ Q v U'.heap L ∧ FrameEnd U o U' L rm.cells rm.slots))
    (eT : T.heap = h) (E : Exa Z h a nm) {W : Nat} (hR : rm.frames + 1 ≤ R.frames ∧ W + (maxL + 11) + rm.locals ≤ R.locals ∧ cells + rm.cells ≤ R.cells ∧ slots + rm.slots ≤ R.slots)
    {g : JFrame} (hg : g.method = m) (hsize : g.locals.size = c.maxLocals) {argsL rest : List Value} (hlen : ∀ sig, parseMethodDescriptor y.desc = some sig → argsL.length = sig.parameters.length) (hstack : g.stack = argsL.reverse ++ .ref a :: rest) (has : (.ref a :: argsL).toArray = as') (hW : 2 * g.monitorRoom + (rest.map fun v => v.category).sum ≤ W) (hd : decode c.code g.pc = .ok (.invokevirtual index, 3)) :
    ∃ (v : Option Value) (T' : State) (L : List Loc), Stand p l e R s m args below meth c T' (locs ++ L) (cells + rm.cells) (slots + rm.slots) ∧ Q v T'.heap L ∧ ∀ target, Steps p.tables e below (T'.setTop { g with pc := g.pc + 3, stack := v.toList ++ rest }) target → Steps p.tables e below (T.setTop g) target := by
  obtain ⟨cell, _, qa, -, -, qc, -⟩ := E
  obtain ⟨mk, methM, hnamed, hmethM, -, -⟩ := Cond.instanceMethod_spec (mvT hZ w6 : (Cond.instanceMethod y).before args _ = true)
  obtain ⟨_, _, m2, -, -, q3, -, kr, hkr, hni⟩ := Cond.selects_spec (mvT hZ w5 : (Cond.selects C x0 y0).before args _ = true)
  have hc2 := findClass_of_methodNamed q3
  rw [hyy] at hc2
  have hpr := Cond.privateMethod_at (mvT hZ w7 : (Cond.privateMethod y).before args _ = true)
  have hsel := Jvm.Stand.selects_self_of_private (args := args) hc2 hkr hni hpr (mvT hZ w6) hy
  obtain ⟨v, _, ⟨T', L', k', n'⟩, -, X', ⟨L, hQ, l1, l2, l3⟩, st⟩ := X.privateBack hx (y := y) hown (mvT hZ w1) (mvT hZ w6) hsel hpr (mvT hZ w4) hy (backOf (W := W) hM hZ w4 w3 hR.1 hR.2.1) (g := g) hg hsize (Steps.refl _) (a := a) (cell := cell) (by rw [eT]; exact qa) (fun q eq => by rw [eq] at qc; exact absurd qc (by simp [VmData.isStatics])) (argsL := argsL) (rest := rest) hlen hstack hW hd (fun _ _ => ⟨has, eT, hR.2.2.1, hR.2.2.2⟩)
  dsimp only [Pt.U, Pt.locs, Pt.cells, Pt.slots] at X' l1 l2 l3 st hQ
  subst l1 l2 l3
  exact ⟨v, T', L, X', hQ, fun _ t => st.trans t⟩
theorem own_super (X : Stand p l e R s m args below meth c T locs cells slots) (hx : p.tables.exec = Jvm.exec) (hZ : Z.Warmed39 s.vm) {own : String} {index : Nat} {y x0 y0 : MethodName} {bytes : ByteArray} {maxL : Nat} {ret : Option FieldType} {rm : Room} {Q : Option Value → Heap → List Loc → Prop} {as' : Array Value}
    (hown : s.vm.findClass own = some m.cls) (w1 : (Cond.methodLink own index y).before a0 Z = true) (w6 : (Cond.instanceMethod y).before a0 Z = true) (w5 : (Cond.selects C x0 y0).before a0 Z = true) (hyy : y0.cls = y.cls) (w8 : (Cond.superclass own y.cls).before a0 Z = true) (hyn : y.name ≠ "<init>") (w3 : (Cond.initialized y.cls).before a0 Z = true) (w4 : (Cond.code y bytes maxL ret).before a0 Z = true) (hy : y.cls ≠ "java/lang/invoke/MethodHandle" ∧ y.cls ≠ "java/lang/invoke/VarHandle")
    (hM : MetFree l y (head1 [Cond.code y bytes maxL ret] rm) (fun a U => a = as' ∧ Z.Warmed39 U.vm ∧ U.heap = h) (fun _ _ _ _ _ => True) (fun _ U o U' => ∃ v L, o = .returned v ∧ Q v U'.heap L ∧ FrameEnd U o U' L rm.cells rm.slots))
    (eT : T.heap = h) (E : Exa Z h a nm) {W : Nat} (hR : rm.frames + 1 ≤ R.frames ∧ W + (maxL + 11) + rm.locals ≤ R.locals ∧ cells + rm.cells ≤ R.cells ∧ slots + rm.slots ≤ R.slots)
    {g : JFrame} (hg : g.method = m) (hsize : g.locals.size = c.maxLocals) {argsL rest : List Value} (hlen : ∀ sig, parseMethodDescriptor y.desc = some sig → argsL.length = sig.parameters.length) (hstack : g.stack = argsL.reverse ++ .ref a :: rest) (has : (.ref a :: argsL).toArray = as') (hW : 2 * g.monitorRoom + (rest.map fun v => v.category).sum ≤ W) (hd : decode c.code g.pc = .ok (.invokespecial index, 3)) :
    ∃ (v : Option Value) (T' : State) (L : List Loc), Stand p l e R s m args below meth c T' (locs ++ L) (cells + rm.cells) (slots + rm.slots) ∧ Q v T'.heap L ∧ ∀ target, Steps p.tables e below (T'.setTop { g with pc := g.pc + 3, stack := v.toList ++ rest }) target → Steps p.tables e below (T.setTop g) target := by
  obtain ⟨mk, methM, hnamed, hmethM, -, -⟩ := Cond.instanceMethod_spec w6
  obtain ⟨_, _, m2, -, -, q3, -, kr, hkr, hni⟩ := Cond.selects_spec w5
  have hc2 := findClass_of_methodNamed q3
  rw [hyy, findClass_of_methodNamed hnamed] at hc2
  rw [← Option.some.inj hc2] at hkr
  have w2 : (Cond.sameMethod y.cls y.cls y.name y.desc).before a0 Z = true := by
    simp [Cond.before, Cond.holds, Cond.value, findClass_of_methodNamed hnamed, State.methodFound?_of_named hnamed hy, hnamed, hkr, hni]
  obtain ⟨v, _, ⟨T', L', k', n'⟩, -, X', ⟨L, hQ, l1, l2, l3⟩, st⟩ := superBack X hx hZ (y := y) hown w1 w2 w6 w8 hyn (backOf (W := W) hM hZ w4 w3 hR.1 hR.2.1) eT (Ins.self E) (g := g) hg hsize w4 (argsL := argsL) (rest := rest) hlen hstack hW hd (fun _ _ => ⟨has, eT, hR.2.2.1, hR.2.2.2⟩)
  dsimp only [Pt.U, Pt.locs, Pt.cells, Pt.slots] at X' l1 l2 l3 st hQ
  subst l1 l2 l3
  exact ⟨v, T', L, X', hQ, fun _ t => st.trans t⟩
theorem own_face (X : Stand p l e R s m args below meth c T locs cells slots) (hx : p.tables.exec = Jvm.exec) (hZ : Z.Warmed39 s.vm) {own : String} {index count : Nat} {y z : MethodName} {bytes : ByteArray} {maxL : Nat} {ret : Option FieldType} {rm : Room} {Q : Option Value → Heap → List Loc → Prop} {as' : Array Value}
    (hown : s.vm.findClass own = some m.cls) (w1 : (Cond.methodLink own index y).before a0 Z = true) (w2 : (Cond.declares y).before a0 Z = true) (wf : (Cond.interfaceMethod y.cls y.cls y.name y.desc).before args s = true) (w5 : (Cond.selects C y z).before a0 Z = true) (w6 : (Cond.instanceMethod z).before a0 Z = true) (w7 : (Cond.publicMethod z).before a0 Z = true) (w8 : (Cond.unhidden C y.name y.desc).before a0 Z = true) (w9 : (Cond.castable C y.cls).before a0 Z = true) (w3 : (Cond.initialized z.cls).before a0 Z = true) (w4 : (Cond.code z bytes maxL ret).before a0 Z = true) (hy : y.cls ≠ "java/lang/invoke/MethodHandle" ∧ y.cls ≠ "java/lang/invoke/VarHandle")
    (hM : MetFree l z (head1 [Cond.code z bytes maxL ret] rm) (fun a U => a = as' ∧ Z.Warmed39 U.vm ∧ U.heap = h) (fun _ _ _ _ _ => True) (fun _ U o U' => ∃ v L, o = .returned v ∧ Q v U'.heap L ∧ FrameEnd U o U' L rm.cells rm.slots))
    (eT : T.heap = h) (E : Exa Z h a C) {W : Nat} (hR : rm.frames + 1 ≤ R.frames ∧ W + (maxL + 11) + rm.locals ≤ R.locals ∧ cells + rm.cells ≤ R.cells ∧ slots + rm.slots ≤ R.slots)
    {g : JFrame} (hg : g.method = m) (hsize : g.locals.size = c.maxLocals) {argsL rest : List Value} (hlen : ∀ sig, parseMethodDescriptor y.desc = some sig → argsL.length = sig.parameters.length) (hstack : g.stack = argsL.reverse ++ .ref a :: rest) (has : (.ref a :: argsL).toArray = as') (hW : 2 * g.monitorRoom + (rest.map fun v => v.category).sum ≤ W) (hd : decode c.code g.pc = .ok (.invokeinterface index count, 5)) :
    ∃ (v : Option Value) (T' : State) (L : List Loc), Stand p l e R s m args below meth c T' (locs ++ L) (cells + rm.cells) (slots + rm.slots) ∧ Q v T'.heap L ∧ ∀ target, Steps p.tables e below (T'.setTop { g with pc := g.pc + 5, stack := v.toList ++ rest }) target → Steps p.tables e below (T.setTop g) target := by
  obtain ⟨cq, kq, qa, qb, qc⟩ := isOf hZ eT E
  obtain ⟨v, _, ⟨T', L', k', n'⟩, -, X', ⟨L, hQ, l1, l2, l3⟩, st⟩ := X.interfaceBack hx (xi := y) (y := z) hown (mvT hZ w1) (mvT hZ w2) wf (mvT hZ w5) (mvT hZ w6) (mvT hZ w7) (mvT hZ w8) (mvT hZ w9) hy (backOf (W := W) hM hZ w4 w3 hR.1 hR.2.1) qa qb qc (g := g) hg hsize (Steps.refl _) (argsL := argsL) (rest := rest) hlen hstack hW hd (fun _ _ => ⟨has, eT, hR.2.2.1, hR.2.2.2⟩)
  dsimp only [Pt.U, Pt.locs, Pt.cells, Pt.slots] at X' l1 l2 l3 st hQ
  subst l1 l2 l3
  exact ⟨v, T', L, X', hQ, fun _ t => st.trans t⟩
theorem own_mvR {U : State} {own O : String} {index : Nat} (hZ : Z.Warmed39 U.vm) (w : (Cond.fieldRef own index O nm dd).before a0 Z = true) : (Cond.fieldRef own index O nm dd).before args U = true := (Cond.fieldRef_warmed39 (s := Z) (vm' := U.vm) hZ w :)
theorem own_getFR (X : Stand p l e R s m args below meth c T locs cells slots) (hx : p.tables.exec = Jvm.exec) (hZ : Z.Warmed39 s.vm) {own O : String} {index : Nat} (hown : s.vm.findClass own = some m.cls) (w : (Cond.fieldRef own index O nm dd).before a0 Z = true)
    (eT : T.heap = h) (F : Fld Z h a O nm dd v) {g : JFrame} (hg : g.method = m) {rest : List Value} (hs : g.stack = .ref a :: rest) (hd : decode c.code g.pc = .ok (.getfield index, 3)) : ∃ T', Stand p l e R s m args below meth c T' locs cells slots ∧ T'.heap = h ∧ ∀ target, Steps p.tables e below (T'.setTop { g with pc := g.pc + 3, stack := v :: rest }) target → Steps p.tables e below (T.setTop g) target := by
  obtain ⟨cell, cf, k, i, f, h1, h2, h3, h4, -, -, h7⟩ := F
  have hZT : Z.Warmed39 T.vm := wtrans hZ X.warmed
  have hownT : T.vm.findClass own = some m.cls := by rw [X.warmed.alike.findClass]; exact hown
  obtain ⟨cf', k', i', f', g1, hready⟩ := Cond.fieldRef_spec hownT (own_mvR (args := args) hZT w)
  obtain ⟨k2, g2, -⟩ := State.fieldFound?_setVm (s := Z) hZT.alike h2
  cases (show T.fieldFound? O nm dd = _ from g2).symm.trans g1
  refine ⟨T, X, eT, fun target hrest => ?_⟩
  subst hg
  jvm_step X.here [hx, hd, getfield.wp_ready (e := e) (s := T) (f := g) X.here.top hready h3 hs (show T.heap[a]? = some cell by rw [eT]; exact h1) h4 h7]
  exact hrest
theorem own_putFR (X : Stand p l e R s m args below meth c T locs cells slots) (hx : p.tables.exec = Jvm.exec) (hZ : Z.Warmed39 s.vm) {own O : String} {index kk : Nat} (hown : s.vm.findClass own = some m.cls) (w : (Cond.fieldRef own index O nm dd).before a0 Z = true)
    (eT : T.heap = h) {old : Value} (F : Fld Z h a O nm dd old) (E : Exa Z h a C) (L : (Cond.lays C O nm dd).before a0 Z = true) (wi : (Cond.instantiable C kk).before a0 Z = true)
    (hty : parseFieldDescriptor dd = some ty) (hn : narrow ty v = v) (hf : fits ty v = true) {g : JFrame} (hg : g.method = m) {rest : List Value} (hs : g.stack = v :: .ref a :: rest) (hd : decode c.code g.pc = .ok (.putfield index, 3)) :
    ∃ T' h', Stand p l e R s m args below meth c T' (locs ++ [⟨a, Jvm.RoadKit.slotOf Z O nm dd⟩]) cells slots ∧ T'.heap = h' ∧ Wr h h' a (Jvm.RoadKit.slotOf Z O nm dd) v ∧ ∀ target, Steps p.tables e below (T'.setTop { g with pc := g.pc + 3, stack := rest }) target → Steps p.tables e below (T.setTop g) target := by
  obtain ⟨cell, cf, k, i, f, h1, h2, h3, h4, h5, -, h7⟩ := F
  obtain ⟨cell', kc, e1, e2, e3, -⟩ := E
  cases h1.symm.trans e1
  obtain ⟨c1, k1, cf1, kf1, i1, f1, a1, a2, a3, -, -, a6, -⟩ := Laid.spec (Or.inl L)
  cases h2.symm.trans a3
  cases e2.symm.trans a1
  obtain ⟨c2, k2, i1, i2, i3, -⟩ := Cond.instantiable_spec wi
  cases e2.symm.trans i1
  cases a2.symm.trans i2
  have ht := (State.fieldFound?_type h2 hty).2
  have hfit : Z.fitsSlot cell.cls cell.vm f.slot v = true := by
    have q : Z.slotType? cell.cls cell.vm f.slot = some ty := by
      simp only [State.slotType?, a2, Option.bind_eq_bind, Option.bind_some, i3]
      cases hq : cell.vm <;> first | (rw [hq] at h5; exact Bool.noConfusion h5) | (rw [a6, ht])
    simp [State.fitsSlot, q, hf]
  have hZT : Z.Warmed39 T.vm := wtrans hZ X.warmed
  have hfit' : T.fitsSlot cell.cls cell.vm f.slot v = true := by rw [← State.fitsSlot_setVm hZT.alike] at hfit; exact hfit
  have hfin : hasFlag f.accessFlags Acc.final = false := by
    obtain ⟨_, _, _, _, _, _, -, -, b3, -, b5, -⟩ := Cond.lays_spec L
    cases h2.symm.trans b3
    exact b5
  have hownT : T.vm.findClass own = some m.cls := by rw [X.warmed.alike.findClass]; exact hown
  obtain ⟨cf', k', i', f', g1, hready⟩ := Cond.fieldRef_spec hownT (own_mvR (args := args) hZT w)
  obtain ⟨k3, g2, -⟩ := State.fieldFound?_setVm (s := Z) hZT.alike h2
  cases (show T.fieldFound? O nm dd = _ from g2).symm.trans g1
  have hlt := (Array.getElem?_eq_some_iff.mp h7).1
  have es : Jvm.RoadKit.slotOf Z O nm dd = f.slot := by simp [Jvm.RoadKit.slotOf, h2]
  rw [es]
  obtain ⟨X', st⟩ := X.putfieldReady hx hready h3 (Or.inl hfin) (show T.heap[a]? = some cell by rw [eT]; exact h1) h4 hlt (by rw [ht]; exact hn) hfit' hg hs hd
  exact ⟨_, _, X', rfl, ⟨cell, h1, h5, hlt, by rw [← eT]; rfl⟩, st⟩
end Own
/-- a body's contract -/
abbrev MF (l : Launch) (Z : State) (y : MethodName) (bytes : ByteArray) (maxL : Nat) (ret : Option FieldType) (ws : List Jvm.Cond) (rm : Room) (as' : Array Value) (h0 : Heap) (Q : Option Value → Heap → List Loc → Prop) : Prop :=
  MetFree l y (head1 (Jvm.Cond.code y bytes maxL ret :: ws) rm) (fun a U => a = as' ∧ Z.Warmed39 U.vm ∧ U.heap = h0) (fun _ _ _ _ _ => True) (fun _ U o U' => ∃ v L, o = .returned v ∧ Q v U'.heap L ∧ FrameEnd U o U' L rm.cells rm.slots)
theorem own_body {l : Launch} {Z : State} {y : MethodName} {bytes : ByteArray} {maxL : Nat} {ret : Option FieldType} {ws : List Jvm.Cond} {rm : Room} {as' : Array Value} {h0 : Heap} {Q : Option Value → Heap → List Loc → Prop} {k n : Nat} {L0 : Array Slot} (hp : plainFor y = true) (hef : ∀ m, entryFrame m as' maxL = mkF m 0 L0 []) (hk : k ≤ rm.cells) (hn : n ≤ rm.slots)
    (H : ∀ (p : Program) (e : Env) (s : State) (m : MethodId) (below : List Frame) (meth : Method) (c : Code) (s₁ : State), p.tables.exec = Jvm.exec → c.code = bytes → c.maxLocals = maxL → s.vm.findClass y.cls = some m.cls → meth.name = y.name → meth.sig.returnType = ret → Z.Warmed39 s.vm → s.heap = h0 → s₁.heap = h0 → Stand p l e rm s m as' below meth c s₁ [] 0 0 →
      ∃ (T : State) (L : List Loc) (v : Option Value), Stand p l e rm s m as' below meth c T L k n ∧ (ret = none → v = none) ∧ Q v T.heap L ∧ ∀ fs, (∀ (f : JFrame) (acts : List Action), f.method = m → f.locked = none → f.entered = [] → (doReturn e (T.setTop f) acts v).1 = T.setFrames fs) → Steps p.tables e below (s₁.setTop (mkF m 0 L0 [])) (T.setFrames fs)) :
    MetFree l y (head1 (Jvm.Cond.code y bytes maxL ret :: ws) rm) (fun a U => a = as' ∧ Z.Warmed39 U.vm ∧ U.heap = h0) (fun _ _ _ _ _ => True) (fun _ U o U' => ∃ v L, o = .returned v ∧ Q v U'.heap L ∧ FrameEnd U o U' L k n) := by
  refine MetFree.of_bodySF hp hisR ?_
  intro p e s m args below meth c s₁ Bd hml0 hP hK
  obtain ⟨rfl, hZ, hh⟩ := hP
  have e0 : s₁.heap = h0 := by rw [← hh, Bd.state]; rfl
  have hnm := (name_of_methodNamed Bd.named Bd.method).1
  obtain ⟨T, L, v, X, hv, hQ, st⟩ := H p e s m below meth c s₁ Bd.exec Bd.bytes hml0 (findClass_of_methodNamed Bd.named) hnm Bd.returns hZ hh e0 (Stand.of_body Bd)
  obtain ⟨fs, hr, hrun, hended, hW, hsame⟩ := X.leave (v := v) (fun h => hv (Bd.returns.symm.trans h)) Bd.notSynchronized
  refine ⟨_, _, castTop (hef m) (st fs hr), hrun, hended, v, L, rfl, ?_, ⟨_, rfl⟩, hW, hsame⟩
  exact hQ
theorem own_law {l : Launch} {Z : State} {y : MethodName} {bytes : ByteArray} {maxL : Nat} {ret : Option FieldType} {ws : List Jvm.Cond} {rm : Room} {as' : Array Value} {h0 : Heap} {Q : Option Value → List Loc → Prop} {k n k' n' : Nat} {L0 : Array Slot} (hp : plainFor y = true) (hef : ∀ m, entryFrame m as' maxL = mkF m 0 L0 []) (hk : k ≤ k') (hn : n ≤ n')
    (H : ∀ (p : Program) (e : Env) (s : State) (m : MethodId) (below : List Frame) (meth : Method) (c : Code) (s₁ : State), p.tables.exec = Jvm.exec → c.code = bytes → c.maxLocals = maxL → s.vm.findClass y.cls = some m.cls → meth.name = y.name → meth.sig.returnType = ret → Z.Warmed39 s.vm → s.heap = h0 → s₁.heap = h0 → Stand p l e rm s m as' below meth c s₁ [] 0 0 →
      ∃ (T : State) (L : List Loc) (v : Option Value), Stand p l e rm s m as' below meth c T L k n ∧ (ret = none → v = none) ∧ Q v L ∧ ∀ fs, (∀ (f : JFrame) (acts : List Action), f.method = m → f.locked = none → f.entered = [] → (doReturn e (T.setTop f) acts v).1 = T.setFrames fs) → Steps p.tables e below (s₁.setTop (mkF m 0 L0 [])) (T.setFrames fs)) :
    MetFree l y (head1 (Jvm.Cond.code y bytes maxL ret :: ws) rm) (fun a U => a = as' ∧ Z.Warmed39 U.vm ∧ U.heap = h0) (fun _ _ _ _ _ => True) (fun _ U o U' => ∃ v L, o = .returned v ∧ Q v L ∧ FrameEnd U o U' L k' n') := by
  refine MetFree.of_bodySF hp hisR ?_
  intro p e s m args below meth c s₁ Bd hml0 hP hK
  obtain ⟨rfl, hZ, hh⟩ := hP
  have e0 : s₁.heap = h0 := by rw [← hh, Bd.state]; rfl
  have hnm := (name_of_methodNamed Bd.named Bd.method).1
  obtain ⟨T, L, v, X, hv, hQ, st⟩ := H p e s m below meth c s₁ Bd.exec Bd.bytes hml0 (findClass_of_methodNamed Bd.named) hnm Bd.returns hZ hh e0 (Stand.of_body Bd)
  obtain ⟨fs, hr, hrun, hended, hW, hsame⟩ := X.leave (v := v) (fun h => hv (Bd.returns.symm.trans h)) Bd.notSynchronized
  refine ⟨_, _, castTop (hef m) (st fs hr), hrun, hended, v, L, rfl, ?_, ⟨_, rfl⟩, hW, hsame.mono hk hn⟩
  exact hQ
section OwnS
variable {p : Program} {l : Launch} {e : Env} {R : Room} {s : State} {vm0 : Vm} {m : MethodId} {args : Array Value} {below : List Frame} {meth : Method} {c : Code} {T : State} {locs : List Loc} {cells slots : Nat} {Z : State} {a0 : Array Value} {h h' h0 : Heap} {a b : Addr} {C nm dd : String} {v w : Value} {sl n0 : Nat}
theorem own_since (s : State) : s.Since s.vm s.heap.size := (State.WarmedH.refl s).since _
theorem own_REmono {s t : State} {o : Outcome} {L : List Loc} {k n k' n' : Nat} (h : ReturnedEndW s o t L k n) (hk : k ≤ k') (hn : n ≤ n') : ReturnedEndW s o t L k' n' := ⟨h.1, h.2.1, h.2.2.1, h.2.2.2.mono hk hn⟩
theorem own_Sstatic (X : Stand p l e R (s.setVm vm0) m args below meth c T locs cells slots) (hx : p.tables.exec = Jvm.exec) (hZ : Z.Warmed39 vm0) {own : String} {index : Nat} {y : MethodName} {bytes : ByteArray} {maxL : Nat} {ret : Option FieldType} {rm : Room} {Q : Option Value → Heap → List Loc → Prop} {as' : Array Value}
    (hown : vm0.findClass own = some m.cls) (w1 : (Cond.methodLink own index y).before a0 Z = true) (w2 : (Cond.static y).before a0 Z = true) (w3 : (Cond.initialized y.cls).before a0 Z = true) (w4 : (Cond.code y bytes maxL ret).before a0 Z = true) (hy : y.cls ≠ "java/lang/invoke/MethodHandle" ∧ y.cls ≠ "java/lang/invoke/VarHandle")
    (hM : MetFree l y (head1 [Cond.code y bytes maxL ret] rm) (fun a U => a = as' ∧ Z.Warmed39 U.vm ∧ U.heap = h) (fun _ _ _ _ _ => True) (fun _ U o U' => ∃ v L, o = .returned v ∧ Q v U'.heap L ∧ ReturnedEndW U o U' L rm.cells rm.slots))
    (eT : T.heap = h) {W : Nat} (hR : rm.frames + 1 ≤ R.frames ∧ W + (maxL + 11) + rm.locals ≤ R.locals ∧ cells + rm.cells ≤ R.cells ∧ slots + rm.slots ≤ R.slots)
    {g : JFrame} (hg : g.method = m) (hsize : g.locals.size = c.maxLocals) {argsL rest : List Value} (hlen : ∀ sig, parseMethodDescriptor y.desc = some sig → argsL.length = sig.parameters.length) (hstack : g.stack = argsL.reverse ++ rest) (has : argsL.toArray = as') (hW : 2 * g.monitorRoom + (rest.map fun v => v.category).sum ≤ W) (hd : decode c.code g.pc = .ok (.invokestatic index, 3)) {k0 : Nat} (hS : s.Since vm0 k0) (hk : k0 ≤ h.size) :
    ∃ (v : Option Value) (T' : State) (L : List Loc), Stand p l e R (s.setVm T'.vm) m args below meth c T' (locs ++ L) (cells + rm.cells) (slots + rm.slots) ∧ s.Since T'.vm T'.heap.size ∧ T'.heap.size ≤ T'.heap.size ∧ Z.Warmed39 T'.vm ∧ T'.vm.findClass own = some m.cls ∧ Q v T'.heap L ∧ ∀ target, Steps p.tables e below (T'.setTop { g with pc := g.pc + 3, stack := v.toList ++ rest }) target → Steps p.tables e below (T.setTop g) target := by
  obtain ⟨v, _, ⟨T', L', k', n'⟩, -, X', hS', hg', ⟨L, hQ, l1, l2, l3⟩, st⟩ := callSS X hx (y := y) hown (mvT (s := s.setVm vm0) hZ w1) (mvT (s := s.setVm vm0) hZ w2) (mvT (s := s.setVm vm0) hZ w3) (mvT (s := s.setVm vm0) hZ w4) hy (backOfS (s := s.setVm vm0) (W := W) hM hZ w4 w3 hR.1 hR.2.1) (g := g) hg hsize (argsL := argsL) (rest := rest) hlen hstack hW hd (fun _ _ => ⟨has, eT, hR.2.2.1, hR.2.2.2⟩)
  dsimp only [Pt.U, Pt.locs, Pt.cells, Pt.slots] at X' hS' hg' l1 l2 l3 st hQ
  subst l1 l2 l3
  have q := hS.trans hS' (Nat.le_trans hk (by rw [← eT]; exact hg'))
  exact ⟨v, T', L, X', q, Nat.le_refl _, State.Warmed39.trans (t := s.setVm vm0) hZ hS'.1, by rw [hS'.1.alike.findClass]; exact hown, hQ, fun _ t => st.trans t⟩
theorem own_Sinit (X : Stand p l e R (s.setVm vm0) m args below meth c T locs cells slots) (hx : p.tables.exec = Jvm.exec) (hZ : Z.Warmed39 vm0) {own : String} {index : Nat} {y : MethodName} {bytes : ByteArray} {maxL : Nat} {rm : Room} {Q : Option Value → Heap → List Loc → Prop} {as' : Array Value} (hy1 : y.name = "<init>")
    (hown : vm0.findClass own = some m.cls) (w1 : (Cond.methodLink own index y).before a0 Z = true) (w2 : (Cond.instanceMethod y).before a0 Z = true) (w3 : (Cond.initialized y.cls).before a0 Z = true) (w4 : (Cond.code y bytes maxL none).before a0 Z = true) (hy : y.cls ≠ "java/lang/invoke/MethodHandle" ∧ y.cls ≠ "java/lang/invoke/VarHandle")
    (hM : MetFree l y (head1 [Cond.code y bytes maxL none] rm) (fun a U => a = as' ∧ Z.Warmed39 U.vm ∧ U.heap = h) (fun _ _ _ _ _ => True) (fun _ U o U' => ∃ v L, o = .returned v ∧ Q v U'.heap L ∧ ReturnedEndW U o U' L rm.cells rm.slots))
    (eT : T.heap = h) {W : Nat} (hR : rm.frames + 1 ≤ R.frames ∧ W + (maxL + 11) + rm.locals ≤ R.locals ∧ cells + rm.cells ≤ R.cells ∧ slots + rm.slots ≤ R.slots)
    {g : JFrame} (hg : g.method = m) (hsize : g.locals.size = c.maxLocals) {argsL rest : List Value} (hlen : ∀ sig, parseMethodDescriptor y.desc = some sig → argsL.length = sig.parameters.length) (hstack : g.stack = argsL.reverse ++ .ref a :: rest) (has : (.ref a :: argsL).toArray = as') (hW : 2 * g.monitorRoom + (rest.map fun v => v.category).sum ≤ W) (hd : decode c.code g.pc = .ok (.invokespecial index, 3)) {k0 : Nat} (hS : s.Since vm0 k0) (hk : k0 ≤ h.size) :
    ∃ (v : Option Value) (T' : State) (L : List Loc), Stand p l e R (s.setVm T'.vm) m args below meth c T' (locs ++ L) (cells + rm.cells) (slots + rm.slots) ∧ s.Since T'.vm T'.heap.size ∧ T'.heap.size ≤ T'.heap.size ∧ Z.Warmed39 T'.vm ∧ T'.vm.findClass own = some m.cls ∧ Q v T'.heap L ∧ ∀ target, Steps p.tables e below (T'.setTop { g with pc := g.pc + 3, stack := v.toList ++ rest }) target → Steps p.tables e below (T.setTop g) target := by
  obtain ⟨v, _, ⟨T', L', k', n'⟩, -, X', hS', hg', ⟨L, hQ, l1, l2, l3⟩, st⟩ := X.specialBackS hx (y := y) hy1 hown (mvT (s := s.setVm vm0) hZ w1) (mvT (s := s.setVm vm0) hZ w2) (mvT (s := s.setVm vm0) hZ w4) hy (backOfS (s := s.setVm vm0) (W := W) hM hZ w4 w3 hR.1 hR.2.1) (g := g) hg hsize (Steps.refl _) (a := a) (argsL := argsL) (rest := rest) hlen hstack hW hd (fun _ _ => ⟨has, eT, hR.2.2.1, hR.2.2.2⟩)
  dsimp only [Pt.U, Pt.locs, Pt.cells, Pt.slots] at X' hS' hg' l1 l2 l3 st hQ
  subst l1 l2 l3
  have q := hS.trans hS' (Nat.le_trans hk (by rw [← eT]; exact hg'))
  exact ⟨v, T', L, X', q, Nat.le_refl _, State.Warmed39.trans (t := s.setVm vm0) hZ hS'.1, by rw [hS'.1.alike.findClass]; exact hown, hQ, fun _ t => st.trans t⟩
theorem own_Svirtual (X : Stand p l e R (s.setVm vm0) m args below meth c T locs cells slots) (hx : p.tables.exec = Jvm.exec) (hZ : Z.Warmed39 vm0) {own : String} {index : Nat} {y z : MethodName} {bytes : ByteArray} {maxL : Nat} {ret : Option FieldType} {rm : Room} {Q : Option Value → Heap → List Loc → Prop} {as' : Array Value}
    (hown : vm0.findClass own = some m.cls) (w1 : (Cond.methodLink own index y).before a0 Z = true) (w2 : (Cond.declares y).before a0 Z = true) (hnf : NotFace (s.setVm vm0) y) (w5 : (Cond.selects C y z).before a0 Z = true) (w6 : (Cond.instanceMethod z).before a0 Z = true) (w3 : (Cond.initialized z.cls).before a0 Z = true) (w4 : (Cond.code z bytes maxL ret).before a0 Z = true) (hy : y.cls ≠ "java/lang/invoke/MethodHandle" ∧ y.cls ≠ "java/lang/invoke/VarHandle")
    (hM : MetFree l z (head1 [Cond.code z bytes maxL ret] rm) (fun a U => a = as' ∧ Z.Warmed39 U.vm ∧ U.heap = h) (fun _ _ _ _ _ => True) (fun _ U o U' => ∃ v L, o = .returned v ∧ Q v U'.heap L ∧ ReturnedEndW U o U' L rm.cells rm.slots))
    (eT : T.heap = h) (E : Exa Z h a C) {W : Nat} (hR : rm.frames + 1 ≤ R.frames ∧ W + (maxL + 11) + rm.locals ≤ R.locals ∧ cells + rm.cells ≤ R.cells ∧ slots + rm.slots ≤ R.slots)
    {g : JFrame} (hg : g.method = m) (hsize : g.locals.size = c.maxLocals) {argsL rest : List Value} (hlen : ∀ sig, parseMethodDescriptor y.desc = some sig → argsL.length = sig.parameters.length) (hstack : g.stack = argsL.reverse ++ .ref a :: rest) (has : (.ref a :: argsL).toArray = as') (hW : 2 * g.monitorRoom + (rest.map fun v => v.category).sum ≤ W) (hd : decode c.code g.pc = .ok (.invokevirtual index, 3)) {k0 : Nat} (hS : s.Since vm0 k0) (hk : k0 ≤ h.size) :
    ∃ (v : Option Value) (T' : State) (L : List Loc), Stand p l e R (s.setVm T'.vm) m args below meth c T' (locs ++ L) (cells + rm.cells) (slots + rm.slots) ∧ s.Since T'.vm T'.heap.size ∧ T'.heap.size ≤ T'.heap.size ∧ Z.Warmed39 T'.vm ∧ T'.vm.findClass own = some m.cls ∧ Q v T'.heap L ∧ ∀ target, Steps p.tables e below (T'.setTop { g with pc := g.pc + 3, stack := v.toList ++ rest }) target → Steps p.tables e below (T.setTop g) target := by
  obtain ⟨cq, kq, qa, qb, qc⟩ := isOf (s := s.setVm vm0) hZ eT E
  obtain ⟨v, _, ⟨T', L', k', n'⟩, -, X', hS', hg', ⟨L, hQ, l1, l2, l3⟩, st⟩ := X.virtualBackS hx (y := y) (z := z) hown (mvT (s := s.setVm vm0) hZ w1) (mvT (s := s.setVm vm0) hZ w2) hnf (mvT (s := s.setVm vm0) hZ w5) (mvT (s := s.setVm vm0) hZ w6) hy (backOfS (s := s.setVm vm0) (W := W) hM hZ w4 w3 hR.1 hR.2.1) qa qc (g := g) hg hsize (Steps.refl _) (argsL := argsL) (rest := rest) hlen hstack hW hd (fun _ _ => ⟨has, eT, hR.2.2.1, hR.2.2.2⟩)
  dsimp only [Pt.U, Pt.locs, Pt.cells, Pt.slots] at X' hS' hg' l1 l2 l3 st hQ
  subst l1 l2 l3
  have q := hS.trans hS' (Nat.le_trans hk (by rw [← eT]; exact hg'))
  exact ⟨v, T', L, X', q, Nat.le_refl _, State.Warmed39.trans (t := s.setVm vm0) hZ hS'.1, by rw [hS'.1.alike.findClass]; exact hown, hQ, fun _ t => st.trans t⟩
theorem own_Sprivate (X : Stand p l e R (s.setVm vm0) m args below meth c T locs cells slots) (hx : p.tables.exec = Jvm.exec) (hZ : Z.Warmed39 vm0) {own : String} {index : Nat} {y x0 y0 : MethodName} {bytes : ByteArray} {maxL : Nat} {ret : Option FieldType} {rm : Room} {Q : Option Value → Heap → List Loc → Prop} {as' : Array Value}
    (hown : vm0.findClass own = some m.cls) (w1 : (Cond.methodLink own index y).before a0 Z = true) (w6 : (Cond.instanceMethod y).before a0 Z = true) (w5 : (Cond.selects C x0 y0).before a0 Z = true) (hyy : y0.cls = y.cls) (w7 : (Cond.privateMethod y).before a0 Z = true) (w3 : (Cond.initialized y.cls).before a0 Z = true) (w4 : (Cond.code y bytes maxL ret).before a0 Z = true) (hy : y.cls ≠ "java/lang/invoke/MethodHandle" ∧ y.cls ≠ "java/lang/invoke/VarHandle")
    (hM : MetFree l y (head1 [Cond.code y bytes maxL ret] rm) (fun a U => a = as' ∧ Z.Warmed39 U.vm ∧ U.heap = h) (fun _ _ _ _ _ => True) (fun _ U o U' => ∃ v L, o = .returned v ∧ Q v U'.heap L ∧ ReturnedEndW U o U' L rm.cells rm.slots))
    (eT : T.heap = h) (E : Exa Z h a nm) {W : Nat} (hR : rm.frames + 1 ≤ R.frames ∧ W + (maxL + 11) + rm.locals ≤ R.locals ∧ cells + rm.cells ≤ R.cells ∧ slots + rm.slots ≤ R.slots)
    {g : JFrame} (hg : g.method = m) (hsize : g.locals.size = c.maxLocals) {argsL rest : List Value} (hlen : ∀ sig, parseMethodDescriptor y.desc = some sig → argsL.length = sig.parameters.length) (hstack : g.stack = argsL.reverse ++ .ref a :: rest) (has : (.ref a :: argsL).toArray = as') (hW : 2 * g.monitorRoom + (rest.map fun v => v.category).sum ≤ W) (hd : decode c.code g.pc = .ok (.invokevirtual index, 3)) {k0 : Nat} (hS : s.Since vm0 k0) (hk : k0 ≤ h.size) :
    ∃ (v : Option Value) (T' : State) (L : List Loc), Stand p l e R (s.setVm T'.vm) m args below meth c T' (locs ++ L) (cells + rm.cells) (slots + rm.slots) ∧ s.Since T'.vm T'.heap.size ∧ T'.heap.size ≤ T'.heap.size ∧ Z.Warmed39 T'.vm ∧ T'.vm.findClass own = some m.cls ∧ Q v T'.heap L ∧ ∀ target, Steps p.tables e below (T'.setTop { g with pc := g.pc + 3, stack := v.toList ++ rest }) target → Steps p.tables e below (T.setTop g) target := by
  obtain ⟨cell, _, qa, -, -, qc, -⟩ := E
  obtain ⟨mk, methM, hnamed, hmethM, -, -⟩ := Cond.instanceMethod_spec (mvT (s := s.setVm vm0) hZ w6 : (Cond.instanceMethod y).before args _ = true)
  obtain ⟨_, _, m2, -, -, q3, -, kr, hkr, hni⟩ := Cond.selects_spec (mvT (s := s.setVm vm0) hZ w5 : (Cond.selects C x0 y0).before args _ = true)
  have hc2 := findClass_of_methodNamed q3
  rw [hyy] at hc2
  have hpr := Cond.privateMethod_at (mvT (s := s.setVm vm0) hZ w7 : (Cond.privateMethod y).before args _ = true)
  have hsel := Jvm.Stand.selects_self_of_private (args := args) hc2 hkr hni hpr (mvT (s := s.setVm vm0) hZ w6) hy
  obtain ⟨v, _, ⟨T', L', k', n'⟩, -, X', hS', hg', ⟨L, hQ, l1, l2, l3⟩, st⟩ := X.privateBackS hx (y := y) hown (mvT (s := s.setVm vm0) hZ w1) (mvT (s := s.setVm vm0) hZ w6) hsel hpr (mvT (s := s.setVm vm0) hZ w4) hy (backOfS (s := s.setVm vm0) (W := W) hM hZ w4 w3 hR.1 hR.2.1) (g := g) hg hsize (Steps.refl _) (a := a) (cell := cell) (by rw [eT]; exact qa) (fun q eq => by rw [eq] at qc; exact absurd qc (by simp [VmData.isStatics])) (argsL := argsL) (rest := rest) hlen hstack hW hd (fun _ _ => ⟨has, eT, hR.2.2.1, hR.2.2.2⟩)
  dsimp only [Pt.U, Pt.locs, Pt.cells, Pt.slots] at X' hS' hg' l1 l2 l3 st hQ
  subst l1 l2 l3
  have q := hS.trans hS' (Nat.le_trans hk (by rw [← eT]; exact hg'))
  exact ⟨v, T', L, X', q, Nat.le_refl _, State.Warmed39.trans (t := s.setVm vm0) hZ hS'.1, by rw [hS'.1.alike.findClass]; exact hown, hQ, fun _ t => st.trans t⟩
theorem own_Ssuper (X : Stand p l e R (s.setVm vm0) m args below meth c T locs cells slots) (hx : p.tables.exec = Jvm.exec) (hZ : Z.Warmed39 vm0) {own : String} {index : Nat} {y x0 y0 : MethodName} {bytes : ByteArray} {maxL : Nat} {ret : Option FieldType} {rm : Room} {Q : Option Value → Heap → List Loc → Prop} {as' : Array Value}
    (hown : vm0.findClass own = some m.cls) (w1 : (Cond.methodLink own index y).before a0 Z = true) (w6 : (Cond.instanceMethod y).before a0 Z = true) (w5 : (Cond.selects C x0 y0).before a0 Z = true) (hyy : y0.cls = y.cls) (w8 : (Cond.superclass own y.cls).before a0 Z = true) (hyn : y.name ≠ "<init>") (w3 : (Cond.initialized y.cls).before a0 Z = true) (w4 : (Cond.code y bytes maxL ret).before a0 Z = true) (hy : y.cls ≠ "java/lang/invoke/MethodHandle" ∧ y.cls ≠ "java/lang/invoke/VarHandle")
    (hM : MetFree l y (head1 [Cond.code y bytes maxL ret] rm) (fun a U => a = as' ∧ Z.Warmed39 U.vm ∧ U.heap = h) (fun _ _ _ _ _ => True) (fun _ U o U' => ∃ v L, o = .returned v ∧ Q v U'.heap L ∧ ReturnedEndW U o U' L rm.cells rm.slots))
    (eT : T.heap = h) (E : Exa Z h a nm) {W : Nat} (hR : rm.frames + 1 ≤ R.frames ∧ W + (maxL + 11) + rm.locals ≤ R.locals ∧ cells + rm.cells ≤ R.cells ∧ slots + rm.slots ≤ R.slots)
    {g : JFrame} (hg : g.method = m) (hsize : g.locals.size = c.maxLocals) {argsL rest : List Value} (hlen : ∀ sig, parseMethodDescriptor y.desc = some sig → argsL.length = sig.parameters.length) (hstack : g.stack = argsL.reverse ++ .ref a :: rest) (has : (.ref a :: argsL).toArray = as') (hW : 2 * g.monitorRoom + (rest.map fun v => v.category).sum ≤ W) (hd : decode c.code g.pc = .ok (.invokespecial index, 3)) {k0 : Nat} (hS : s.Since vm0 k0) (hk : k0 ≤ h.size) :
    ∃ (v : Option Value) (T' : State) (L : List Loc), Stand p l e R (s.setVm T'.vm) m args below meth c T' (locs ++ L) (cells + rm.cells) (slots + rm.slots) ∧ s.Since T'.vm T'.heap.size ∧ T'.heap.size ≤ T'.heap.size ∧ Z.Warmed39 T'.vm ∧ T'.vm.findClass own = some m.cls ∧ Q v T'.heap L ∧ ∀ target, Steps p.tables e below (T'.setTop { g with pc := g.pc + 3, stack := v.toList ++ rest }) target → Steps p.tables e below (T.setTop g) target := by
  obtain ⟨mk, methM, hnamed, hmethM, -, -⟩ := Cond.instanceMethod_spec w6
  obtain ⟨_, _, m2, -, -, q3, -, kr, hkr, hni⟩ := Cond.selects_spec w5
  have hc2 := findClass_of_methodNamed q3
  rw [hyy, findClass_of_methodNamed hnamed] at hc2
  rw [← Option.some.inj hc2] at hkr
  have w2 : (Cond.sameMethod y.cls y.cls y.name y.desc).before a0 Z = true := by
    simp [Cond.before, Cond.holds, Cond.value, findClass_of_methodNamed hnamed, State.methodFound?_of_named hnamed hy, hnamed, hkr, hni]
  obtain ⟨v, _, ⟨T', L', k', n'⟩, -, X', hS', hg', ⟨L, hQ, l1, l2, l3⟩, st⟩ := superBackS (s := s.setVm vm0) X hx hZ (y := y) hown w1 w2 w6 w8 hyn (backOfS (s := s.setVm vm0) (W := W) hM hZ w4 w3 hR.1 hR.2.1) eT (Ins.self E) (g := g) hg hsize w4 (argsL := argsL) (rest := rest) hlen hstack hW hd (fun _ _ => ⟨has, eT, hR.2.2.1, hR.2.2.2⟩)
  dsimp only [Pt.U, Pt.locs, Pt.cells, Pt.slots] at X' hS' hg' l1 l2 l3 st hQ
  subst l1 l2 l3
  have q := hS.trans hS' (Nat.le_trans hk (by rw [← eT]; exact hg'))
  exact ⟨v, T', L, X', q, Nat.le_refl _, State.Warmed39.trans (t := s.setVm vm0) hZ hS'.1, by rw [hS'.1.alike.findClass]; exact hown, hQ, fun _ t => st.trans t⟩
theorem own_Sface (X : Stand p l e R (s.setVm vm0) m args below meth c T locs cells slots) (hx : p.tables.exec = Jvm.exec) (hZ : Z.Warmed39 vm0) {own : String} {index count : Nat} {y z : MethodName} {bytes : ByteArray} {maxL : Nat} {ret : Option FieldType} {rm : Room} {Q : Option Value → Heap → List Loc → Prop} {as' : Array Value}
    (hown : vm0.findClass own = some m.cls) (w1 : (Cond.methodLink own index y).before a0 Z = true) (w2 : (Cond.declares y).before a0 Z = true) (wf : (Cond.interfaceMethod y.cls y.cls y.name y.desc).before args (s.setVm vm0) = true) (w5 : (Cond.selects C y z).before a0 Z = true) (w6 : (Cond.instanceMethod z).before a0 Z = true) (w7 : (Cond.publicMethod z).before a0 Z = true) (w8 : (Cond.unhidden C y.name y.desc).before a0 Z = true) (w9 : (Cond.castable C y.cls).before a0 Z = true) (w3 : (Cond.initialized z.cls).before a0 Z = true) (w4 : (Cond.code z bytes maxL ret).before a0 Z = true) (hy : y.cls ≠ "java/lang/invoke/MethodHandle" ∧ y.cls ≠ "java/lang/invoke/VarHandle")
    (hM : MetFree l z (head1 [Cond.code z bytes maxL ret] rm) (fun a U => a = as' ∧ Z.Warmed39 U.vm ∧ U.heap = h) (fun _ _ _ _ _ => True) (fun _ U o U' => ∃ v L, o = .returned v ∧ Q v U'.heap L ∧ ReturnedEndW U o U' L rm.cells rm.slots))
    (eT : T.heap = h) (E : Exa Z h a C) {W : Nat} (hR : rm.frames + 1 ≤ R.frames ∧ W + (maxL + 11) + rm.locals ≤ R.locals ∧ cells + rm.cells ≤ R.cells ∧ slots + rm.slots ≤ R.slots)
    {g : JFrame} (hg : g.method = m) (hsize : g.locals.size = c.maxLocals) {argsL rest : List Value} (hlen : ∀ sig, parseMethodDescriptor y.desc = some sig → argsL.length = sig.parameters.length) (hstack : g.stack = argsL.reverse ++ .ref a :: rest) (has : (.ref a :: argsL).toArray = as') (hW : 2 * g.monitorRoom + (rest.map fun v => v.category).sum ≤ W) (hd : decode c.code g.pc = .ok (.invokeinterface index count, 5)) {k0 : Nat} (hS : s.Since vm0 k0) (hk : k0 ≤ h.size) :
    ∃ (v : Option Value) (T' : State) (L : List Loc), Stand p l e R (s.setVm T'.vm) m args below meth c T' (locs ++ L) (cells + rm.cells) (slots + rm.slots) ∧ s.Since T'.vm T'.heap.size ∧ T'.heap.size ≤ T'.heap.size ∧ Z.Warmed39 T'.vm ∧ T'.vm.findClass own = some m.cls ∧ Q v T'.heap L ∧ ∀ target, Steps p.tables e below (T'.setTop { g with pc := g.pc + 5, stack := v.toList ++ rest }) target → Steps p.tables e below (T.setTop g) target := by
  obtain ⟨cq, kq, qa, qb, qc⟩ := isOf (s := s.setVm vm0) hZ eT E
  obtain ⟨v, _, ⟨T', L', k', n'⟩, -, X', hS', hg', ⟨L, hQ, l1, l2, l3⟩, st⟩ := X.interfaceBackS hx (xi := y) (y := z) hown (mvT (s := s.setVm vm0) hZ w1) (mvT (s := s.setVm vm0) hZ w2) wf (mvT (s := s.setVm vm0) hZ w5) (mvT (s := s.setVm vm0) hZ w6) (mvT (s := s.setVm vm0) hZ w7) (mvT (s := s.setVm vm0) hZ w8) (mvT (s := s.setVm vm0) hZ w9) hy (backOfS (s := s.setVm vm0) (W := W) hM hZ w4 w3 hR.1 hR.2.1) qa qb qc (g := g) hg hsize (Steps.refl _) (argsL := argsL) (rest := rest) hlen hstack hW hd (fun _ _ => ⟨has, eT, hR.2.2.1, hR.2.2.2⟩)
  dsimp only [Pt.U, Pt.locs, Pt.cells, Pt.slots] at X' hS' hg' l1 l2 l3 st hQ
  subst l1 l2 l3
  have q := hS.trans hS' (Nat.le_trans hk (by rw [← eT]; exact hg'))
  exact ⟨v, T', L, X', q, Nat.le_refl _, State.Warmed39.trans (t := s.setVm vm0) hZ hS'.1, by rw [hS'.1.alike.findClass]; exact hown, hQ, fun _ t => st.trans t⟩
end OwnS
abbrev MFS (l : Launch) (Z : State) (y : MethodName) (bytes : ByteArray) (maxL : Nat) (ret : Option FieldType) (ws : List Jvm.Cond) (rm : Room) (as' : Array Value) (h0 : Heap) (Q : Option Value → Heap → List Loc → Prop) : Prop :=
  MetFree l y (head1 (Jvm.Cond.code y bytes maxL ret :: ws) rm) (fun a U => a = as' ∧ Z.Warmed39 U.vm ∧ U.heap = h0) (fun _ _ _ _ _ => True) (fun _ U o U' => ∃ v L, o = .returned v ∧ Q v U'.heap L ∧ ReturnedEndW U o U' L rm.cells rm.slots)
theorem own_bodyS {l : Launch} {Z : State} {y : MethodName} {bytes : ByteArray} {maxL : Nat} {ret : Option FieldType} {ws : List Jvm.Cond} {rm : Room} {as' : Array Value} {h0 : Heap} {Q : Option Value → Heap → List Loc → Prop} {k n k' n' : Nat} {L0 : Array Slot} (hp : plainFor y = true) (hef : ∀ m, entryFrame m as' maxL = mkF m 0 L0 []) (hk : k ≤ k') (hn : n ≤ n')
    (H : ∀ (p : Program) (e : Env) (s : State) (m : MethodId) (below : List Frame) (meth : Method) (c : Code) (s₁ : State), p.tables.exec = Jvm.exec → c.code = bytes → c.maxLocals = maxL → s.vm.findClass y.cls = some m.cls → meth.name = y.name → meth.sig.returnType = ret → Z.Warmed39 s.vm → s₁.heap = h0 → s.Since s.vm s.heap.size → s.heap.size ≤ h0.size → Stand p l e rm (s.setVm s.vm) m as' below meth c s₁ [] 0 0 →
      ∃ (T : State) (L : List Loc) (v : Option Value) (vm1 : Vm) (n1 : Nat), Stand p l e rm (s.setVm vm1) m as' below meth c T L k n ∧ s.Since vm1 n1 ∧ n1 ≤ T.heap.size ∧ (ret = none → v = none) ∧ Q v T.heap L ∧ ∀ fs, (∀ (f : JFrame) (acts : List Action), f.method = m → f.locked = none → f.entered = [] → (doReturn e (T.setTop f) acts v).1 = T.setFrames fs) → Steps p.tables e below (s₁.setTop (mkF m 0 L0 [])) (T.setFrames fs)) :
    MetFree l y (head1 (Jvm.Cond.code y bytes maxL ret :: ws) rm) (fun a U => a = as' ∧ Z.Warmed39 U.vm ∧ U.heap = h0) (fun _ _ _ _ _ => True) (fun _ U o U' => ∃ v L, o = .returned v ∧ Q v U'.heap L ∧ ReturnedEndW U o U' L k' n') := by
  refine MetFree.of_bodySF hp hisR ?_
  intro p e s m args below meth c s₁ Bd hml0 hP hK
  obtain ⟨rfl, hZ, hh⟩ := hP
  have e0 : s₁.heap = h0 := by rw [← hh, Bd.state]; rfl
  have hnm := (name_of_methodNamed Bd.named Bd.method).1
  obtain ⟨T, L, v, vm1, n1, X, hS, hn1, hv, hQ, st⟩ := H p e s m below meth c s₁ Bd.exec Bd.bytes hml0 (findClass_of_methodNamed Bd.named) hnm Bd.returns hZ e0 (own_since s) (Nat.le_of_eq (congrArg Array.size hh)) (Stand.of_body Bd)
  obtain ⟨fs, hr, hrun, hended, hRE⟩ := X.leaveW hS hn1 (v := v) (fun h => hv (Bd.returns.symm.trans h)) Bd.notSynchronized
  exact ⟨_, _, castTop (hef m) (st fs hr), hrun, hended, v, L, rfl, hQ, own_REmono hRE hk hn⟩
section OwnH
variable {p : Program} {l : Launch} {e : Env} {R : Room} {s : State} {vm0 vm : Vm} {m : MethodId} {args : Array Value} {below : List Frame} {meth : Method} {c : Code} {T : State} {locs : List Loc} {cells slots : Nat} {Z : State} {a0 : Array Value} {h h' h0 : Heap} {a b : Addr} {C nm dd : String} {v w : Value} {sl n0 : Nat} {EL : List (String × Nat)}
theorem own_chK {ws : List (Addr × Nat)} (K : KL h h' ws) (hs : ∀ w ∈ ws, Safe Z EL vm h w.1) (H : CHv Z EL vm h) : CHr Z EL vm h vm h' ∧ ∀ x, Safe Z EL vm h x → Safe Z EL vm h' x := by
  have q := H.step (h' := h') (fun y B cell hy => by
    obtain ⟨c', r1, -, -, -, -, r6⟩ := K.2 y cell hy
    rw [r1, r6 fun w hw e => hs w hw (by rw [e]; exact B)])
  exact ⟨⟨q.1, K.1, fun y b => Or.inl (q.2 y b)⟩, fun x S B => S (q.2 x B)⟩
theorem sf0 {P : Addr → Prop} : ∀ x ∈ ([] : List Addr), P x := fun _ q => nomatch q
theorem sfS {x : Addr} {L : List Addr} (q1 : Safe Z EL vm h x) (q2 : x < h.size) (r : ∀ y ∈ L, Safe Z EL vm h y ∧ y < h.size) : ∀ y ∈ x :: L, Safe Z EL vm h y ∧ y < h.size := fun y hy => by
  rcases List.mem_cons.mp hy with u | u
  · exact u ▸ ⟨q1, q2⟩
  · exact r y u
theorem own_backH {y : MethodName} {bytes : ByteArray} {maxL : Nat} {ret : Option FieldType} {rm : Room} {len W : Nat} {as' : Array Value} {SF : List Addr} {Q : Option Value → Heap → List Loc → Prop}
    (hM : MetFree l y (head1 [Cond.code y bytes maxL ret] rm) (fun a U => a = as' ∧ Z.Warmed39 U.vm ∧ U.heap = h ∧ CHv Z EL U.vm h ∧ ∀ x ∈ SF, Safe Z EL U.vm h x) (fun _ _ _ _ _ => True) (fun _ U o U' => ∃ v L, o = .returned v ∧ Q v U'.heap L ∧ CHr Z EL U.vm U.heap U'.vm U'.heap ∧ ReturnedEndW U o U' L rm.cells rm.slots))
    (hZ : Z.Warmed39 vm0) (wc : (Cond.code y bytes maxL ret).before a0 Z = true) (wz : (Cond.initialized y.cls).before a0 Z = true) (hf : rm.frames + 1 ≤ R.frames) (hl : W + (maxL + 11) + rm.locals ≤ R.locals) (hEL : EW Z a0 EL) (H : CHv Z EL vm0 h) (hSF : ∀ x ∈ SF, Safe Z EL vm0 h x ∧ x < h.size) :
    BackS l R p e below (s.setVm vm0) args y len W (fun A a => a = as' ∧ A.U.heap = h ∧ A.cells + rm.cells ≤ R.cells ∧ A.slots + rm.slots ≤ R.slots)
      (fun A _ v B => ∃ L, Q v B.U.heap L ∧ B.locs = A.locs ++ L ∧ B.cells = A.cells + rm.cells ∧ B.slots = A.slots + rm.slots ∧ CHr Z EL vm0 h B.U.vm B.U.heap) := by
  refine BackS.of_freeW (bytes := bytes) (maxL := maxL) (ret := ret) (E := fun _ first o t L k n => k = rm.cells ∧ n = rm.slots ∧ (∃ v, o = .returned v ∧ Q v t.heap L) ∧ CHr Z EL first.vm first.heap t.vm t.heap) hM hf hl ?_ ?_ (fun _ _ _ _ _ _ _ _ _ => trivial) ?_ ?_
  · intro m meth c A a Y hp
    have hU : Z.Warmed39 A.U.vm := wtrans (s := s.setVm vm0) hZ Y.warmed
    exact ⟨by show (Cond.and _ .tt).before a A.U = true; rw [Cond.before_and, mv hU wc]; rfl, mv hU wc, mv hU wz, hp.2.2.1, hp.2.2.2⟩
  · intro m meth c A a g mk Y hp
    have q := CHv.at Y hZ hEL H
    exact ⟨hp.1, wtrans (s := s.setVm vm0) hZ Y.warmed, hp.2.1, q.1, fun x hx => q.safe (hSF x hx).2 (hSF x hx).1⟩
  · intro _ _ _ _ ⟨v, L, h1, h2, h3, h4⟩
    exact ⟨L, _, _, h4, rfl, rfl, ⟨v, h1, h2⟩, h3⟩
  · intro m meth c A a g mk v t L k n Y hp _ _ ⟨e1, e2, ⟨v', e3, e4⟩, e5⟩
    cases e3; subst e1 e2
    refine ⟨L, e4, rfl, rfl, rfl, (CHv.at Y hZ hEL H).trans ?_⟩
    rw [← hp.2.1]; exact e5
theorem naF {x : Addr × Nat} {L : List (Addr × Nat)} (q : Safe Z EL vm h x.1) (r : ∀ w ∈ L, Safe Z EL vm h w.1) : ∀ w ∈ x :: L, Safe Z EL vm h w.1 := naS (P := fun w => Safe Z EL vm h w.1) q r
theorem naFB {L : List (Addr × Nat)} (n : Nat) (e : (List.range n).map (fun i => (b, i)) = L) (q : Safe Z EL vm h b) : ∀ w ∈ L, Safe Z EL vm h w.1 := naB (P := fun x => Safe Z EL vm h x) n e q
theorem naFM {L : List (Addr × Nat)} (n : Nat) (e : (L.take n).map Prod.fst = List.replicate n b) (q : Safe Z EL vm h b) (r : ∀ w ∈ L.drop n, Safe Z EL vm h w.1) : ∀ w ∈ L, Safe Z EL vm h w.1 := naM (Q := fun w => Safe Z EL vm h w.1) n e (fun _ => q) r
theorem own_Hstatic (X : Stand p l e R (s.setVm vm0) m args below meth c T locs cells slots) (hx : p.tables.exec = Jvm.exec) (hZ : Z.Warmed39 vm0) {own : String} {index : Nat} {y : MethodName} {bytes : ByteArray} {maxL : Nat} {ret : Option FieldType} {rm : Room} {Q : Option Value → Heap → List Loc → Prop} {as' : Array Value} {SF : List Addr}
    (hown : vm0.findClass own = some m.cls) (w1 : (Cond.methodLink own index y).before a0 Z = true) (w2 : (Cond.static y).before a0 Z = true) (w3 : (Cond.initialized y.cls).before a0 Z = true) (w4 : (Cond.code y bytes maxL ret).before a0 Z = true) (hy : y.cls ≠ "java/lang/invoke/MethodHandle" ∧ y.cls ≠ "java/lang/invoke/VarHandle")
    (hM : MetFree l y (head1 [Cond.code y bytes maxL ret] rm) (fun a U => a = as' ∧ Z.Warmed39 U.vm ∧ U.heap = h ∧ CHv Z EL U.vm h ∧ ∀ x ∈ SF, Safe Z EL U.vm h x) (fun _ _ _ _ _ => True) (fun _ U o U' => ∃ v L, o = .returned v ∧ Q v U'.heap L ∧ CHr Z EL U.vm U.heap U'.vm U'.heap ∧ ReturnedEndW U o U' L rm.cells rm.slots))
    (eT : T.heap = h) {W : Nat} (hR : rm.frames + 1 ≤ R.frames ∧ W + (maxL + 11) + rm.locals ≤ R.locals ∧ cells + rm.cells ≤ R.cells ∧ slots + rm.slots ≤ R.slots)
    {g : JFrame} (hg : g.method = m) (hsize : g.locals.size = c.maxLocals) {argsL rest : List Value} (hlen : ∀ sig, parseMethodDescriptor y.desc = some sig → argsL.length = sig.parameters.length) (hstack : g.stack = argsL.reverse ++ rest) (has : argsL.toArray = as') (hW : 2 * g.monitorRoom + (rest.map fun v => v.category).sum ≤ W) (hd : decode c.code g.pc = .ok (.invokestatic index, 3)) {k0 : Nat} (hS : s.Since vm0 k0) (hk : k0 ≤ h.size) (hEL : EW Z a0 EL) (H : CHv Z EL vm0 h) (hSF : ∀ x ∈ SF, Safe Z EL vm0 h x ∧ x < h.size) :
    ∃ (v : Option Value) (T' : State) (L : List Loc), Stand p l e R (s.setVm T'.vm) m args below meth c T' (locs ++ L) (cells + rm.cells) (slots + rm.slots) ∧ s.Since T'.vm T'.heap.size ∧ T'.heap.size ≤ T'.heap.size ∧ Z.Warmed39 T'.vm ∧ T'.vm.findClass own = some m.cls ∧ Q v T'.heap L ∧ CHr Z EL vm0 h T'.vm T'.heap ∧ ∀ target, Steps p.tables e below (T'.setTop { g with pc := g.pc + 3, stack := v.toList ++ rest }) target → Steps p.tables e below (T.setTop g) target := by
  obtain ⟨v, _, ⟨T', L', k', n'⟩, -, X', hS', hg', ⟨L, hQ, l1, l2, l3, hC⟩, st⟩ := callSS X hx (y := y) hown (mvT (s := s.setVm vm0) hZ w1) (mvT (s := s.setVm vm0) hZ w2) (mvT (s := s.setVm vm0) hZ w3) (mvT (s := s.setVm vm0) hZ w4) hy (own_backH (s := s) (W := W) hM hZ w4 w3 hR.1 hR.2.1 hEL H hSF) (g := g) hg hsize (argsL := argsL) (rest := rest) hlen hstack hW hd (fun _ _ => ⟨has, eT, hR.2.2.1, hR.2.2.2⟩)
  dsimp only [Pt.U, Pt.locs, Pt.cells, Pt.slots] at X' hS' hg' l1 l2 l3 st hQ hC
  subst l1 l2 l3
  have q := hS.trans hS' (Nat.le_trans hk (by rw [← eT]; exact hg'))
  exact ⟨v, T', L, X', q, Nat.le_refl _, State.Warmed39.trans (t := s.setVm vm0) hZ hS'.1, by rw [hS'.1.alike.findClass]; exact hown, hQ, hC, fun _ t => st.trans t⟩
theorem own_Hinit (X : Stand p l e R (s.setVm vm0) m args below meth c T locs cells slots) (hx : p.tables.exec = Jvm.exec) (hZ : Z.Warmed39 vm0) {own : String} {index : Nat} {y : MethodName} {bytes : ByteArray} {maxL : Nat} {rm : Room} {Q : Option Value → Heap → List Loc → Prop} {as' : Array Value} {SF : List Addr} (hy1 : y.name = "<init>")
    (hown : vm0.findClass own = some m.cls) (w1 : (Cond.methodLink own index y).before a0 Z = true) (w2 : (Cond.instanceMethod y).before a0 Z = true) (w3 : (Cond.initialized y.cls).before a0 Z = true) (w4 : (Cond.code y bytes maxL none).before a0 Z = true) (hy : y.cls ≠ "java/lang/invoke/MethodHandle" ∧ y.cls ≠ "java/lang/invoke/VarHandle")
    (hM : MetFree l y (head1 [Cond.code y bytes maxL none] rm) (fun a U => a = as' ∧ Z.Warmed39 U.vm ∧ U.heap = h ∧ CHv Z EL U.vm h ∧ ∀ x ∈ SF, Safe Z EL U.vm h x) (fun _ _ _ _ _ => True) (fun _ U o U' => ∃ v L, o = .returned v ∧ Q v U'.heap L ∧ CHr Z EL U.vm U.heap U'.vm U'.heap ∧ ReturnedEndW U o U' L rm.cells rm.slots))
    (eT : T.heap = h) {W : Nat} (hR : rm.frames + 1 ≤ R.frames ∧ W + (maxL + 11) + rm.locals ≤ R.locals ∧ cells + rm.cells ≤ R.cells ∧ slots + rm.slots ≤ R.slots)
    {g : JFrame} (hg : g.method = m) (hsize : g.locals.size = c.maxLocals) {argsL rest : List Value} (hlen : ∀ sig, parseMethodDescriptor y.desc = some sig → argsL.length = sig.parameters.length) (hstack : g.stack = argsL.reverse ++ .ref a :: rest) (has : (.ref a :: argsL).toArray = as') (hW : 2 * g.monitorRoom + (rest.map fun v => v.category).sum ≤ W) (hd : decode c.code g.pc = .ok (.invokespecial index, 3)) {k0 : Nat} (hS : s.Since vm0 k0) (hk : k0 ≤ h.size) (hEL : EW Z a0 EL) (H : CHv Z EL vm0 h) (hSF : ∀ x ∈ SF, Safe Z EL vm0 h x ∧ x < h.size) :
    ∃ (v : Option Value) (T' : State) (L : List Loc), Stand p l e R (s.setVm T'.vm) m args below meth c T' (locs ++ L) (cells + rm.cells) (slots + rm.slots) ∧ s.Since T'.vm T'.heap.size ∧ T'.heap.size ≤ T'.heap.size ∧ Z.Warmed39 T'.vm ∧ T'.vm.findClass own = some m.cls ∧ Q v T'.heap L ∧ CHr Z EL vm0 h T'.vm T'.heap ∧ ∀ target, Steps p.tables e below (T'.setTop { g with pc := g.pc + 3, stack := v.toList ++ rest }) target → Steps p.tables e below (T.setTop g) target := by
  obtain ⟨v, _, ⟨T', L', k', n'⟩, -, X', hS', hg', ⟨L, hQ, l1, l2, l3, hC⟩, st⟩ := X.specialBackS hx (y := y) hy1 hown (mvT (s := s.setVm vm0) hZ w1) (mvT (s := s.setVm vm0) hZ w2) (mvT (s := s.setVm vm0) hZ w4) hy (own_backH (s := s) (W := W) hM hZ w4 w3 hR.1 hR.2.1 hEL H hSF) (g := g) hg hsize (Steps.refl _) (a := a) (argsL := argsL) (rest := rest) hlen hstack hW hd (fun _ _ => ⟨has, eT, hR.2.2.1, hR.2.2.2⟩)
  dsimp only [Pt.U, Pt.locs, Pt.cells, Pt.slots] at X' hS' hg' l1 l2 l3 st hQ hC
  subst l1 l2 l3
  have q := hS.trans hS' (Nat.le_trans hk (by rw [← eT]; exact hg'))
  exact ⟨v, T', L, X', q, Nat.le_refl _, State.Warmed39.trans (t := s.setVm vm0) hZ hS'.1, by rw [hS'.1.alike.findClass]; exact hown, hQ, hC, fun _ t => st.trans t⟩
theorem own_Hvirtual (X : Stand p l e R (s.setVm vm0) m args below meth c T locs cells slots) (hx : p.tables.exec = Jvm.exec) (hZ : Z.Warmed39 vm0) {own : String} {index : Nat} {y z : MethodName} {bytes : ByteArray} {maxL : Nat} {ret : Option FieldType} {rm : Room} {Q : Option Value → Heap → List Loc → Prop} {as' : Array Value} {SF : List Addr}
    (hown : vm0.findClass own = some m.cls) (w1 : (Cond.methodLink own index y).before a0 Z = true) (w2 : (Cond.declares y).before a0 Z = true) (hnf : NotFace (s.setVm vm0) y) (w5 : (Cond.selects C y z).before a0 Z = true) (w6 : (Cond.instanceMethod z).before a0 Z = true) (w3 : (Cond.initialized z.cls).before a0 Z = true) (w4 : (Cond.code z bytes maxL ret).before a0 Z = true) (hy : y.cls ≠ "java/lang/invoke/MethodHandle" ∧ y.cls ≠ "java/lang/invoke/VarHandle")
    (hM : MetFree l z (head1 [Cond.code z bytes maxL ret] rm) (fun a U => a = as' ∧ Z.Warmed39 U.vm ∧ U.heap = h ∧ CHv Z EL U.vm h ∧ ∀ x ∈ SF, Safe Z EL U.vm h x) (fun _ _ _ _ _ => True) (fun _ U o U' => ∃ v L, o = .returned v ∧ Q v U'.heap L ∧ CHr Z EL U.vm U.heap U'.vm U'.heap ∧ ReturnedEndW U o U' L rm.cells rm.slots))
    (eT : T.heap = h) (E : Exa Z h a C) {W : Nat} (hR : rm.frames + 1 ≤ R.frames ∧ W + (maxL + 11) + rm.locals ≤ R.locals ∧ cells + rm.cells ≤ R.cells ∧ slots + rm.slots ≤ R.slots)
    {g : JFrame} (hg : g.method = m) (hsize : g.locals.size = c.maxLocals) {argsL rest : List Value} (hlen : ∀ sig, parseMethodDescriptor y.desc = some sig → argsL.length = sig.parameters.length) (hstack : g.stack = argsL.reverse ++ .ref a :: rest) (has : (.ref a :: argsL).toArray = as') (hW : 2 * g.monitorRoom + (rest.map fun v => v.category).sum ≤ W) (hd : decode c.code g.pc = .ok (.invokevirtual index, 3)) {k0 : Nat} (hS : s.Since vm0 k0) (hk : k0 ≤ h.size) (hEL : EW Z a0 EL) (H : CHv Z EL vm0 h) (hSF : ∀ x ∈ SF, Safe Z EL vm0 h x ∧ x < h.size) :
    ∃ (v : Option Value) (T' : State) (L : List Loc), Stand p l e R (s.setVm T'.vm) m args below meth c T' (locs ++ L) (cells + rm.cells) (slots + rm.slots) ∧ s.Since T'.vm T'.heap.size ∧ T'.heap.size ≤ T'.heap.size ∧ Z.Warmed39 T'.vm ∧ T'.vm.findClass own = some m.cls ∧ Q v T'.heap L ∧ CHr Z EL vm0 h T'.vm T'.heap ∧ ∀ target, Steps p.tables e below (T'.setTop { g with pc := g.pc + 3, stack := v.toList ++ rest }) target → Steps p.tables e below (T.setTop g) target := by
  obtain ⟨cq, kq, qa, qb, qc⟩ := isOf (s := s.setVm vm0) hZ eT E
  obtain ⟨v, _, ⟨T', L', k', n'⟩, -, X', hS', hg', ⟨L, hQ, l1, l2, l3, hC⟩, st⟩ := X.virtualBackS hx (y := y) (z := z) hown (mvT (s := s.setVm vm0) hZ w1) (mvT (s := s.setVm vm0) hZ w2) hnf (mvT (s := s.setVm vm0) hZ w5) (mvT (s := s.setVm vm0) hZ w6) hy (own_backH (s := s) (W := W) hM hZ w4 w3 hR.1 hR.2.1 hEL H hSF) qa qc (g := g) hg hsize (Steps.refl _) (argsL := argsL) (rest := rest) hlen hstack hW hd (fun _ _ => ⟨has, eT, hR.2.2.1, hR.2.2.2⟩)
  dsimp only [Pt.U, Pt.locs, Pt.cells, Pt.slots] at X' hS' hg' l1 l2 l3 st hQ hC
  subst l1 l2 l3
  have q := hS.trans hS' (Nat.le_trans hk (by rw [← eT]; exact hg'))
  exact ⟨v, T', L, X', q, Nat.le_refl _, State.Warmed39.trans (t := s.setVm vm0) hZ hS'.1, by rw [hS'.1.alike.findClass]; exact hown, hQ, hC, fun _ t => st.trans t⟩
theorem own_Hprivate (X : Stand p l e R (s.setVm vm0) m args below meth c T locs cells slots) (hx : p.tables.exec = Jvm.exec) (hZ : Z.Warmed39 vm0) {own : String} {index : Nat} {y x0 y0 : MethodName} {bytes : ByteArray} {maxL : Nat} {ret : Option FieldType} {rm : Room} {Q : Option Value → Heap → List Loc → Prop} {as' : Array Value} {SF : List Addr}
    (hown : vm0.findClass own = some m.cls) (w1 : (Cond.methodLink own index y).before a0 Z = true) (w6 : (Cond.instanceMethod y).before a0 Z = true) (w5 : (Cond.selects C x0 y0).before a0 Z = true) (hyy : y0.cls = y.cls) (w7 : (Cond.privateMethod y).before a0 Z = true) (w3 : (Cond.initialized y.cls).before a0 Z = true) (w4 : (Cond.code y bytes maxL ret).before a0 Z = true) (hy : y.cls ≠ "java/lang/invoke/MethodHandle" ∧ y.cls ≠ "java/lang/invoke/VarHandle")
    (hM : MetFree l y (head1 [Cond.code y bytes maxL ret] rm) (fun a U => a = as' ∧ Z.Warmed39 U.vm ∧ U.heap = h ∧ CHv Z EL U.vm h ∧ ∀ x ∈ SF, Safe Z EL U.vm h x) (fun _ _ _ _ _ => True) (fun _ U o U' => ∃ v L, o = .returned v ∧ Q v U'.heap L ∧ CHr Z EL U.vm U.heap U'.vm U'.heap ∧ ReturnedEndW U o U' L rm.cells rm.slots))
    (eT : T.heap = h) (E : Exa Z h a nm) {W : Nat} (hR : rm.frames + 1 ≤ R.frames ∧ W + (maxL + 11) + rm.locals ≤ R.locals ∧ cells + rm.cells ≤ R.cells ∧ slots + rm.slots ≤ R.slots)
    {g : JFrame} (hg : g.method = m) (hsize : g.locals.size = c.maxLocals) {argsL rest : List Value} (hlen : ∀ sig, parseMethodDescriptor y.desc = some sig → argsL.length = sig.parameters.length) (hstack : g.stack = argsL.reverse ++ .ref a :: rest) (has : (.ref a :: argsL).toArray = as') (hW : 2 * g.monitorRoom + (rest.map fun v => v.category).sum ≤ W) (hd : decode c.code g.pc = .ok (.invokevirtual index, 3)) {k0 : Nat} (hS : s.Since vm0 k0) (hk : k0 ≤ h.size) (hEL : EW Z a0 EL) (H : CHv Z EL vm0 h) (hSF : ∀ x ∈ SF, Safe Z EL vm0 h x ∧ x < h.size) :
    ∃ (v : Option Value) (T' : State) (L : List Loc), Stand p l e R (s.setVm T'.vm) m args below meth c T' (locs ++ L) (cells + rm.cells) (slots + rm.slots) ∧ s.Since T'.vm T'.heap.size ∧ T'.heap.size ≤ T'.heap.size ∧ Z.Warmed39 T'.vm ∧ T'.vm.findClass own = some m.cls ∧ Q v T'.heap L ∧ CHr Z EL vm0 h T'.vm T'.heap ∧ ∀ target, Steps p.tables e below (T'.setTop { g with pc := g.pc + 3, stack := v.toList ++ rest }) target → Steps p.tables e below (T.setTop g) target := by
  obtain ⟨cell, _, qa, -, -, qc, -⟩ := E
  obtain ⟨mk, methM, hnamed, hmethM, -, -⟩ := Cond.instanceMethod_spec (mvT (s := s.setVm vm0) hZ w6 : (Cond.instanceMethod y).before args _ = true)
  obtain ⟨_, _, m2, -, -, q3, -, kr, hkr, hni⟩ := Cond.selects_spec (mvT (s := s.setVm vm0) hZ w5 : (Cond.selects C x0 y0).before args _ = true)
  have hc2 := findClass_of_methodNamed q3
  rw [hyy] at hc2
  have hpr := Cond.privateMethod_at (mvT (s := s.setVm vm0) hZ w7 : (Cond.privateMethod y).before args _ = true)
  have hsel := Jvm.Stand.selects_self_of_private (args := args) hc2 hkr hni hpr (mvT (s := s.setVm vm0) hZ w6) hy
  obtain ⟨v, _, ⟨T', L', k', n'⟩, -, X', hS', hg', ⟨L, hQ, l1, l2, l3, hC⟩, st⟩ := X.privateBackS hx (y := y) hown (mvT (s := s.setVm vm0) hZ w1) (mvT (s := s.setVm vm0) hZ w6) hsel hpr (mvT (s := s.setVm vm0) hZ w4) hy (own_backH (s := s) (W := W) hM hZ w4 w3 hR.1 hR.2.1 hEL H hSF) (g := g) hg hsize (Steps.refl _) (a := a) (cell := cell) (by rw [eT]; exact qa) (fun q eq => by rw [eq] at qc; exact absurd qc (by simp [VmData.isStatics])) (argsL := argsL) (rest := rest) hlen hstack hW hd (fun _ _ => ⟨has, eT, hR.2.2.1, hR.2.2.2⟩)
  dsimp only [Pt.U, Pt.locs, Pt.cells, Pt.slots] at X' hS' hg' l1 l2 l3 st hQ hC
  subst l1 l2 l3
  have q := hS.trans hS' (Nat.le_trans hk (by rw [← eT]; exact hg'))
  exact ⟨v, T', L, X', q, Nat.le_refl _, State.Warmed39.trans (t := s.setVm vm0) hZ hS'.1, by rw [hS'.1.alike.findClass]; exact hown, hQ, hC, fun _ t => st.trans t⟩
theorem own_Hsuper (X : Stand p l e R (s.setVm vm0) m args below meth c T locs cells slots) (hx : p.tables.exec = Jvm.exec) (hZ : Z.Warmed39 vm0) {own : String} {index : Nat} {y x0 y0 : MethodName} {bytes : ByteArray} {maxL : Nat} {ret : Option FieldType} {rm : Room} {Q : Option Value → Heap → List Loc → Prop} {as' : Array Value} {SF : List Addr}
    (hown : vm0.findClass own = some m.cls) (w1 : (Cond.methodLink own index y).before a0 Z = true) (w6 : (Cond.instanceMethod y).before a0 Z = true) (w5 : (Cond.selects C x0 y0).before a0 Z = true) (hyy : y0.cls = y.cls) (w8 : (Cond.superclass own y.cls).before a0 Z = true) (hyn : y.name ≠ "<init>") (w3 : (Cond.initialized y.cls).before a0 Z = true) (w4 : (Cond.code y bytes maxL ret).before a0 Z = true) (hy : y.cls ≠ "java/lang/invoke/MethodHandle" ∧ y.cls ≠ "java/lang/invoke/VarHandle")
    (hM : MetFree l y (head1 [Cond.code y bytes maxL ret] rm) (fun a U => a = as' ∧ Z.Warmed39 U.vm ∧ U.heap = h ∧ CHv Z EL U.vm h ∧ ∀ x ∈ SF, Safe Z EL U.vm h x) (fun _ _ _ _ _ => True) (fun _ U o U' => ∃ v L, o = .returned v ∧ Q v U'.heap L ∧ CHr Z EL U.vm U.heap U'.vm U'.heap ∧ ReturnedEndW U o U' L rm.cells rm.slots))
    (eT : T.heap = h) (E : Exa Z h a nm) {W : Nat} (hR : rm.frames + 1 ≤ R.frames ∧ W + (maxL + 11) + rm.locals ≤ R.locals ∧ cells + rm.cells ≤ R.cells ∧ slots + rm.slots ≤ R.slots)
    {g : JFrame} (hg : g.method = m) (hsize : g.locals.size = c.maxLocals) {argsL rest : List Value} (hlen : ∀ sig, parseMethodDescriptor y.desc = some sig → argsL.length = sig.parameters.length) (hstack : g.stack = argsL.reverse ++ .ref a :: rest) (has : (.ref a :: argsL).toArray = as') (hW : 2 * g.monitorRoom + (rest.map fun v => v.category).sum ≤ W) (hd : decode c.code g.pc = .ok (.invokespecial index, 3)) {k0 : Nat} (hS : s.Since vm0 k0) (hk : k0 ≤ h.size) (hEL : EW Z a0 EL) (H : CHv Z EL vm0 h) (hSF : ∀ x ∈ SF, Safe Z EL vm0 h x ∧ x < h.size) :
    ∃ (v : Option Value) (T' : State) (L : List Loc), Stand p l e R (s.setVm T'.vm) m args below meth c T' (locs ++ L) (cells + rm.cells) (slots + rm.slots) ∧ s.Since T'.vm T'.heap.size ∧ T'.heap.size ≤ T'.heap.size ∧ Z.Warmed39 T'.vm ∧ T'.vm.findClass own = some m.cls ∧ Q v T'.heap L ∧ CHr Z EL vm0 h T'.vm T'.heap ∧ ∀ target, Steps p.tables e below (T'.setTop { g with pc := g.pc + 3, stack := v.toList ++ rest }) target → Steps p.tables e below (T.setTop g) target := by
  obtain ⟨mk, methM, hnamed, hmethM, -, -⟩ := Cond.instanceMethod_spec w6
  obtain ⟨_, _, m2, -, -, q3, -, kr, hkr, hni⟩ := Cond.selects_spec w5
  have hc2 := findClass_of_methodNamed q3
  rw [hyy, findClass_of_methodNamed hnamed] at hc2
  rw [← Option.some.inj hc2] at hkr
  have w2 : (Cond.sameMethod y.cls y.cls y.name y.desc).before a0 Z = true := by
    simp [Cond.before, Cond.holds, Cond.value, findClass_of_methodNamed hnamed, State.methodFound?_of_named hnamed hy, hnamed, hkr, hni]
  obtain ⟨v, _, ⟨T', L', k', n'⟩, -, X', hS', hg', ⟨L, hQ, l1, l2, l3, hC⟩, st⟩ := superBackS (s := s.setVm vm0) X hx hZ (y := y) hown w1 w2 w6 w8 hyn (own_backH (s := s) (W := W) hM hZ w4 w3 hR.1 hR.2.1 hEL H hSF) eT (Ins.self E) (g := g) hg hsize w4 (argsL := argsL) (rest := rest) hlen hstack hW hd (fun _ _ => ⟨has, eT, hR.2.2.1, hR.2.2.2⟩)
  dsimp only [Pt.U, Pt.locs, Pt.cells, Pt.slots] at X' hS' hg' l1 l2 l3 st hQ hC
  subst l1 l2 l3
  have q := hS.trans hS' (Nat.le_trans hk (by rw [← eT]; exact hg'))
  exact ⟨v, T', L, X', q, Nat.le_refl _, State.Warmed39.trans (t := s.setVm vm0) hZ hS'.1, by rw [hS'.1.alike.findClass]; exact hown, hQ, hC, fun _ t => st.trans t⟩
theorem own_Hface (X : Stand p l e R (s.setVm vm0) m args below meth c T locs cells slots) (hx : p.tables.exec = Jvm.exec) (hZ : Z.Warmed39 vm0) {own : String} {index count : Nat} {y z : MethodName} {bytes : ByteArray} {maxL : Nat} {ret : Option FieldType} {rm : Room} {Q : Option Value → Heap → List Loc → Prop} {as' : Array Value} {SF : List Addr}
    (hown : vm0.findClass own = some m.cls) (w1 : (Cond.methodLink own index y).before a0 Z = true) (w2 : (Cond.declares y).before a0 Z = true) (wf : (Cond.interfaceMethod y.cls y.cls y.name y.desc).before args (s.setVm vm0) = true) (w5 : (Cond.selects C y z).before a0 Z = true) (w6 : (Cond.instanceMethod z).before a0 Z = true) (w7 : (Cond.publicMethod z).before a0 Z = true) (w8 : (Cond.unhidden C y.name y.desc).before a0 Z = true) (w9 : (Cond.castable C y.cls).before a0 Z = true) (w3 : (Cond.initialized z.cls).before a0 Z = true) (w4 : (Cond.code z bytes maxL ret).before a0 Z = true) (hy : y.cls ≠ "java/lang/invoke/MethodHandle" ∧ y.cls ≠ "java/lang/invoke/VarHandle")
    (hM : MetFree l z (head1 [Cond.code z bytes maxL ret] rm) (fun a U => a = as' ∧ Z.Warmed39 U.vm ∧ U.heap = h ∧ CHv Z EL U.vm h ∧ ∀ x ∈ SF, Safe Z EL U.vm h x) (fun _ _ _ _ _ => True) (fun _ U o U' => ∃ v L, o = .returned v ∧ Q v U'.heap L ∧ CHr Z EL U.vm U.heap U'.vm U'.heap ∧ ReturnedEndW U o U' L rm.cells rm.slots))
    (eT : T.heap = h) (E : Exa Z h a C) {W : Nat} (hR : rm.frames + 1 ≤ R.frames ∧ W + (maxL + 11) + rm.locals ≤ R.locals ∧ cells + rm.cells ≤ R.cells ∧ slots + rm.slots ≤ R.slots)
    {g : JFrame} (hg : g.method = m) (hsize : g.locals.size = c.maxLocals) {argsL rest : List Value} (hlen : ∀ sig, parseMethodDescriptor y.desc = some sig → argsL.length = sig.parameters.length) (hstack : g.stack = argsL.reverse ++ .ref a :: rest) (has : (.ref a :: argsL).toArray = as') (hW : 2 * g.monitorRoom + (rest.map fun v => v.category).sum ≤ W) (hd : decode c.code g.pc = .ok (.invokeinterface index count, 5)) {k0 : Nat} (hS : s.Since vm0 k0) (hk : k0 ≤ h.size) (hEL : EW Z a0 EL) (H : CHv Z EL vm0 h) (hSF : ∀ x ∈ SF, Safe Z EL vm0 h x ∧ x < h.size) :
    ∃ (v : Option Value) (T' : State) (L : List Loc), Stand p l e R (s.setVm T'.vm) m args below meth c T' (locs ++ L) (cells + rm.cells) (slots + rm.slots) ∧ s.Since T'.vm T'.heap.size ∧ T'.heap.size ≤ T'.heap.size ∧ Z.Warmed39 T'.vm ∧ T'.vm.findClass own = some m.cls ∧ Q v T'.heap L ∧ CHr Z EL vm0 h T'.vm T'.heap ∧ ∀ target, Steps p.tables e below (T'.setTop { g with pc := g.pc + 5, stack := v.toList ++ rest }) target → Steps p.tables e below (T.setTop g) target := by
  obtain ⟨cq, kq, qa, qb, qc⟩ := isOf (s := s.setVm vm0) hZ eT E
  obtain ⟨v, _, ⟨T', L', k', n'⟩, -, X', hS', hg', ⟨L, hQ, l1, l2, l3, hC⟩, st⟩ := X.interfaceBackS hx (xi := y) (y := z) hown (mvT (s := s.setVm vm0) hZ w1) (mvT (s := s.setVm vm0) hZ w2) wf (mvT (s := s.setVm vm0) hZ w5) (mvT (s := s.setVm vm0) hZ w6) (mvT (s := s.setVm vm0) hZ w7) (mvT (s := s.setVm vm0) hZ w8) (mvT (s := s.setVm vm0) hZ w9) hy (own_backH (s := s) (W := W) hM hZ w4 w3 hR.1 hR.2.1 hEL H hSF) qa qb qc (g := g) hg hsize (Steps.refl _) (argsL := argsL) (rest := rest) hlen hstack hW hd (fun _ _ => ⟨has, eT, hR.2.2.1, hR.2.2.2⟩)
  dsimp only [Pt.U, Pt.locs, Pt.cells, Pt.slots] at X' hS' hg' l1 l2 l3 st hQ hC
  subst l1 l2 l3
  have q := hS.trans hS' (Nat.le_trans hk (by rw [← eT]; exact hg'))
  exact ⟨v, T', L, X', q, Nat.le_refl _, State.Warmed39.trans (t := s.setVm vm0) hZ hS'.1, by rw [hS'.1.alike.findClass]; exact hown, hQ, hC, fun _ t => st.trans t⟩
end OwnH
abbrev OMH (l : Launch) (Z : State) (EL : List (String × Nat)) (SF : List Addr) (y : MethodName) (bytes : ByteArray) (maxL : Nat) (ret : Option FieldType) (ws : List Jvm.Cond) (rm : Room) (as' : Array Value) (h0 : Heap) (Q : Option Value → Heap → List Loc → Prop) : Prop :=
  MetFree l y (head1 (Jvm.Cond.code y bytes maxL ret :: ws) rm) (fun a U => a = as' ∧ Z.Warmed39 U.vm ∧ U.heap = h0 ∧ CHv Z EL U.vm h0 ∧ ∀ x ∈ SF, Safe Z EL U.vm h0 x) (fun _ _ _ _ _ => True) (fun _ U o U' => ∃ v L, o = .returned v ∧ Q v U'.heap L ∧ CHr Z EL U.vm U.heap U'.vm U'.heap ∧ ReturnedEndW U o U' L rm.cells rm.slots)
theorem own_bodyH {l : Launch} {Z : State} {a0 : Array Value} {EL : List (String × Nat)} {SF : List Addr} {y : MethodName} {bytes : ByteArray} {maxL : Nat} {ret : Option FieldType} {ws : List Jvm.Cond} {rm : Room} {as' : Array Value} {h0 : Heap} {Q : Option Value → Heap → List Loc → Prop} {k n k' n' : Nat} {L0 : Array Slot} (hEL : EW Z a0 EL) (hp : plainFor y = true) (hef : ∀ m, entryFrame m as' maxL = mkF m 0 L0 []) (hk : k ≤ k') (hn : n ≤ n')
    (H : ∀ (p : Program) (e : Env) (s : State) (m : MethodId) (below : List Frame) (meth : Method) (c : Code) (s₁ : State), p.tables.exec = Jvm.exec → c.code = bytes → c.maxLocals = maxL → s.vm.findClass y.cls = some m.cls → meth.name = y.name → meth.sig.returnType = ret → Z.Warmed39 s.vm → s₁.heap = h0 → s.Since s.vm s.heap.size → s.heap.size ≤ h0.size → Stand p l e rm (s.setVm s.vm) m as' below meth c s₁ [] 0 0 → CHv Z EL s.vm h0 → (∀ x ∈ SF, Safe Z EL s.vm h0 x) →
      ∃ (T : State) (L : List Loc) (v : Option Value) (vm1 : Vm) (n1 : Nat), Stand p l e rm (s.setVm vm1) m as' below meth c T L k n ∧ s.Since vm1 n1 ∧ n1 ≤ T.heap.size ∧ (ret = none → v = none) ∧ Q v T.heap L ∧ CHr Z EL s.vm h0 vm1 T.heap ∧ Z.Warmed39 vm1 ∧ ∀ fs, (∀ (f : JFrame) (acts : List Action), f.method = m → f.locked = none → f.entered = [] → (doReturn e (T.setTop f) acts v).1 = T.setFrames fs) → Steps p.tables e below (s₁.setTop (mkF m 0 L0 [])) (T.setFrames fs)) :
    MetFree l y (head1 (Jvm.Cond.code y bytes maxL ret :: ws) rm) (fun a U => a = as' ∧ Z.Warmed39 U.vm ∧ U.heap = h0 ∧ CHv Z EL U.vm h0 ∧ ∀ x ∈ SF, Safe Z EL U.vm h0 x) (fun _ _ _ _ _ => True) (fun _ U o U' => ∃ v L, o = .returned v ∧ Q v U'.heap L ∧ CHr Z EL U.vm U.heap U'.vm U'.heap ∧ ReturnedEndW U o U' L k' n') := by
  refine MetFree.of_bodySF hp hisR ?_
  intro p e s m args below meth c s₁ Bd hml0 hP hK
  obtain ⟨rfl, hZ, hh, hC, hSF⟩ := hP
  have e0 : s₁.heap = h0 := by rw [← hh, Bd.state]; rfl
  have hnm := (name_of_methodNamed Bd.named Bd.method).1
  obtain ⟨T, L, v, vm1, n1, X, hS, hn1, hv, hQ, hA, hZ1, st⟩ := H p e s m below meth c s₁ Bd.exec Bd.bytes hml0 (findClass_of_methodNamed Bd.named) hnm Bd.returns hZ e0 (own_since s) (Nat.le_of_eq (congrArg Array.size hh)) (Stand.of_body Bd) hC hSF
  obtain ⟨fs, hr, hrun, hended, hRE⟩ := X.leaveW hS hn1 (v := v) (fun h => hv (Bd.returns.symm.trans h)) Bd.notSynchronized
  have hB := hA.trans (CHv.at X hZ1 hEL hA.1)
  rw [← hh] at hB
  exact ⟨_, _, castTop (hef m) (st fs hr), hrun, hended, v, L, rfl, hQ, hB, own_REmono hRE hk hn⟩
theorem t_iloadN {tb : Tables} [Ours tb] {e : Env} {below : List Frame} {T target : State} {m : MethodId} {c : Code} {pc : Nat} {L : Array Slot} {S : List Value} {v : Int32} {k : Fin 4} (pc' : Nat) (h : At T m c below) (hx : tb.exec = Jvm.exec) (hd : decode c.code pc = .ok (.iload_n k, 1)) (hl : L[k.val]? = some (.val (.int v))) (hp : pc + 1 = pc') (hr : Steps tb e below (T.setTop (mkF m pc' L (.int v :: S))) target) : Steps tb e below (T.setTop (mkF m pc L (S))) target := by
  subst hp; exact XS.iloadN h hx rfl hd hl hr
theorem t_iload {tb : Tables} [Ours tb] {e : Env} {below : List Frame} {T target : State} {m : MethodId} {c : Code} {pc : Nat} {L : Array Slot} {S : List Value} {v : Int32} {k : Nat} (pc' : Nat) (h : At T m c below) (hx : tb.exec = Jvm.exec) (hd : decode c.code pc = .ok (.iload k, 2)) (hl : L[k]? = some (.val (.int v))) (hp : pc + 2 = pc') (hr : Steps tb e below (T.setTop (mkF m pc' L (.int v :: S))) target) : Steps tb e below (T.setTop (mkF m pc L (S))) target := by
  subst hp; exact XS.iload h hx rfl hd hl hr
theorem t_aloadN {tb : Tables} [Ours tb] {e : Env} {below : List Frame} {T target : State} {m : MethodId} {c : Code} {pc : Nat} {L : Array Slot} {S : List Value} {v : Value} {k : Fin 4} (pc' : Nat) (h : At T m c below) (hx : tb.exec = Jvm.exec) (hd : decode c.code pc = .ok (.aload_n k, 1)) (hl : L[k.val]? = some (.val v)) (hv : v.isRef = true) (hp : pc + 1 = pc') (hr : Steps tb e below (T.setTop (mkF m pc' L (v :: S))) target) : Steps tb e below (T.setTop (mkF m pc L (S))) target := by
  subst hp; exact XS.aloadN h hx rfl hd hl hv hr
theorem t_aload {tb : Tables} [Ours tb] {e : Env} {below : List Frame} {T target : State} {m : MethodId} {c : Code} {pc : Nat} {L : Array Slot} {S : List Value} {v : Value} {k : Nat} (pc' : Nat) (h : At T m c below) (hx : tb.exec = Jvm.exec) (hd : decode c.code pc = .ok (.aload k, 2)) (hl : L[k]? = some (.val v)) (hv : v.isRef = true) (hp : pc + 2 = pc') (hr : Steps tb e below (T.setTop (mkF m pc' L (v :: S))) target) : Steps tb e below (T.setTop (mkF m pc L (S))) target := by
  subst hp; exact XS.aload h hx rfl hd hl hv hr
theorem t_istoreN {tb : Tables} [Ours tb] {e : Env} {below : List Frame} {T target : State} {m : MethodId} {c : Code} {pc : Nat} {L : Array Slot} {S : List Value} {v : Int32} {k : Fin 4} {L' : Array Slot} (pc' : Nat) (h : At T m c below) (hx : tb.exec = Jvm.exec) (hd : decode c.code pc = .ok (.istore_n k, 1)) (hl : storeLocals L k.val (.int v) = some L') (hp : pc + 1 = pc') (hr : Steps tb e below (T.setTop (mkF m pc' L' (S))) target) : Steps tb e below (T.setTop (mkF m pc L (.int v :: S))) target := by
  subst hp; exact XS.istoreN h hx rfl hd rfl hl hr
theorem t_istore {tb : Tables} [Ours tb] {e : Env} {below : List Frame} {T target : State} {m : MethodId} {c : Code} {pc : Nat} {L : Array Slot} {S : List Value} {v : Int32} {k : Nat} {L' : Array Slot} (pc' : Nat) (h : At T m c below) (hx : tb.exec = Jvm.exec) (hd : decode c.code pc = .ok (.istore k, 2)) (hl : storeLocals L k (.int v) = some L') (hp : pc + 2 = pc') (hr : Steps tb e below (T.setTop (mkF m pc' L' (S))) target) : Steps tb e below (T.setTop (mkF m pc L (.int v :: S))) target := by
  subst hp; exact XS.istore h hx rfl hd rfl hl hr
theorem t_astoreN {tb : Tables} [Ours tb] {e : Env} {below : List Frame} {T target : State} {m : MethodId} {c : Code} {pc : Nat} {L : Array Slot} {S : List Value} {v : Value} {k : Fin 4} {L' : Array Slot} (pc' : Nat) (h : At T m c below) (hx : tb.exec = Jvm.exec) (hd : decode c.code pc = .ok (.astore_n k, 1)) (hv : v.isRef = true) (hl : storeLocals L k.val v = some L') (hp : pc + 1 = pc') (hr : Steps tb e below (T.setTop (mkF m pc' L' (S))) target) : Steps tb e below (T.setTop (mkF m pc L (v :: S))) target := by
  subst hp; exact XS.astoreN h hx rfl hd rfl hv hl hr
theorem t_astore {tb : Tables} [Ours tb] {e : Env} {below : List Frame} {T target : State} {m : MethodId} {c : Code} {pc : Nat} {L : Array Slot} {S : List Value} {v : Value} {k : Nat} {L' : Array Slot} (pc' : Nat) (h : At T m c below) (hx : tb.exec = Jvm.exec) (hd : decode c.code pc = .ok (.astore k, 2)) (hv : v.isRef = true) (hl : storeLocals L k v = some L') (hp : pc + 2 = pc') (hr : Steps tb e below (T.setTop (mkF m pc' L' (S))) target) : Steps tb e below (T.setTop (mkF m pc L (v :: S))) target := by
  subst hp; exact XS.astore h hx rfl hd rfl hv hl hr
theorem t_iconst {tb : Tables} [Ours tb] {e : Env} {below : List Frame} {T target : State} {m : MethodId} {c : Code} {pc : Nat} {L : Array Slot} {S : List Value} {i : Int} {r : Int32} (pc' : Nat) (h : At T m c below) (hx : tb.exec = Jvm.exec) (hd : decode c.code pc = .ok (.iconst i, 1)) (he : Int32.ofInt i = r) (hp : pc + 1 = pc') (hr : Steps tb e below (T.setTop (mkF m pc' L (.int r :: S))) target) : Steps tb e below (T.setTop (mkF m pc L (S))) target := by
  subst hp he; exact XS.iconst h hx rfl hd hr
theorem t_bipush {tb : Tables} [Ours tb] {e : Env} {below : List Frame} {T target : State} {m : MethodId} {c : Code} {pc : Nat} {L : Array Slot} {S : List Value} {i : Int} {r : Int32} (pc' : Nat) (h : At T m c below) (hx : tb.exec = Jvm.exec) (hd : decode c.code pc = .ok (.bipush i, 2)) (he : (Int8.ofInt i).toInt32 = r) (hp : pc + 2 = pc') (hr : Steps tb e below (T.setTop (mkF m pc' L (.int r :: S))) target) : Steps tb e below (T.setTop (mkF m pc L (S))) target := by
  subst hp he; exact XS.bipush h hx rfl hd hr
theorem t_sipush {tb : Tables} [Ours tb] {e : Env} {below : List Frame} {T target : State} {m : MethodId} {c : Code} {pc : Nat} {L : Array Slot} {S : List Value} {i : Int} {r : Int32} (pc' : Nat) (h : At T m c below) (hx : tb.exec = Jvm.exec) (hd : decode c.code pc = .ok (.sipush i, 3)) (he : (Int16.ofInt i).toInt32 = r) (hp : pc + 3 = pc') (hr : Steps tb e below (T.setTop (mkF m pc' L (.int r :: S))) target) : Steps tb e below (T.setTop (mkF m pc L (S))) target := by
  subst hp he; exact XS.sipush h hx rfl hd hr
theorem t_aconst_null {tb : Tables} [Ours tb] {e : Env} {below : List Frame} {T target : State} {m : MethodId} {c : Code} {pc : Nat} {L : Array Slot} {S : List Value}  (pc' : Nat) (h : At T m c below) (hx : tb.exec = Jvm.exec) (hd : decode c.code pc = .ok (.aconst_null, 1)) (hp : pc + 1 = pc') (hr : Steps tb e below (T.setTop (mkF m pc' L (.null :: S))) target) : Steps tb e below (T.setTop (mkF m pc L (S))) target := by
  subst hp; exact XS.aconstNull h hx rfl hd hr
theorem t_isub {tb : Tables} [Ours tb] {e : Env} {below : List Frame} {T target : State} {m : MethodId} {c : Code} {pc : Nat} {L : Array Slot} {S : List Value} {x y r : Int32} (pc' : Nat) (h : At T m c below) (hx : tb.exec = Jvm.exec) (hd : decode c.code pc = .ok (.isub, 1)) (he : x - y = r) (hp : pc + 1 = pc') (hr : Steps tb e below (T.setTop (mkF m pc' L (.int r :: S))) target) : Steps tb e below (T.setTop (mkF m pc L (.int y :: .int x :: S))) target := by
  subst hp he; exact XS.isub h hx rfl hd rfl hr
theorem t_iand {tb : Tables} [Ours tb] {e : Env} {below : List Frame} {T target : State} {m : MethodId} {c : Code} {pc : Nat} {L : Array Slot} {S : List Value} {x y r : Int32} (pc' : Nat) (h : At T m c below) (hx : tb.exec = Jvm.exec) (hd : decode c.code pc = .ok (.iand, 1)) (he : x &&& y = r) (hp : pc + 1 = pc') (hr : Steps tb e below (T.setTop (mkF m pc' L (.int r :: S))) target) : Steps tb e below (T.setTop (mkF m pc L (.int y :: .int x :: S))) target := by
  subst hp he; exact XS.iand h hx rfl hd rfl hr
theorem t_irem {tb : Tables} [Ours tb] {e : Env} {below : List Frame} {T target : State} {m : MethodId} {c : Code} {pc : Nat} {L : Array Slot} {S : List Value} {x y r : Int32} (pc' : Nat) (h : At T m c below) (hx : tb.exec = Jvm.exec) (hd : decode c.code pc = .ok (.irem, 1)) (hy : y ≠ 0) (he : x - (x / y) * y = r) (hp : pc + 1 = pc') (hr : Steps tb e below (T.setTop (mkF m pc' L (.int r :: S))) target) : Steps tb e below (T.setTop (mkF m pc L (.int y :: .int x :: S))) target := by
  subst hp he; exact XS.irem h hx rfl hd rfl hy hr
theorem t_iushr {tb : Tables} [Ours tb] {e : Env} {below : List Frame} {T target : State} {m : MethodId} {c : Code} {pc : Nat} {L : Array Slot} {S : List Value} {x r : Int32} {y : Int32} (pc' : Nat) (h : At T m c below) (hx : tb.exec = Jvm.exec) (hd : decode c.code pc = .ok (.iushr, 1)) (he : (x.toUInt32 >>> (y &&& 31).toUInt32).toInt32 = r) (hp : pc + 1 = pc') (hr : Steps tb e below (T.setTop (mkF m pc' L (.int r :: S))) target) : Steps tb e below (T.setTop (mkF m pc L (.int y :: .int x :: S))) target := by
  subst hp he; exact XS.iushr h hx rfl hd rfl hr
theorem t_i2b {tb : Tables} [Ours tb] {e : Env} {below : List Frame} {T target : State} {m : MethodId} {c : Code} {pc : Nat} {L : Array Slot} {S : List Value} {x : Int32} {r : Int32} (pc' : Nat) (h : At T m c below) (hx : tb.exec = Jvm.exec) (hd : decode c.code pc = .ok (.i2b, 1)) (he : x.toInt8.toInt32 = r) (hp : pc + 1 = pc') (hr : Steps tb e below (T.setTop (mkF m pc' L (.int r :: S))) target) : Steps tb e below (T.setTop (mkF m pc L (.int x :: S))) target := by
  subst hp he; exact XS.i2b h hx rfl hd rfl hr
theorem t_i2c {tb : Tables} [Ours tb] {e : Env} {below : List Frame} {T target : State} {m : MethodId} {c : Code} {pc : Nat} {L : Array Slot} {S : List Value} {x : Int32} {r : Int32} (pc' : Nat) (h : At T m c below) (hx : tb.exec = Jvm.exec) (hd : decode c.code pc = .ok (.i2c, 1)) (he : x.toUInt32.toUInt16.toUInt32.toInt32 = r) (hp : pc + 1 = pc') (hr : Steps tb e below (T.setTop (mkF m pc' L (.int r :: S))) target) : Steps tb e below (T.setTop (mkF m pc L (.int x :: S))) target := by
  subst hp he; exact XS.i2c h hx rfl hd rfl hr
theorem t_dup {tb : Tables} [Ours tb] {e : Env} {below : List Frame} {T target : State} {m : MethodId} {c : Code} {pc : Nat} {L : Array Slot} {S : List Value} {x : Value} (pc' : Nat) (h : At T m c below) (hx : tb.exec = Jvm.exec) (hd : decode c.code pc = .ok (.dup, 1)) (hc : x.category = 1) (hp : pc + 1 = pc') (hr : Steps tb e below (T.setTop (mkF m pc' L (x :: x :: S))) target) : Steps tb e below (T.setTop (mkF m pc L (x :: S))) target := by
  subst hp; exact XS.dup h hx rfl hd rfl hc hr
theorem t_iinc {tb : Tables} [Ours tb] {e : Env} {below : List Frame} {T target : State} {m : MethodId} {c : Code} {pc : Nat} {L : Array Slot} {S : List Value} {k : Nat} {cst : Int} {x : Int32} {L' : Array Slot} (pc' : Nat) (h : At T m c below) (hx : tb.exec = Jvm.exec) (hd : decode c.code pc = .ok (.iinc k cst, 3)) (hl : L[k]? = some (.val (.int x))) (hl' : storeLocals L k (.int (x + Int32.ofInt cst)) = some L') (hp : pc + 3 = pc') (hr : Steps tb e below (T.setTop (mkF m pc' L' (S))) target) : Steps tb e below (T.setTop (mkF m pc L (S))) target := by
  subst hp; exact XS.iinc h hx rfl hd hl hl' hr
theorem t_goto {tb : Tables} [Ours tb] {e : Env} {below : List Frame} {T target : State} {m : MethodId} {c : Code} {pc : Nat} {L : Array Slot} {S : List Value} {o : Int} (pc' : Nat) (h : At T m c below) (hx : tb.exec = Jvm.exec) (hd : decode c.code pc = .ok (.goto o, 3)) (ho : 0 ≤ (pc : Int) + o) (hp : ((pc : Int) + o).toNat = pc') (hr : Steps tb e below (T.setTop (mkF m pc' L (S))) target) : Steps tb e below (T.setTop (mkF m pc L (S))) target := by
  exact XS.goto h hx rfl rfl hd ho hp hr
theorem t_ifYes {tb : Tables} [Ours tb] {e : Env} {below : List Frame} {T target : State} {m : MethodId} {c : Code} {pc : Nat} {L : Array Slot} {S : List Value} {cd : ClassFile.Cond} {x : Int32} {o : Int} (pc' : Nat) (h : At T m c below) (hx : tb.exec = Jvm.exec) (hd : decode c.code pc = .ok (.ifCond cd o, 3)) (hc : ifCond.holds cd x = true) (ho : 0 ≤ (pc : Int) + o) (hp : ((pc : Int) + o).toNat = pc') (hr : Steps tb e below (T.setTop (mkF m pc' L (S))) target) : Steps tb e below (T.setTop (mkF m pc L (.int x :: S))) target := by
  exact XS.ifYes h hx rfl rfl hd rfl hc ho hp hr
theorem t_ifNo {tb : Tables} [Ours tb] {e : Env} {below : List Frame} {T target : State} {m : MethodId} {c : Code} {pc : Nat} {L : Array Slot} {S : List Value} {cd : ClassFile.Cond} {x : Int32} {o : Int} (pc' : Nat) (h : At T m c below) (hx : tb.exec = Jvm.exec) (hd : decode c.code pc = .ok (.ifCond cd o, 3)) (hc : ifCond.holds cd x = false) (hp : pc + 3 = pc') (hr : Steps tb e below (T.setTop (mkF m pc' L (S))) target) : Steps tb e below (T.setTop (mkF m pc L (.int x :: S))) target := by
  subst hp; exact XS.ifNo h hx rfl hd rfl hc hr
theorem t_icmpYes {tb : Tables} [Ours tb] {e : Env} {below : List Frame} {T target : State} {m : MethodId} {c : Code} {pc : Nat} {L : Array Slot} {S : List Value} {cd : ClassFile.Cond} {x y : Int32} {o : Int} (pc' : Nat) (h : At T m c below) (hx : tb.exec = Jvm.exec) (hd : decode c.code pc = .ok (.if_icmp cd o, 3)) (hc : if_icmp.holds cd x y = true) (ho : 0 ≤ (pc : Int) + o) (hp : ((pc : Int) + o).toNat = pc') (hr : Steps tb e below (T.setTop (mkF m pc' L (S))) target) : Steps tb e below (T.setTop (mkF m pc L (.int y :: .int x :: S))) target := by
  exact XS.icmpYes h hx rfl rfl hd rfl hc ho hp hr
theorem t_icmpNo {tb : Tables} [Ours tb] {e : Env} {below : List Frame} {T target : State} {m : MethodId} {c : Code} {pc : Nat} {L : Array Slot} {S : List Value} {cd : ClassFile.Cond} {x y : Int32} {o : Int} (pc' : Nat) (h : At T m c below) (hx : tb.exec = Jvm.exec) (hd : decode c.code pc = .ok (.if_icmp cd o, 3)) (hc : if_icmp.holds cd x y = false) (hp : pc + 3 = pc') (hr : Steps tb e below (T.setTop (mkF m pc' L (S))) target) : Steps tb e below (T.setTop (mkF m pc L (.int y :: .int x :: S))) target := by
  subst hp; exact XS.icmpNo h hx rfl hd rfl hc hr
theorem t_ifnonnullYes {tb : Tables} [Ours tb] {e : Env} {below : List Frame} {T target : State} {m : MethodId} {c : Code} {pc : Nat} {L : Array Slot} {S : List Value} {b : Addr} {o : Int} (pc' : Nat) (h : At T m c below) (hx : tb.exec = Jvm.exec) (hd : decode c.code pc = .ok (.ifnonnull o, 3)) (ho : 0 ≤ (pc : Int) + o) (hp : ((pc : Int) + o).toNat = pc') (hr : Steps tb e below (T.setTop (mkF m pc' L (S))) target) : Steps tb e below (T.setTop (mkF m pc L (.ref b :: S))) target := by
  exact XS.ifnonnullYes h hx rfl rfl hd rfl ho hp hr
theorem own_arlen {p : Program} {l : Launch} {e : Env} {R : Room} {s : State} {m : MethodId} {args : Array Value} {below : List Frame} {meth : Method} {c : Code} {T : State} {locs : List Loc} {cells slots : Nat} {Z : State} {h : Heap} {a : Addr} {k : ClassId} {z : Int32} {vs : List Value} {dv : Value} {pc pc' : Nat} {Ls : Array Slot} {S : List Value} {ty : FieldType} {target : State} (X : Stand p l e R s m args below meth c T locs cells slots) (hx : p.tables.exec = Jvm.exec) (hZ : Z.Warmed39 s.vm) (eT : T.heap = h) (F : Arv Z h a k ty z vs dv) (hd : decode c.code pc = .ok (.arraylength, 1)) (hp : pc + 1 = pc') (hr : Steps p.tables e below (T.setTop (mkF m pc' Ls (.int z :: S))) target) : Steps p.tables e below (T.setTop (mkF m pc Ls (.ref a :: S))) target := by
  obtain ⟨cl, A, -, q, n, -, -⟩ := F
  subst hp
  refine X.arraylength hx (by rw [eT]; exact A.1) (State.isArrayOf_alike hZ.alike A.2.1) (g := mkF m pc Ls (.ref a :: S)) rfl rfl hd _ ?_
  rw [len_of q n]; exact hr
theorem own_aldC {p : Program} {l : Launch} {e : Env} {R : Room} {s : State} {m : MethodId} {args : Array Value} {below : List Frame} {meth : Method} {c : Code} {T : State} {locs : List Loc} {cells slots : Nat} {Z : State} {h : Heap} {a : Addr} {k : ClassId} {z j : Int32} {vs : List Value} {v dv : Value} {pc pc' : Nat} {Ls : Array Slot} {S : List Value} {target : State} (X : Stand p l e R s m args below meth c T locs cells slots) (hx : p.tables.exec = Jvm.exec) (hZ : Z.Warmed39 s.vm) (eT : T.heap = h) (F : Arv Z h a k .char z vs dv) (hj : ¬ j < 0 ∧ j < z) (hv : vs.getD j.toNatClampNeg dv = v) (hd : decode c.code pc = .ok (.caload, 1)) (hp : pc + 1 = pc') (hr : Steps p.tables e below (T.setTop (mkF m pc' Ls (v :: S))) target) : Steps p.tables e below (T.setTop (mkF m pc Ls (.int j :: .ref a :: S))) target := by
  obtain ⟨cl, A, -, q, n, H, -⟩ := F
  subst hp
  have hin := inb_of q hj
  exact X.caload hx (by rw [eT]; exact A.1) (State.isArrayOf_alike hZ.alike A.2.1) A.2.2 hin (H.at hin hv) (g := mkF m pc Ls (.int j :: .ref a :: S)) rfl rfl hd _ hr
theorem own_aldB {p : Program} {l : Launch} {e : Env} {R : Room} {s : State} {m : MethodId} {args : Array Value} {below : List Frame} {meth : Method} {c : Code} {T : State} {locs : List Loc} {cells slots : Nat} {Z : State} {h : Heap} {a : Addr} {k : ClassId} {z j : Int32} {vs : List Value} {v dv : Value} {pc pc' : Nat} {Ls : Array Slot} {S : List Value} {target : State} (X : Stand p l e R s m args below meth c T locs cells slots) (hx : p.tables.exec = Jvm.exec) (hZ : Z.Warmed39 s.vm) (eT : T.heap = h) (F : Arv Z h a k .byte z vs dv) (hj : ¬ j < 0 ∧ j < z) (hv : vs.getD j.toNatClampNeg dv = v) (hd : decode c.code pc = .ok (.baload, 1)) (hp : pc + 1 = pc') (hr : Steps p.tables e below (T.setTop (mkF m pc' Ls (v :: S))) target) : Steps p.tables e below (T.setTop (mkF m pc Ls (.int j :: .ref a :: S))) target := by
  obtain ⟨cl, A, -, q, n, H, -⟩ := F
  subst hp
  have hin := inb_of q hj
  exact X.baloadBytes hx (by rw [eT]; exact A.1) (State.isArrayOf_alike hZ.alike A.2.1) A.2.2 hin (H.at hin hv) (g := mkF m pc Ls (.int j :: .ref a :: S)) rfl rfl hd _ hr
theorem own_astC {p : Program} {l : Launch} {e : Env} {R : Room} {s : State} {m : MethodId} {args : Array Value} {below : List Frame} {meth : Method} {c : Code} {T : State} {locs : List Loc} {cells slots : Nat} {Z : State} {h : Heap} {a : Addr} {k : ClassId} {z j : Int32} {vs : List Value} {dv : Value} {S : List Value} {x : Int32} (X : Stand p l e R s m args below meth c T locs cells slots) (hx : p.tables.exec = Jvm.exec) (hZ : Z.Warmed39 s.vm) (eT : T.heap = h) (F : Arv Z h a k .char z vs dv) (hj : ¬ j < 0 ∧ j < z) (i : Nat) (hi : j.toNatClampNeg = i) (hi2 : i < vs.length) {g : JFrame} (hg : g.method = m) (hs : g.stack = .int x :: .int j :: .ref a :: S) (hd : decode c.code g.pc = .ok (.castore, 1)) :
    ∃ T' h', Stand p l e R s m args below meth c T' (locs ++ [⟨a, j.toNatClampNeg⟩]) cells slots ∧ T'.heap = h' ∧ Wr h h' a j.toNatClampNeg (.int (nar .char x)) ∧ Arv Z h' a k .char z (vs.set i (.int (nar .char x))) dv ∧ ∀ target, Steps p.tables e below (T'.setTop { g with pc := g.pc + 1, stack := S }) target → Steps p.tables e below (T.setTop g) target := by
  obtain ⟨cl, A, q1, q, n, H, G⟩ := F
  obtain ⟨T', h', X', e', W, st⟩ := stC X hx hZ eT A (inb_of q hj) hg hs hd
  exact ⟨T', h', X', e', W, Arv.set A q1 q n H G (fits_nar_char x) W i hi hi2, st⟩
theorem own_astB {p : Program} {l : Launch} {e : Env} {R : Room} {s : State} {m : MethodId} {args : Array Value} {below : List Frame} {meth : Method} {c : Code} {T : State} {locs : List Loc} {cells slots : Nat} {Z : State} {h : Heap} {a : Addr} {k : ClassId} {z j : Int32} {vs : List Value} {dv : Value} {S : List Value} {x : Int32} (X : Stand p l e R s m args below meth c T locs cells slots) (hx : p.tables.exec = Jvm.exec) (hZ : Z.Warmed39 s.vm) (eT : T.heap = h) (F : Arv Z h a k .byte z vs dv) (hj : ¬ j < 0 ∧ j < z) (i : Nat) (hi : j.toNatClampNeg = i) (hi2 : i < vs.length) {g : JFrame} (hg : g.method = m) (hs : g.stack = .int x :: .int j :: .ref a :: S) (hd : decode c.code g.pc = .ok (.bastore, 1)) :
    ∃ T' h', Stand p l e R s m args below meth c T' (locs ++ [⟨a, j.toNatClampNeg⟩]) cells slots ∧ T'.heap = h' ∧ Wr h h' a j.toNatClampNeg (.int (nar .byte x)) ∧ Arv Z h' a k .byte z (vs.set i (.int (nar .byte x))) dv ∧ ∀ target, Steps p.tables e below (T'.setTop { g with pc := g.pc + 1, stack := S }) target → Steps p.tables e below (T.setTop g) target := by
  obtain ⟨cl, A, q1, q, n, H, G⟩ := F
  obtain ⟨T', h', X', e', W, st⟩ := stB X hx hZ eT A (inb_of q hj) hg hs hd
  exact ⟨T', h', X', e', W, Arv.set A q1 q n H G (fits_nar_byte x) W i hi hi2, st⟩
abbrev HW (Z : State) (a0 : Array Value) : Prop := ∀ d ∈ tables_1, d.before a0 Z = true
theorem ow {Z : State} {a0 : Array Value} {d : Jvm.Cond} (i : Nat) (hw : HW Z a0) (q : tables_1[i]? = some d) : d.before a0 Z = true := hw d (List.mem_of_getElem? q)
abbrev z0 : Value := .int 0
abbrev SCS (Z : State) (z : Int32) : Prop := Sta Z Z.heap "java/lang/String" "COMPACT_STRINGS" "Z" (.int z)
variable {Z : State} {a0 : Array Value}
abbrev vr (a : Addr) : Slot := .val (.ref a)
abbrev vi (z : Int32) : Slot := .val (.int z)
def own_u2 (x : Int32) : Int32 := (x.toUInt32 >>> ((2 : Int32) &&& 31).toUInt32).toInt32
def own_u10 (x : Int32) : Int32 := (x.toUInt32 >>> ((10 : Int32) &&& 31).toUInt32).toInt32
def own_u28 (x : Int32) : Int32 := (x.toUInt32 >>> ((28 : Int32) &&& 31).toUInt32).toInt32
theorem own_m255a (x : Int32) : ¬ ((x &&& (255 : Int32)) < (0 : Int32)) := by
  have h := c_mask x 255 8 (by decide) (by decide)
  rw [Int32.lt_iff_toInt_lt, h]; show ¬ _ < (0 : Int); omega
theorem own_m255b (x : Int32) : ¬ ((255 : Int32) < (x &&& (255 : Int32))) := by
  have h := c_mask x 255 8 (by decide) (by decide)
  rw [Int32.lt_iff_toInt_lt, h]; show ¬ (255 : Int) < _; omega
theorem own_narb (x : Int32) : nar .byte (x.toInt8.toInt32) = x.toInt8.toInt32 := by
  show (x.toInt8.toInt32).toInt8.toInt32 = _
  simp
theorem own_c2c {x : Int32} (h1 : ¬ (x < (0 : Int32))) (h2 : ¬ ((255 : Int32) < x)) : x.toUInt32.toUInt16.toUInt32.toInt32 = x := by
  have h := c_i2c x
  rw [Int32.lt_iff_toInt_lt] at h1 h2
  have e1 : (0 : Int32).toInt = 0 := rfl
  have e2 : (255 : Int32).toInt = 255 := rfl
  apply Int32.toInt_inj.mp; omega
theorem own_b2c {x : Int32} (h1 : ¬ (x < (0 : Int32))) (h2 : ¬ ((255 : Int32) < x)) : (x.toInt8.toInt32 &&& (255 : Int32)) = x := by
  have h := c_mask (x.toInt8.toInt32) 255 8 (by decide) (by decide)
  have q := c_i2b x
  rw [Int32.lt_iff_toInt_lt] at h1 h2
  have e1 : (0 : Int32).toInt = 0 := rfl
  have e2 : (255 : Int32).toInt = 255 := rfl
  apply Int32.toInt_inj.mp; rw [h]; omega
theorem own_kcp {Z : State} {h h' : Heap} {b : Addr} {k : ClassId} {ty : FieldType} {z : Int32} {vs : List Value} {dv : Value} {n : Nat} {ws : List (Addr × Nat)} (K : Keep h h' [b]) (B : Arv Z h b k ty z vs dv) (hn : (List.range z.toNatClampNeg).map (fun i => (b, i)) = ws) (hw : ∃ l, ws = (b, 0) :: l) : KL h h' ws := by
  obtain ⟨c0, A, -, S, -⟩ := B
  refine ⟨K.1, fun x c q => ?_⟩
  by_cases e : x = b
  · subst e
    obtain ⟨c', r1, r2, r3, r4⟩ := K.2.2 x c q
    refine ⟨c', r1, r2, r3, r4, fun i hi => ?_, fun hn' => ?_⟩
    · have hsz : c.slots.size = z.toNatClampNeg := by cases q.symm.trans A.1; exact S
      have : ¬ i < z.toNatClampNeg := fun hlt => hi (hn ▸ List.mem_map.mpr ⟨i, List.mem_range.mpr hlt, rfl⟩)
      rw [Array.getElem?_eq_none (by omega), Array.getElem?_eq_none (by omega)]
    · obtain ⟨l, hl⟩ := hw
      exact absurd rfl (hn' (x, 0) (hl ▸ List.mem_cons_self))
  · exact ⟨c, K.2.1 x c q (by simpa using e), rfl, rfl, rfl, fun _ _ => rfl, fun _ => rfl⟩
theorem own_and3 (x : Int32) : x &&& 3 = 0 ∨ x &&& 3 = 1 ∨ x &&& 3 = 2 ∨ x &&& 3 = 3 := by
  have h := c_mask x 3 2 (by decide) (by decide)
  have h2 : (x &&& 3).toInt = (0 : Int32).toInt ∨ (x &&& 3).toInt = (1 : Int32).toInt ∨ (x &&& 3).toInt = (2 : Int32).toInt ∨ (x &&& 3).toInt = (3 : Int32).toInt := by
    show (x &&& 3).toInt = 0 ∨ (x &&& 3).toInt = 1 ∨ (x &&& 3).toInt = 2 ∨ (x &&& 3).toInt = 3
    omega
  rcases h2 with q | q | q | q
  · exact Or.inl (Int32.toInt_inj.mp q)
  · exact Or.inr (Or.inl (Int32.toInt_inj.mp q))
  · exact Or.inr (Or.inr (Or.inl (Int32.toInt_inj.mp q)))
  · exact Or.inr (Or.inr (Or.inr (Int32.toInt_inj.mp q)))
def own_ln (x : Int32) : Int32 := (x &&& (3 : Int32)) - ((x &&& (3 : Int32)) / (3 : Int32)) * (3 : Int32)
theorem own_ln3 (x : Int32) : own_ln x = 0 ∨ own_ln x = 1 ∨ own_ln x = 2 := by
  unfold own_ln
  generalize hy : x &&& (3 : Int32) = y
  have h0 : 0 ≤ y.toInt := by rw [← hy]; exact (c_and x 3 (by decide)).1
  have hd := (c_idiv y 3 3 (by decide) (by decide)).1 h0
  have h1 := c_isub y (y / 3 * 3)
  have h2 := c_imul (y / 3) 3
  have r := rng32 y
  have r2 := rng32 (y / 3 * 3)
  have r3 := rng32 (y - y / 3 * 3)
  have e4 : (3 : Int32).toInt = 3 := rfl
  rw [e4] at h2
  have h3 : (y - y / 3 * 3).toInt = 0 ∨ (y - y / 3 * 3).toInt = 1 ∨ (y - y / 3 * 3).toInt = 2 := by omega
  rcases h3 with q | q | q
  · exact Or.inl (Int32.toInt_inj.mp q)
  · exact Or.inr (Or.inl (Int32.toInt_inj.mp q))
  · exact Or.inr (Or.inr (Int32.toInt_inj.mp q))
def own_vs (x : Int32) : List Value := if own_ln x = 0 then [] else if own_ln x = 1 then [.int (((own_u2 x) &&& (255 : Int32)).toInt8.toInt32)] else [.int (((own_u2 x) &&& (255 : Int32)).toInt8.toInt32), .int (((own_u10 x) &&& (255 : Int32)).toInt8.toInt32)]
theorem own_vs0 {x : Int32} (h : own_ln x = (0 : Int32)) : own_vs x = [] := by unfold own_vs; rw [if_pos h]
theorem own_vs1 {x : Int32} (h : own_ln x = (1 : Int32)) : own_vs x = [.int (((own_u2 x) &&& (255 : Int32)).toInt8.toInt32)] := by unfold own_vs; rw [h, if_neg (by decide), if_pos rfl]
theorem own_vs2 {x : Int32} (h : own_ln x = (2 : Int32)) : own_vs x = [.int (((own_u2 x) &&& (255 : Int32)).toInt8.toInt32), .int (((own_u10 x) &&& (255 : Int32)).toInt8.toInt32)] := by unfold own_vs; rw [h, if_neg (by decide), if_neg (by decide)]
def own_same (e f : Int32) : Int32 := if own_ln e = own_ln f then (if own_ln e < (1 : Int32) then 1 else if ((own_u2 e) &&& (255 : Int32)) = ((own_u2 f) &&& (255 : Int32)) then (if own_ln e < (2 : Int32) then 1 else if ((own_u10 e) &&& (255 : Int32)) = ((own_u10 f) &&& (255 : Int32)) then 1 else 0) else 0) else 0
theorem own_lt12 {x : Int32} (h : x < (1 : Int32)) : x < (2 : Int32) := by
  rw [Int32.lt_iff_toInt_lt] at *; have : (1 : Int32).toInt = 1 := rfl; have : (2 : Int32).toInt = 2 := rfl; omega
section Sm
variable {p0 p1 : Int32}
theorem own_sm_ttt (hp0 : own_ln p0 = own_ln p1) (hp1 : own_ln p0 < (1 : Int32)) (hp2 : own_ln p0 < (2 : Int32)) : some (Value.int 1) = some (.int (own_same p0 p1)) := by unfold own_same; rw [if_pos hp0, if_pos hp1]
theorem own_sm_tftt (hp0 : own_ln p0 = own_ln p1) (hp1 : ¬ (own_ln p0 < (1 : Int32))) (hp2 : ((own_u2 p0) &&& (255 : Int32)) = ((own_u2 p1) &&& (255 : Int32))) (hp3 : own_ln p0 < (2 : Int32)) : some (Value.int 1) = some (.int (own_same p0 p1)) := by unfold own_same; rw [if_pos hp0, if_neg hp1, if_pos hp2, if_pos hp3]
theorem own_sm_tftft (hp0 : own_ln p0 = own_ln p1) (hp1 : ¬ (own_ln p0 < (1 : Int32))) (hp2 : ((own_u2 p0) &&& (255 : Int32)) = ((own_u2 p1) &&& (255 : Int32))) (hp3 : ¬ (own_ln p0 < (2 : Int32))) (hp4 : ((own_u10 p0) &&& (255 : Int32)) = ((own_u10 p1) &&& (255 : Int32))) : some (Value.int 1) = some (.int (own_same p0 p1)) := by unfold own_same; rw [if_pos hp0, if_neg hp1, if_pos hp2, if_neg hp3, if_pos hp4]
theorem own_sm_tftff (hp0 : own_ln p0 = own_ln p1) (hp1 : ¬ (own_ln p0 < (1 : Int32))) (hp2 : ((own_u2 p0) &&& (255 : Int32)) = ((own_u2 p1) &&& (255 : Int32))) (hp3 : ¬ (own_ln p0 < (2 : Int32))) (hp4 : ¬ (((own_u10 p0) &&& (255 : Int32)) = ((own_u10 p1) &&& (255 : Int32)))) : some (Value.int 0) = some (.int (own_same p0 p1)) := by unfold own_same; rw [if_pos hp0, if_neg hp1, if_pos hp2, if_neg hp3, if_neg hp4]
theorem own_sm_tff (hp0 : own_ln p0 = own_ln p1) (hp1 : ¬ (own_ln p0 < (1 : Int32))) (hp2 : ¬ (((own_u2 p0) &&& (255 : Int32)) = ((own_u2 p1) &&& (255 : Int32)))) : some (Value.int 0) = some (.int (own_same p0 p1)) := by unfold own_same; rw [if_pos hp0, if_neg hp1, if_neg hp2]
theorem own_sm_f (hp0 : ¬ (own_ln p0 = own_ln p1)) : some (Value.int 0) = some (.int (own_same p0 p1)) := by unfold own_same; rw [if_neg hp0]
end Sm
theorem own_binj {x y : Int32} (h : ((x &&& (255 : Int32)).toInt8.toInt32) = ((y &&& (255 : Int32)).toInt8.toInt32)) : (x &&& (255 : Int32)) = (y &&& (255 : Int32)) := by
  rw [← own_b2c (own_m255a x) (own_m255b x), ← own_b2c (own_m255a y) (own_m255b y), h]
section Sq
variable {e f : Int32}
theorem own_sne (h : ¬ (own_ln e = own_ln f)) : own_same e f = 0 := by unfold own_same; rw [if_neg h]
theorem own_s0 (he : own_ln e = (0 : Int32)) (hf : own_ln f = (0 : Int32)) : own_same e f = 1 := by unfold own_same; rw [if_pos (he.trans hf.symm), if_pos (by rw [he]; decide)]
theorem own_s1e (he : own_ln e = (1 : Int32)) (hf : own_ln f = (1 : Int32)) (hb0 : (((own_u2 e) &&& (255 : Int32)).toInt8.toInt32) = (((own_u2 f) &&& (255 : Int32)).toInt8.toInt32)) : own_same e f = 1 := by unfold own_same; rw [if_pos (he.trans hf.symm), if_neg (by rw [he]; decide), if_pos (own_binj hb0), if_pos (by rw [he]; decide)]
theorem own_s1n (he : own_ln e = (1 : Int32)) (hf : own_ln f = (1 : Int32)) (hb0 : ¬ ((((own_u2 e) &&& (255 : Int32)).toInt8.toInt32) = (((own_u2 f) &&& (255 : Int32)).toInt8.toInt32))) : own_same e f = 0 := by unfold own_same; rw [if_pos (he.trans hf.symm), if_neg (by rw [he]; decide), if_neg (fun q => hb0 (by rw [q]))]
theorem own_s2ee (he : own_ln e = (2 : Int32)) (hf : own_ln f = (2 : Int32)) (hb0 : (((own_u2 e) &&& (255 : Int32)).toInt8.toInt32) = (((own_u2 f) &&& (255 : Int32)).toInt8.toInt32)) (hb1 : (((own_u10 e) &&& (255 : Int32)).toInt8.toInt32) = (((own_u10 f) &&& (255 : Int32)).toInt8.toInt32)) : own_same e f = 1 := by unfold own_same; rw [if_pos (he.trans hf.symm), if_neg (by rw [he]; decide), if_pos (own_binj hb0), if_neg (by rw [he]; decide), if_pos (own_binj hb1)]
theorem own_s2en (he : own_ln e = (2 : Int32)) (hf : own_ln f = (2 : Int32)) (hb0 : (((own_u2 e) &&& (255 : Int32)).toInt8.toInt32) = (((own_u2 f) &&& (255 : Int32)).toInt8.toInt32)) (hb1 : ¬ ((((own_u10 e) &&& (255 : Int32)).toInt8.toInt32) = (((own_u10 f) &&& (255 : Int32)).toInt8.toInt32))) : own_same e f = 0 := by unfold own_same; rw [if_pos (he.trans hf.symm), if_neg (by rw [he]; decide), if_pos (own_binj hb0), if_neg (by rw [he]; decide), if_neg (fun q => hb1 (by rw [q]))]
theorem own_s2n (he : own_ln e = (2 : Int32)) (hf : own_ln f = (2 : Int32)) (hb0 : ¬ ((((own_u2 e) &&& (255 : Int32)).toInt8.toInt32) = (((own_u2 f) &&& (255 : Int32)).toInt8.toInt32))) : own_same e f = 0 := by unfold own_same; rw [if_pos (he.trans hf.symm), if_neg (by rw [he]; decide), if_neg (fun q => hb0 (by rw [q]))]
end Sq
theorem own_comm (e f : Int32) : own_same e f = own_same f e := by
  unfold own_same
  by_cases h : own_ln e = own_ln f
  · rw [if_pos h, if_pos h.symm, h]
    by_cases h1 : own_ln f < (1 : Int32)
    · rw [if_pos h1, if_pos h1]
    · rw [if_neg h1, if_neg h1]
      by_cases h2 : ((own_u2 e) &&& (255 : Int32)) = ((own_u2 f) &&& (255 : Int32))
      · rw [if_pos h2, if_pos h2.symm]
        by_cases h3 : own_ln f < (2 : Int32)
        · rw [if_pos h3, if_pos h3]
        · rw [if_neg h3, if_neg h3]
          by_cases h4 : ((own_u10 e) &&& (255 : Int32)) = ((own_u10 f) &&& (255 : Int32))
          · rw [if_pos h4, if_pos h4.symm]
          · rw [if_neg h4, if_neg (fun q => h4 q.symm)]
      · rw [if_neg h2, if_neg (fun q => h2 q.symm)]
  · rw [if_neg h, if_neg (fun q => h q.symm)]
theorem own_cme {e f : Int32} (h : own_same e f = (0 : Int32)) : own_same f e = (0 : Int32) := by rw [own_comm]; exact h
theorem own_cmn {e f : Int32} (h : ¬ (own_same e f = (0 : Int32))) : ¬ (own_same f e = (0 : Int32)) := by rw [own_comm]; exact h
theorem own_impP {l : Launch} {Z : State} {y : MethodName} {b : ByteArray} {ml : Nat} {r : Option FieldType} {ws : List Jvm.Cond} {rm : Room} {as' : Array Value} {h0 : Heap} {Q Q' : Option Value → Heap → List Loc → Prop} (hM : MF l Z y b ml r ws rm as' h0 Q) (hq : ∀ v h L, Q v h L → Q' v h L) : MF l Z y b ml r ws rm as' h0 Q' :=
  MetFree.mono hM (fun _ _ h => h) (fun _ _ _ _ _ h => h) (fun _ _ _ _ _ ⟨v, L, e, q, r⟩ => ⟨v, L, e, hq _ _ _ q, r⟩)
theorem own_impH {l : Launch} {Z : State} {EL : List (String × Nat)} {SF : List Addr} {y : MethodName} {b : ByteArray} {ml : Nat} {r : Option FieldType} {ws : List Jvm.Cond} {rm : Room} {as' : Array Value} {h0 : Heap} {Q Q' : Option Value → Heap → List Loc → Prop} (hM : OMH l Z EL SF y b ml r ws rm as' h0 Q) (hq : ∀ v h L, Q v h L → Q' v h L) : OMH l Z EL SF y b ml r ws rm as' h0 Q' :=
  MetFree.mono hM (fun _ _ h => h) (fun _ _ _ _ _ h => h) (fun _ _ _ _ _ ⟨v, L, e, q, r⟩ => ⟨v, L, e, hq _ _ _ q, r⟩)
abbrev b0_ := method_6_code
theorem d0 : decode b0_ 0 = .ok (.iload_n 0, 1) := by decide +kernel
theorem d1 : decode b0_ 1 = .ok (.invokestatic 26, 3) := by decide +kernel
def w4 (hw : HW Z a0) := ow 4 hw rfl
abbrev b1_ := method_3_code
theorem d2 : decode b1_ 0 = .ok (.iload_n 0, 1) := by decide +kernel
theorem d3 : decode b1_ 1 = .ok (.iconst 3, 1) := by decide +kernel
theorem d4 : decode b1_ 2 = .ok (.iand, 1) := by decide +kernel
theorem d5 : decode b1_ 3 = .ok (.iconst 3, 1) := by decide +kernel
theorem d6 : decode b1_ 4 = .ok (.irem, 1) := by decide +kernel
theorem d7 : decode b1_ 5 = .ok (.ireturn, 1) := by decide +kernel
theorem pn_JudgmentEqualsPinLaw295 : plainName "com/example/unearth/unearth/eval/JudgmentEqualsPinLaw" = true := by first | (simp [plainName, overriddenIn]; done) | decide +kernel
abbrev y0_len : MethodName := ⟨"com/example/unearth/unearth/eval/JudgmentEqualsPinLaw", "len", "(I)I"⟩
def Q_r1_len (Z : State) (i_1 : Int32) (h0 : Heap) (n0 : Nat) (v : Option Value) (h : Heap) (L : List Loc) : Prop := v = some (.int (own_ln i_1)) ∧ Fr n0 L ∧ h = h0
theorem ef_r1_len (i_1 : Int32) (m : MethodId) : entryFrame m #[(.int i_1)] 1 = mkF m 0 #[.val (.int i_1)] [] := by first | (simp [entryFrame, mkF, argsToLocals, Value.category]; done) | rfl
set_option maxRecDepth 65536 in
set_option maxHeartbeats 40000000 in
theorem r1_len (l : Launch) (Z : State) (a0 : Array Value) (hw : HW Z a0) (ws : List Jvm.Cond) (i_1 : Int32) (h0 : Heap) (n0 : Nat) (Z0 : n0 ≤ h0.size) :
    MF l Z y0_len b1_ 1 (some .int) ws ⟨0, 0, 0, 0⟩ #[(.int i_1)] h0 (Q_r1_len Z i_1 h0 n0) := by
  refine own_body (plainFor_of_name pn_JudgmentEqualsPinLaw295) (ef_r1_len i_1) (by decide) (by decide) ?_
  intro p e s m below meth c s₁ hx hby hml hown hnm hret hZ hh e0 X0
  have N0 := Fr.nil n0
  refine ⟨s₁, _, some (.int (own_ln i_1)), X0, (fun h => by cases h <;> rfl), ?_, fun fs hr => ?_⟩
  · show Q_r1_len Z i_1 h0 n0 _ s₁.heap _
    rw [e0]
    exact ⟨rfl, N0, rfl⟩
  · refine t_iloadN 1 X0.here hx (hb hby d2) rfl rfl ?_
    refine t_iconst 2 (r := 3) X0.here hx (hb hby d3) (by decide) rfl ?_
    refine t_iand 3 X0.here hx (hb hby d4) rfl rfl ?_
    refine t_iconst 4 (r := 3) X0.here hx (hb hby d5) (by decide) rfl ?_
    refine t_irem 5 (r := (own_ln i_1)) X0.here hx (hb hby d6) (by decide) (Eq.refl (own_ln i_1)) rfl ?_
    exact retI X0 hx hret (hb hby d7) hr
def w6 (hw : HW Z a0) := ow 6 hw rfl
def w2 (hw : HW Z a0) := ow 2 hw rfl
theorem pd_0 : parseMethodDescriptor "(I)I" = some ⟨[.int], some .int⟩ := by decide +kernel
def w5 (hw : HW Z a0) := ow 5 hw rfl
theorem d8 : decode b0_ 4 = .ok (.istore_n 1, 1) := by decide +kernel
theorem d9 : decode b0_ 5 = .ok (.iload_n 1, 1) := by decide +kernel
theorem d10 : decode b0_ 6 = .ok (.ifCond .ne 14, 3) := by decide +kernel
theorem d11 : decode b0_ 9 = .ok (.new 30, 3) := by decide +kernel
def w7 (hw : HW Z a0) := ow 7 hw rfl
def w8 (hw : HW Z a0) := ow 8 hw rfl
def w9 (hw : HW Z a0) := ow 9 hw rfl
def w23 (hw : HW Z a0) := ow 23 hw rfl
abbrev Fd0 (Z : State) (h : Heap) (a : Addr) (v : Value) : Prop := Fld Z h a "java/lang/String" "value" "[B" v
abbrev sl0 (Z : State) : Nat := Jvm.RoadKit.slotOf Z "java/lang/String" "value" "[B"
def w24 (hw : HW Z a0) := ow 24 hw rfl
abbrev Fd1 (Z : State) (h : Heap) (a : Addr) (v : Value) : Prop := Fld Z h a "java/lang/String" "coder" "B" v
abbrev sl1 (Z : State) : Nat := Jvm.RoadKit.slotOf Z "java/lang/String" "coder" "B"
theorem d12 : decode b0_ 12 = .ok (.dup, 1) := by decide +kernel
theorem d13 : decode b0_ 13 = .ok (.iconst 0, 1) := by decide +kernel
theorem d14 : decode b0_ 14 = .ok (.newarray .char, 2) := by decide +kernel
def w10 (hw : HW Z a0) := ow 10 hw rfl
theorem d15 : decode b0_ 16 = .ok (.invokespecial 32, 3) := by decide +kernel
def w11 (hw : HW Z a0) := ow 11 hw rfl
abbrev b2_ := jdk_42_method_3_code
theorem d16 : decode b2_ 0 = .ok (.aload_n 0, 1) := by decide +kernel
theorem d17 : decode b2_ 1 = .ok (.aload_n 1, 1) := by decide +kernel
theorem d18 : decode b2_ 2 = .ok (.iconst 0, 1) := by decide +kernel
theorem d19 : decode b2_ 3 = .ok (.aload_n 1, 1) := by decide +kernel
theorem d20 : decode b2_ 4 = .ok (.arraylength, 1) := by decide +kernel
theorem d21 : decode b2_ 5 = .ok (.aconst_null, 1) := by decide +kernel
theorem d22 : decode b2_ 6 = .ok (.invokespecial 27, 3) := by decide +kernel
def w14 (hw : HW Z a0) := ow 14 hw rfl
abbrev b3_ := jdk_42_method_149_code
theorem d23 : decode b3_ 0 = .ok (.aload_n 0, 1) := by decide +kernel
theorem d24 : decode b3_ 1 = .ok (.invokespecial 1, 3) := by decide +kernel
def w18 (hw : HW Z a0) := ow 18 hw rfl
def w19 (hw : HW Z a0) := ow 19 hw rfl
def w20 (hw : HW Z a0) := ow 20 hw rfl
theorem d25 : decode b3_ 4 = .ok (.iload_n 3, 1) := by decide +kernel
theorem d26 : decode b3_ 5 = .ok (.ifCond .ne 22, 3) := by decide +kernel
theorem d27 : decode b3_ 8 = .ok (.aload_n 0, 1) := by decide +kernel
theorem d28 : decode b3_ 9 = .ok (.ldc 7, 2) := by decide +kernel
def w21 (hw : HW Z a0) := ow 21 hw rfl
def w75 (hw : HW Z a0) := ow 75 hw rfl
def w67 (hw : HW Z a0) := ow 67 hw rfl
theorem own_EW {Z : State} {a0 : Array Value} (hw : HW Z a0) : EW Z a0 consts_1 := (EW.cons (w67 hw) (by decide) (EW.cons (w75 hw) (by decide) (EW.cons (w21 hw) (by decide) (fun p hp => nomatch hp))))
def w22 (hw : HW Z a0) := ow 22 hw rfl
def w25 (hw : HW Z a0) := ow 25 hw rfl
def w26 (hw : HW Z a0) := ow 26 hw rfl
theorem own_wS {Z : State} {a0 : Array Value} (hw : HW Z a0) : ∀ a ∈ Bundle.stringAtoms, a.before a0 Z = true := fun a ha => by
  simp only [Bundle.stringAtoms, List.mem_cons, List.not_mem_nil, or_false] at ha
  rcases ha with rfl | rfl | rfl | rfl | rfl | rfl | rfl
  all_goals first | exact (w8 hw) | exact (w9 hw) | exact (w22 hw) | exact (w23 hw) | exact (w24 hw) | exact (w25 hw) | exact (w26 hw)
theorem d29 : decode b3_ 11 = .ok (.getfield 9, 3) := by decide +kernel
def w27 (hw : HW Z a0) := ow 27 hw rfl
theorem d30 : decode b3_ 14 = .ok (.putfield 9, 3) := by decide +kernel
abbrev Ex0 (Z : State) (h : Heap) (a : Addr) : Prop := Exa Z h a "java/lang/String"
theorem d31 : decode b3_ 17 = .ok (.aload_n 0, 1) := by decide +kernel
theorem d32 : decode b3_ 18 = .ok (.ldc 7, 2) := by decide +kernel
theorem d33 : decode b3_ 20 = .ok (.getfield 15, 3) := by decide +kernel
def w28 (hw : HW Z a0) := ow 28 hw rfl
theorem d34 : decode b3_ 23 = .ok (.putfield 15, 3) := by decide +kernel
theorem sn_0 {Z : State} {a0 : Array Value} (hw : HW Z a0) : Jvm.RoadKit.slotOf Z "java/lang/String" "coder" "B" ≠ Jvm.RoadKit.slotOf Z "java/lang/String" "value" "[B" := slot_ne (C := "java/lang/String") (a0 := a0) (Or.inr (w24 hw)) (Or.inr (w23 hw)) (by decide) (t := .byte) (t' := (.array .byte)) (by decide) (by decide)
theorem d35 : decode b3_ 26 = .ok (.return_, 1) := by decide +kernel
theorem sn_1 {Z : State} {a0 : Array Value} (hw : HW Z a0) : Jvm.RoadKit.slotOf Z "java/lang/String" "value" "[B" ≠ Jvm.RoadKit.slotOf Z "java/lang/String" "coder" "B" := slot_ne (C := "java/lang/String") (a0 := a0) (Or.inr (w23 hw)) (Or.inr (w24 hw)) (by decide) (t := (.array .byte)) (t' := .byte) (by decide) (by decide)
theorem pn_String564 : plainName "java/lang/String" = true := by first | (simp [plainName, overriddenIn]; done) | decide +kernel
abbrev y1__init_ : MethodName := ⟨"java/lang/String", "<init>", "([CIILjava/lang/Void;)V"⟩
def WS_r3__init_ (Z : State) (o0 : Addr) : List (Addr × Nat) := [(o0, (sl0 Z)), (o0, (sl1 Z))]
def Q_r3__init_ (Z : State) (o0 o1 : Addr) (h0 : Heap) (n0 : Nat) (v : Option Value) (h : Heap) (L : List Loc) : Prop := ∃ b2 : Addr, ∃ kb2 : ClassId, v = none ∧ Fr n0 L ∧ KL h0 h (WS_r3__init_ Z o0) ∧ b2 < h.size ∧ Fd0 Z h o0 (.ref b2) ∧ Fd1 Z h o0 z0 ∧ Arv Z h b2 kb2 .byte 0 [] z0
theorem ef_r3__init_ (o0 o1 : Addr) (m : MethodId) : entryFrame m #[(.ref o0), (.ref o1), (.int 0), (.int 0), .null] 6 = mkF m 0 #[.val (.ref o0), .val (.ref o1), .val (.int 0), .val (.int 0), .val .null, .unset] [] := by first | (simp [entryFrame, mkF, argsToLocals, Value.category]; done) | rfl
set_option maxRecDepth 65536 in
set_option maxHeartbeats 40000000 in
theorem r3__init_ (l : Launch) (Z : State) (a0 : Array Value) (hw : HW Z a0) (ws : List Jvm.Cond) (o0 o1 : Addr) (h0 : Heap) (n0 : Nat) (Z0 : n0 ≤ h0.size) (F_o0_value : Fd0 Z h0 o0 .null) (E_o0 : Ex0 Z h0 o0) (g_o0 : n0 ≤ o0) (F_o0_coder : Fd1 Z h0 o0 z0) :
    OMH l Z consts_1 [o0] y1__init_ b3_ 6 none ws ⟨1, 4, 8, 12⟩ #[(.ref o0), (.ref o1), z0, z0, .null] h0 (Q_r3__init_ Z o0 o1 h0 n0) := by
  refine own_bodyH (k := 4) (n := 8) (own_EW hw) (plainFor_of_name pn_String564) (ef_r3__init_ o0 o1) (by decide) (by decide) ?_
  intro p e s m below meth c s₁ hx hby hml hown hnm hret hZ e0 hS0 hk0 X0 hC0 hSF0
  have N0 := Fr.nil n0
  obtain ⟨T1, X1, e1, st1⟩ := initO X0 hx hZ hown (w18 hw) (w19 hw) (w20 hw) e0 (g := (mkF m 1 #[vr o0, vr o1, vi 0, vi 0, .val .null, .unset] [(.ref o0)])) rfl (by rw [hml]; rfl) rfl (hb hby d24) (by decide) (W := 0) (by show 2 * 0 + _ ≤ _; exact Nat.le_of_eq rfl) (by decide)
  obtain ⟨c2, T2, h2, k2, b2, kb2, X2, e2, E2, hS2, hk2, hZ2, hown2, Ex2, Fc2, Fv2, Ar2, lta2, ltb2, hC2, Lt2, hne2, st2⟩ := ldcCH X1 hx hZ hown (w21 hw) (own_wS hw) e1 hS0 hk0 (own_EW hw) (by decide) (CHr.refl hC0).1 (vs := []) (z := 0) ⟨by decide, rfl⟩ (by decide) rfl (g := (mkF m 9 #[vr o0, vr o1, vi 0, vi 0, .val .null, .unset] [(.ref o0)])) rfl (hb hby d28) (n := 0) (by decide) (by decide) (by decide) (by decide)
  have K2 := KL.ofE E2
  have Ah1 := (CHr.refl hC0).trans hC2
  obtain ⟨T3, X3, e3, st3⟩ := getF X2 hx hZ2 hown2 (host := "") (Or.inl (w27 hw)) Via.refl e2 Fv2 (g := (mkF m 11 #[vr o0, vr o1, vi 0, vi 0, .val .null, .unset] [(.ref c2), (.ref o0)])) rfl rfl (hb hby d29)
  have f4 := (kFld K2 F_o0_value nw0)
  have f5 := (kExa K2 E_o0)
  obtain ⟨T6, h6, X6, e6, W6, st6⟩ := putF X3 hx hZ2 hown2 (host := "") (Or.inl (w27 hw)) Via.refl e3 f4 f5 (Or.inr ⟨(w23 hw), rfl, hnm⟩) (w8 hw) (ty := (.array .byte)) (by decide) rfl rfl (g := (mkF m 14 #[vr o0, vr o1, vi 0, vi 0, .val .null, .unset] [(.ref b2), (.ref o0)])) rfl rfl (hb hby d30)
  have K6 := KL.ofW W6
  have lt_o0 : o0 < h0.size := Fld.lt F_o0_value
  have Ck1 := own_chK K6 (naF (CHr.safe hC2 lt_o0 (hSF0 _ (List.mem_of_getElem? (i := 0) rfl))) na0) Ah1.1
  have Ah2 := Ah1.trans Ck1.1
  have Fw6 : Fd0 Z h6 o0 (.ref b2) := Fld.same W6 f4
  have N6 := Fr.snoc X6 N0 g_o0
  obtain ⟨c7, T7, h7, k7, b7, kb7, X7, e7, E7, hS7, hk7, hZ7, hown7, Ex7, Fc7, Fv7, Ar7, lta7, ltb7, hC7, Lt7, hne7, st7⟩ := ldcCH X6 hx hZ2 hown2 (w21 hw) (own_wS hw) e6 hS2 (Nat.le_trans hk2 K6.1) (own_EW hw) (by decide) Ah2.1 (vs := []) (z := 0) ⟨by decide, rfl⟩ (by decide) rfl (g := (mkF m 18 #[vr o0, vr o1, vi 0, vi 0, .val .null, .unset] [(.ref o0)])) rfl (hb hby d32) (n := 0) (by decide) (by decide) (by decide) (by decide)
  have K7 := KL.ofE E7
  have Ah3 := Ah2.trans hC7
  obtain ⟨T8, X8, e8, st8⟩ := getF X7 hx hZ7 hown7 (host := "") (Or.inl (w28 hw)) Via.refl e7 Fc7 (g := (mkF m 20 #[vr o0, vr o1, vi 0, vi 0, .val .null, .unset] [(.ref c7), (.ref o0)])) rfl rfl (hb hby d33)
  have f9 := (kFld K7 (kFld K6 (kFld K2 F_o0_coder nw0) (nwS (Or.inr (sn_0 hw)) nw0)) nw0)
  have f10 := (kExa K7 (kExa K6 f5))
  obtain ⟨T11, h11, X11, e11, W11, st11⟩ := putF X8 hx hZ7 hown7 (host := "") (Or.inl (w28 hw)) Via.refl e8 f9 f10 (Or.inr ⟨(w24 hw), rfl, hnm⟩) (w8 hw) (ty := .byte) (by decide) (by decide) (by decide) (g := (mkF m 23 #[vr o0, vr o1, vi 0, vi 0, .val .null, .unset] [z0, (.ref o0)])) rfl rfl (hb hby d34)
  have K11 := KL.ofW W11
  have sz_0_2 := (Nat.le_trans K2.1 K6.1)
  have Ck3 := own_chK K11 (naF (CHr.safe hC7 (Nat.lt_of_lt_of_le lt_o0 sz_0_2) (Ck1.2 _ (CHr.safe hC2 lt_o0 (hSF0 _ (List.mem_of_getElem? (i := 0) rfl))))) na0) Ah3.1
  have Ah4 := Ah3.trans Ck3.1
  have Fw11 : Fd1 Z h11 o0 z0 := Fld.same W11 f9
  have N11 := Fr.snoc X11 N6 g_o0
  -- what was kept, from the start on
  have C0 := (KL.refl h0 (WS_r3__init_ Z o0)).trans K2 na0
  have C1 := C0.trans K6 (naO (own_mi 0 rfl) na0)
  have C2 := C1.trans K7 na0
  have C3 := C2.trans K11 (naO (own_mi 1 rfl) na0)
  have sz_1_3 := (Nat.le_trans K6.1 K7.1)
  have sz_1_4 := (Nat.le_trans sz_1_3 K11.1)
  have f12 := (kFld K11 (kFld K7 Fw6 nw0) (nwS (Or.inr (sn_1 hw)) nw0))
  have f13 := (kArv K11 (kArv K7 (kArv K6 Ar2 (naN (hne2 _ (CHr.safe hC2 lt_o0 (hSF0 _ (List.mem_of_getElem? (i := 0) rfl)))).2 na0)) na0) (naN (hne2 _ (CHr.safe hC2 lt_o0 (hSF0 _ (List.mem_of_getElem? (i := 0) rfl)))).2 na0))
  refine ⟨T11, _, none, _, _, X11, hS7, (by rw [e11]; exact (Nat.le_trans hk7 K11.1)), (fun h => by cases h <;> rfl), ?_, (by rw [e11]; exact Ah4), hZ7, fun fs hr => ?_⟩
  · show Q_r3__init_ Z o0 o1 h0 n0 _ T11.heap _
    rw [e11]
    exact ⟨b2, kb2, rfl, N11, C3, (Nat.lt_of_lt_of_le ltb2 sz_1_4), f12, Fw11, f13⟩
  · refine t_aloadN 1 X0.here hx (hb hby d23) rfl rfl rfl ?_
    refine st1 _ ?_
    refine t_iloadN 5 X1.here hx (hb hby d25) rfl rfl ?_
    refine t_ifNo 8 X1.here hx (hb hby d26) (by decide) rfl ?_
    refine t_aloadN 9 X1.here hx (hb hby d27) rfl rfl rfl ?_
    refine st2 _ ?_
    refine st3 _ ?_
    refine st6 _ ?_
    refine t_aloadN 18 X6.here hx (hb hby d31) rfl rfl rfl ?_
    refine st7 _ ?_
    refine st8 _ ?_
    refine st11 _ ?_
    exact X11.returnOut hx hret (hb hby d35) hr
def w17 (hw : HW Z a0) := ow 17 hw rfl
theorem pd_1 : parseMethodDescriptor "([CIILjava/lang/Void;)V" = some ⟨[(.array .char), .int, .int, (.object "java/lang/Void")], none⟩ := by decide +kernel
def w15 (hw : HW Z a0) := ow 15 hw rfl
theorem d36 : decode b2_ 9 = .ok (.return_, 1) := by decide +kernel
abbrev y2__init_ : MethodName := ⟨"java/lang/String", "<init>", "([C)V"⟩
def WS_r2__init_ (Z : State) (o0 : Addr) : List (Addr × Nat) := [(o0, (sl0 Z)), (o0, (sl1 Z))]
def Q_r2__init_ (Z : State) (o0 o1 : Addr) (k_o1 : ClassId) (h0 : Heap) (n0 : Nat) (v : Option Value) (h : Heap) (L : List Loc) : Prop := ∃ b2_1 : Addr, ∃ kb2_1 : ClassId, v = none ∧ Fr n0 L ∧ KL h0 h (WS_r2__init_ Z o0) ∧ b2_1 < h.size ∧ Fd0 Z h o0 (.ref b2_1) ∧ Fd1 Z h o0 z0 ∧ Arv Z h b2_1 kb2_1 .byte 0 [] z0
theorem ef_r2__init_ (o0 o1 : Addr) (m : MethodId) : entryFrame m #[(.ref o0), (.ref o1)] 2 = mkF m 0 #[.val (.ref o0), .val (.ref o1)] [] := by first | (simp [entryFrame, mkF, argsToLocals, Value.category]; done) | rfl
set_option maxRecDepth 65536 in
set_option maxHeartbeats 40000000 in
theorem r2__init_ (l : Launch) (Z : State) (a0 : Array Value) (hw : HW Z a0) (ws : List Jvm.Cond) (o0 o1 : Addr) (k_o1 : ClassId) (h0 : Heap) (n0 : Nat) (Z0 : n0 ≤ h0.size) (V_o1 : Arv Z h0 o1 k_o1 .char 0 [] z0) (F_o0_value : Fd0 Z h0 o0 .null) (E_o0 : Ex0 Z h0 o0) (F_o0_coder : Fd1 Z h0 o0 z0) (g_o0 : n0 ≤ o0) :
    OMH l Z consts_1 [o0] y2__init_ b2_ 2 none ws ⟨2, 4, 8, 29⟩ #[(.ref o0), (.ref o1)] h0 (Q_r2__init_ Z o0 o1 k_o1 h0 n0) := by
  refine own_bodyH (k := 4) (n := 8) (own_EW hw) (plainFor_of_name pn_String564) (ef_r2__init_ o0 o1) (by decide) (by decide) ?_
  intro p e s m below meth c s₁ hx hby hml hown hnm hret hZ e0 hS0 hk0 X0 hC0 hSF0
  have N0 := Fr.nil n0
  have lt_o0 : o0 < h0.size := Fld.lt F_o0_value
  obtain ⟨_, T1, L1, X1, hS1, hk1, hZ1, hown1, hQ1, hC1, st1⟩ := own_Hinit X0 hx hZ rfl hown (w14 hw) (w15 hw) (w9 hw) (w17 hw) (by decide) (r3__init_ l Z a0 hw [] o0 o1 h0 n0 Z0 F_o0_value E_o0 g_o0 F_o0_coder) e0 (W := 0) (by decide) (g := (mkF m 6 #[vr o0, vr o1] [.null, z0, z0, (.ref o1), (.ref o0)])) rfl (by rw [hml]; rfl) (argsL := [(.ref o1), z0, z0, .null]) (rest := []) (lenOf pd_1 rfl) rfl rfl (own_wr rfl rfl) (hb hby d22) hS0 hk0 (own_EW hw) (CHr.refl hC0).1 (sfS (hSF0 _ (List.mem_of_getElem? (i := 0) rfl)) lt_o0 sf0)
  obtain ⟨b2_1, kb2_1, rfl, N1q, K1, Q1_0, Q1_1, Q1_2, Q1_3⟩ := hQ1
  have N1 := Fr.app N0 N1q
  have Ah1 := (CHr.refl hC0).trans hC1
  -- what was kept, from the start on
  have C0 := (KL.refl h0 (WS_r2__init_ Z o0)).trans K1 (naO (own_mi 0 rfl) (naO (own_mi 1 rfl) na0))
  refine ⟨T1, _, none, _, _, X1, hS1, (by rw [show T1.heap = T1.heap from rfl]; exact hk1), (fun h => by cases h <;> rfl), ?_, Ah1, hZ1, fun fs hr => ?_⟩
  · show Q_r2__init_ Z o0 o1 k_o1 h0 n0 _ T1.heap _
    exact ⟨b2_1, kb2_1, rfl, N1, C0, Q1_0, Q1_1, Q1_2, Q1_3⟩
  · refine t_aloadN 1 X0.here hx (hb hby d16) rfl rfl rfl ?_
    refine t_aloadN 2 X0.here hx (hb hby d17) rfl rfl rfl ?_
    refine t_iconst 3 (r := 0) X0.here hx (hb hby d18) (by decide) rfl ?_
    refine t_aloadN 4 X0.here hx (hb hby d19) rfl rfl rfl ?_
    refine own_arlen (pc' := 5) X0 hx hZ e0 V_o1 (hb hby d20) rfl ?_
    refine t_aconst_null 6 X0.here hx (hb hby d21) rfl ?_
    refine st1 _ ?_
    exact X1.returnOut hx hret (hb hby d36) hr
def w13 (hw : HW Z a0) := ow 13 hw rfl
theorem pd_2 : parseMethodDescriptor "([C)V" = some ⟨[(.array .char)], none⟩ := by decide +kernel
def w12 (hw : HW Z a0) := ow 12 hw rfl
theorem d37 : decode b0_ 19 = .ok (.areturn, 1) := by decide +kernel
abbrev y3_str : MethodName := ⟨"com/example/unearth/unearth/eval/JudgmentEqualsPinLaw", "str", "(I)Ljava/lang/String;"⟩
def Q_r_str0 (Z : State) (p0 : Int32) (h0 : Heap) (n0 : Nat) (v : Option Value) (h : Heap) (L : List Loc) : Prop := ∃ b2 : Addr, ∃ b2_1_4 : Addr, ∃ kb2_1_4 : ClassId, v = some (.ref b2) ∧ Fr n0 L ∧ KL h0 h [] ∧ h0.size ≤ b2 ∧ b2_1_4 < h.size ∧ Ex0 Z h b2 ∧ Fd0 Z h b2 (.ref b2_1_4) ∧ Fd1 Z h b2 z0 ∧ Arv Z h b2_1_4 kb2_1_4 .byte 0 [] z0
theorem ef_r_str0 (p0 : Int32) (m : MethodId) : entryFrame m #[(.int p0)] 3 = mkF m 0 #[.val (.int p0), .unset, .unset] [] := by first | (simp [entryFrame, mkF, argsToLocals, Value.category]; done) | rfl
set_option maxRecDepth 65536 in
set_option maxHeartbeats 40000000 in
theorem r_str0 (l : Launch) (Z : State) (a0 : Array Value) (hw : HW Z a0) (ws : List Jvm.Cond) (p0 : Int32) (h0 : Heap) (n0 : Nat) (Z0 : n0 ≤ h0.size) (hn : (own_ln p0) = (0 : Int32)) :
    OMH l Z consts_1 [] y3_str b0_ 3 (some (.object "java/lang/String")) ws ⟨4, 6, 12, 66⟩ #[(.int p0)] h0 (Q_r_str0 Z p0 h0 n0) := by
  refine own_bodyH (k := 6) (n := 12) (own_EW hw) (plainFor_of_name pn_JudgmentEqualsPinLaw295) (ef_r_str0 p0) (by decide) (by decide) ?_
  intro p e s m below meth c s₁ hx hby hml hown hnm hret hZ e0 hS0 hk0 X0 hC0 hSF0
  have N0 := Fr.nil n0
  obtain ⟨_, T1, L1, X1, hQ1, st1⟩ := own_static X0 hx hZ hown (w4 hw) (w5 hw) (w2 hw) (w6 hw) (by decide) (r1_len l Z a0 hw [] p0 h0 n0 Z0) e0 (W := 0) (by decide) (g := (mkF m 1 #[vi p0, .unset, .unset] [(.int p0)])) rfl (by rw [hml]; rfl) (argsL := [(.int p0)]) (rest := []) (lenOf pd_0 rfl) rfl rfl (own_wr rfl rfl) (hb hby d1)
  obtain ⟨rfl, N1q, e1⟩ := hQ1
  have N1 := Fr.app N0 N1q
  obtain ⟨T2, h2, X2, e2, E2, A2, D2, -, st2⟩ := newO X1 hx hZ hown (w7 hw) (w8 hw) (w9 hw) e1 (g := (mkF m 9 #[vi p0, vi 0, .unset] [])) rfl (hb hby d11) (by decide) (by decide)
  obtain ⟨b2, g2⟩ : ∃ z, z = h0.size := ⟨_, rfl⟩
  rw [← g2] at A2 D2 st2
  have ge_b2 : h0.size ≤ b2 := Nat.le_of_eq g2.symm
  have K2 := KL.ofE E2
  have Ck0 := own_chK K2 na0 (CHr.refl hC0).1
  have Ah1 := (CHr.refl hC0).trans Ck0.1
  have F_b2_value : Fd0 Z h2 b2 .null := D2 (Or.inr (w23 hw)) (ty := (.array .byte)) (by decide)
  have F_b2_coder : Fd1 Z h2 b2 z0 := D2 (Or.inr (w24 hw)) (ty := .byte) (by decide)
  obtain ⟨T3, h3, k3, X3, e3, E3, A3, st3⟩ := newP (aty := .char) X2 hx hZ (w10 hw) e2 (g := (mkF m 14 #[vi p0, vi 0, .unset] [z0, (.ref b2), (.ref b2)])) rfl (hb hby d14) rfl (by decide) (cap := 0) (by decide) (by decide) (by decide) (by decide)
  obtain ⟨b3, g3⟩ : ∃ z, z = h2.size := ⟨_, rfl⟩
  rw [← g3] at A3 st3
  have ge_b3 : h2.size ≤ b3 := Nat.le_of_eq g3.symm
  have K3 := KL.ofE E3
  have Ck1 := own_chK K3 na0 Ah1.1
  have Ah2 := Ah1.trans Ck1.1
  have V3 : Arv Z h3 b3 k3 .char 0 [] z0 := (Arv.new A3 (by decide)).pad (pad_rep [] z0 0)
  have f5 := (kFld K3 F_b2_value nw0)
  have f6 := (kExa K3 A2)
  have f7 := (kFld K3 F_b2_coder nw0)
  have sz_0_2 := (Nat.le_trans K2.1 K3.1)
  have lt_b2 : b2 < h2.size := Exa.lt A2
  obtain ⟨_, T4, L4, X4, hS4, hk4, hZ4, hown4, hQ4, hC4, st4⟩ := own_Hinit X3 hx hZ rfl hown (w11 hw) (w12 hw) (w9 hw) (w13 hw) (by decide) (r2__init_ l Z a0 hw [] b2 b3 k3 h3 n0 (Nat.le_trans Z0 sz_0_2) V3 f5 f6 f7 (Nat.le_trans Z0 (Nat.le_trans (Nat.le_refl _) ge_b2))) e3 (W := 1) (by decide) (g := (mkF m 16 #[vi p0, vi 0, .unset] [(.ref b3), (.ref b2), (.ref b2)])) rfl (by rw [hml]; rfl) (argsL := [(.ref b3)]) (rest := [(.ref b2)]) (lenOf pd_2 rfl) rfl rfl (own_wr rfl rfl) (hb hby d15) hS0 (Nat.le_trans hk0 sz_0_2) (own_EW hw) Ah2.1 (sfS (Ck1.2 _ (Ck0.2 _ (Safe.new ge_b2))) (Nat.lt_of_lt_of_le lt_b2 K3.1) sf0)
  obtain ⟨b2_1_4, kb2_1_4, rfl, N4q, K4, Q4_0, Q4_1, Q4_2, Q4_3⟩ := hQ4
  have N4 := Fr.app N1 N4q
  have Ah3 := Ah2.trans hC4
  -- what was kept, from the start on
  have C0 := (KL.refl h0 []).trans K2 na0
  have C1 := C0.trans K3 na0
  have C2 := C1.trans K4 (naO (Or.inr (Nat.le_trans (Nat.le_refl _) ge_b2)) (naO (Or.inr (Nat.le_trans (Nat.le_refl _) ge_b2)) na0))
  have f8 := (kExa K4 f6)
  refine ⟨T4, _, some (.ref b2), _, _, X4, hS4, (by rw [show T4.heap = T4.heap from rfl]; exact hk4), (fun h => by cases h <;> rfl), ?_, Ah3, hZ4, fun fs hr => ?_⟩
  · show Q_r_str0 Z p0 h0 n0 _ T4.heap _
    exact ⟨b2, b2_1_4, kb2_1_4, rfl, N4, C2, (Nat.le_trans (Nat.le_refl _) ge_b2), Q4_0, f8, Q4_1, Q4_2, Q4_3⟩
  · refine t_iloadN 1 X0.here hx (hb hby d0) rfl rfl ?_
    refine st1 _ ?_
    refine castTop (g' := (mkF m 4 #[vi p0, .unset, .unset] [z0])) (congrArg (fun z => mkF m 4 #[vi p0, .unset, .unset] (Value.int z :: [])) hn) ?_
    refine t_istoreN (pc' := 5) (L' := #[vi p0, vi 0, .unset]) X1.here hx (hb hby d8) rfl rfl ?_
    refine t_iloadN 6 X1.here hx (hb hby d9) rfl rfl ?_
    refine t_ifNo 9 X1.here hx (hb hby d10) (by decide) rfl ?_
    refine st2 _ ?_
    refine t_dup 13 X2.here hx (hb hby d12) rfl rfl ?_
    refine t_iconst 14 (r := 0) X2.here hx (hb hby d13) (by decide) rfl ?_
    refine st3 _ ?_
    refine st4 _ ?_
    jvm_step X4.here [X4.here.top, hx, (hb hby d37), X4.method', hret, Value.isRef, FieldType.isReference]
    first | (intro acts; rw [hr _ acts rfl rfl rfl]) | rw [hr _ _ rfl rfl rfl]
    exact Steps.refl _
theorem d38 : decode b0_ 20 = .ok (.iload_n 1, 1) := by decide +kernel
theorem d39 : decode b0_ 21 = .ok (.iconst 1, 1) := by decide +kernel
theorem d40 : decode b0_ 22 = .ok (.if_icmp .ne 11, 3) := by decide +kernel
theorem d41 : decode b0_ 25 = .ok (.iload_n 0, 1) := by decide +kernel
theorem d42 : decode b0_ 26 = .ok (.invokestatic 35, 3) := by decide +kernel
def w29 (hw : HW Z a0) := ow 29 hw rfl
abbrev b4_ := method_4_code
theorem d43 : decode b4_ 0 = .ok (.iload_n 0, 1) := by decide +kernel
theorem d44 : decode b4_ 1 = .ok (.iconst 2, 1) := by decide +kernel
theorem d45 : decode b4_ 2 = .ok (.iushr, 1) := by decide +kernel
theorem d46 : decode b4_ 3 = .ok (.sipush 255, 3) := by decide +kernel
theorem d47 : decode b4_ 6 = .ok (.iand, 1) := by decide +kernel
theorem d48 : decode b4_ 7 = .ok (.i2c, 1) := by decide +kernel
theorem d49 : decode b4_ 8 = .ok (.ireturn, 1) := by decide +kernel
abbrev y4_ch0 : MethodName := ⟨"com/example/unearth/unearth/eval/JudgmentEqualsPinLaw", "ch0", "(I)C"⟩
def Q_r4_ch0 (Z : State) (i_1 : Int32) (h0 : Heap) (n0 : Nat) (v : Option Value) (h : Heap) (L : List Loc) : Prop := v = some (.int ((own_u2 i_1) &&& (255 : Int32))) ∧ Fr n0 L ∧ h = h0
theorem ef_r4_ch0 (i_1 : Int32) (m : MethodId) : entryFrame m #[(.int i_1)] 1 = mkF m 0 #[.val (.int i_1)] [] := by first | (simp [entryFrame, mkF, argsToLocals, Value.category]; done) | rfl
set_option maxRecDepth 65536 in
set_option maxHeartbeats 40000000 in
theorem r4_ch0 (l : Launch) (Z : State) (a0 : Array Value) (hw : HW Z a0) (ws : List Jvm.Cond) (i_1 : Int32) (h0 : Heap) (n0 : Nat) (Z0 : n0 ≤ h0.size) :
    MF l Z y4_ch0 b4_ 1 (some .char) ws ⟨0, 0, 0, 0⟩ #[(.int i_1)] h0 (Q_r4_ch0 Z i_1 h0 n0) := by
  refine own_body (plainFor_of_name pn_JudgmentEqualsPinLaw295) (ef_r4_ch0 i_1) (by decide) (by decide) ?_
  intro p e s m below meth c s₁ hx hby hml hown hnm hret hZ hh e0 X0
  have N0 := Fr.nil n0
  refine ⟨s₁, _, some (.int ((own_u2 i_1) &&& (255 : Int32))), X0, (fun h => by cases h <;> rfl), ?_, fun fs hr => ?_⟩
  · show Q_r4_ch0 Z i_1 h0 n0 _ s₁.heap _
    rw [e0]
    exact ⟨rfl, N0, rfl⟩
  · rw [← (show (nar .char ((own_u2 i_1) &&& (255 : Int32))) = ((own_u2 i_1) &&& (255 : Int32)) from (i2c_mask _))] at hr
    refine t_iloadN 1 X0.here hx (hb hby d43) rfl rfl ?_
    refine t_iconst 2 (r := 2) X0.here hx (hb hby d44) (by decide) rfl ?_
    refine t_iushr 3 (r := (own_u2 i_1)) X0.here hx (hb hby d45) (Eq.refl (own_u2 i_1)) rfl ?_
    refine t_sipush 6 (r := 255) X0.here hx (hb hby d46) (by decide) rfl ?_
    refine t_iand 7 X0.here hx (hb hby d47) rfl rfl ?_
    refine t_i2c 8 (r := ((own_u2 i_1) &&& (255 : Int32))) X0.here hx (hb hby d48) (i2c_mask _) rfl ?_
    exact retN X0 hx (t := .char) hret (by simp) (hb hby d49) hr
def w31 (hw : HW Z a0) := ow 31 hw rfl
theorem pd_3 : parseMethodDescriptor "(I)C" = some ⟨[.int], some .char⟩ := by decide +kernel
def w30 (hw : HW Z a0) := ow 30 hw rfl
theorem d50 : decode b0_ 29 = .ok (.invokestatic 39, 3) := by decide +kernel
def w46 (hw : HW Z a0) := ow 46 hw rfl
abbrev b5_ := jdk_42_method_139_code
theorem d51 : decode b5_ 0 = .ok (.getstatic 38, 3) := by decide +kernel
def w35 (hw : HW Z a0) := ow 35 hw rfl
theorem d52 : decode b5_ 3 = .ok (.ifCond .eq 23, 3) := by decide +kernel
theorem d53 : decode b5_ 6 = .ok (.iload_n 0, 1) := by decide +kernel
theorem d54 : decode b5_ 7 = .ok (.invokestatic 1015, 3) := by decide +kernel
def w49 (hw : HW Z a0) := ow 49 hw rfl
abbrev b6_ := jdk_43_method_3_code
theorem d55 : decode b6_ 0 = .ok (.iload_n 0, 1) := by decide +kernel
theorem d56 : decode b6_ 1 = .ok (.sipush 255, 3) := by decide +kernel
theorem d57 : decode b6_ 4 = .ok (.if_icmp .gt 7, 3) := by decide +kernel
theorem d58 : decode b6_ 7 = .ok (.iconst 1, 1) := by decide +kernel
theorem d59 : decode b6_ 8 = .ok (.goto 4, 3) := by decide +kernel
theorem d60 : decode b6_ 12 = .ok (.ireturn, 1) := by decide +kernel
theorem pn_StringLatin1120 : plainName "java/lang/StringLatin1" = true := by first | (simp [plainName, overriddenIn]; done) | decide +kernel
abbrev y5_canEncode : MethodName := ⟨"java/lang/StringLatin1", "canEncode", "(C)Z"⟩
def Q_r6_canEncode (Z : State) (i_1 : Int32) (h0 : Heap) (n0 : Nat) (v : Option Value) (h : Heap) (L : List Loc) : Prop := v = some (.int 1) ∧ Fr n0 L ∧ h = h0
theorem ef_r6_canEncode (i_1 : Int32) (m : MethodId) : entryFrame m #[(.int i_1)] 1 = mkF m 0 #[.val (.int i_1)] [] := by first | (simp [entryFrame, mkF, argsToLocals, Value.category]; done) | rfl
set_option maxRecDepth 65536 in
set_option maxHeartbeats 40000000 in
theorem r6_canEncode (l : Launch) (Z : State) (a0 : Array Value) (hw : HW Z a0) (ws : List Jvm.Cond) (i_1 : Int32) (h0 : Heap) (n0 : Nat) (Z0 : n0 ≤ h0.size) (hp0 : ¬ ((255 : Int32) < i_1)) :
    MF l Z y5_canEncode b6_ 1 (some .boolean) ws ⟨0, 0, 0, 0⟩ #[(.int i_1)] h0 (Q_r6_canEncode Z i_1 h0 n0) := by
  refine own_body (plainFor_of_name pn_StringLatin1120) (ef_r6_canEncode i_1) (by decide) (by decide) ?_
  intro p e s m below meth c s₁ hx hby hml hown hnm hret hZ hh e0 X0
  have N0 := Fr.nil n0
  refine ⟨s₁, _, some (.int 1), X0, (fun h => by cases h <;> rfl), ?_, fun fs hr => ?_⟩
  · show Q_r6_canEncode Z i_1 h0 n0 _ s₁.heap _
    rw [e0]
    exact ⟨rfl, N0, rfl⟩
  · refine t_iloadN 1 X0.here hx (hb hby d55) rfl rfl ?_
    refine t_sipush 4 (r := 255) X0.here hx (hb hby d56) (by decide) rfl ?_
    refine t_icmpNo 7 X0.here hx (hb hby d57) (flt hp0).2.2.1 rfl ?_
    refine t_iconst 8 (r := 1) X0.here hx (hb hby d58) (by decide) rfl ?_
    refine t_goto (pc := 8) 12 X0.here hx (hb hby d59) (by decide) (by decide) ?_
    exact retN X0 hx (t := .boolean) hret (by simp) (hb hby d60) hr
def w52 (hw : HW Z a0) := ow 52 hw rfl
def w51 (hw : HW Z a0) := ow 51 hw rfl
theorem pd_4 : parseMethodDescriptor "(C)Z" = some ⟨[.char], some .boolean⟩ := by decide +kernel
def w50 (hw : HW Z a0) := ow 50 hw rfl
theorem d61 : decode b5_ 10 = .ok (.ifCond .eq 16, 3) := by decide +kernel
theorem d62 : decode b5_ 13 = .ok (.new 10, 3) := by decide +kernel
def w53 (hw : HW Z a0) := ow 53 hw rfl
theorem d63 : decode b5_ 16 = .ok (.dup, 1) := by decide +kernel
theorem d64 : decode b5_ 17 = .ok (.iload_n 0, 1) := by decide +kernel
theorem d65 : decode b5_ 18 = .ok (.invokestatic 1018, 3) := by decide +kernel
def w54 (hw : HW Z a0) := ow 54 hw rfl
abbrev b7_ := jdk_43_method_46_code
theorem d66 : decode b7_ 0 = .ok (.iconst 1, 1) := by decide +kernel
theorem d67 : decode b7_ 1 = .ok (.newarray .byte, 2) := by decide +kernel
theorem d68 : decode b7_ 3 = .ok (.dup, 1) := by decide +kernel
theorem d69 : decode b7_ 4 = .ok (.iconst 0, 1) := by decide +kernel
theorem d70 : decode b7_ 5 = .ok (.iload_n 0, 1) := by decide +kernel
theorem d71 : decode b7_ 6 = .ok (.i2b, 1) := by decide +kernel
theorem d72 : decode b7_ 7 = .ok (.bastore, 1) := by decide +kernel
theorem d73 : decode b7_ 8 = .ok (.areturn, 1) := by decide +kernel
abbrev y6_toBytes : MethodName := ⟨"java/lang/StringLatin1", "toBytes", "(C)[B"⟩
def Q_r7_toBytes (Z : State) (i_1 : Int32) (h0 : Heap) (n0 : Nat) (v : Option Value) (h : Heap) (L : List Loc) : Prop := ∃ b2 : Addr, ∃ k2 : ClassId, v = some (.ref b2) ∧ Fr n0 L ∧ KL h0 h [] ∧ h0.size ≤ b2 ∧ Arv Z h b2 k2 .byte 1 [(.int (i_1.toInt8.toInt32))] z0
theorem ef_r7_toBytes (i_1 : Int32) (m : MethodId) : entryFrame m #[(.int i_1)] 1 = mkF m 0 #[.val (.int i_1)] [] := by first | (simp [entryFrame, mkF, argsToLocals, Value.category]; done) | rfl
set_option maxRecDepth 65536 in
set_option maxHeartbeats 40000000 in
theorem r7_toBytes (l : Launch) (Z : State) (a0 : Array Value) (hw : HW Z a0) (ws : List Jvm.Cond) (i_1 : Int32) (h0 : Heap) (n0 : Nat) (Z0 : n0 ≤ h0.size) :
    MF l Z y6_toBytes b7_ 1 (some (.array .byte)) ws ⟨0, 1, 1, 0⟩ #[(.int i_1)] h0 (Q_r7_toBytes Z i_1 h0 n0) := by
  refine own_body (plainFor_of_name pn_StringLatin1120) (ef_r7_toBytes i_1) (by decide) (by decide) ?_
  intro p e s m below meth c s₁ hx hby hml hown hnm hret hZ hh e0 X0
  have N0 := Fr.nil n0
  obtain ⟨T2, h2, k2, X2, e2, E2, A2, st2⟩ := newP (aty := .byte) X0 hx hZ (w22 hw) e0 (g := (mkF m 1 #[vi i_1] [(.int 1)])) rfl (hb hby d67) rfl (by decide) (cap := 1) (by decide) (by decide) (by decide) (by decide)
  obtain ⟨b2, g2⟩ : ∃ z, z = h0.size := ⟨_, rfl⟩
  rw [← g2] at A2 st2
  have ge_b2 : h0.size ≤ b2 := Nat.le_of_eq g2.symm
  have K2 := KL.ofE E2
  have V2 : Arv Z h2 b2 k2 .byte 1 [z0] z0 := (Arv.new A2 (by decide)).pad (pad_rep [] z0 1)
  obtain ⟨T3, h3, X3, e3, W3, V3, st3⟩ := own_astB X2 hx hZ e2 V2 (j := 0) (by decide) 0 rfl (Nat.le_of_ble_eq_true rfl) (g := (mkF m 7 #[vi i_1] [(.int (i_1.toInt8.toInt32)), z0, (.ref b2), (.ref b2)])) rfl rfl (hb hby d72)
  rw [show (nar .byte (i_1.toInt8.toInt32)) = (i_1.toInt8.toInt32) from (own_narb _)] at V3
  have K3 := KL.ofW W3
  replace V3 : Arv Z h3 b2 k2 .byte 1 [(.int (i_1.toInt8.toInt32))] z0 := V3
  have N3 := Fr.snoc X3 N0 (Nat.le_trans Z0 (Nat.le_trans (Nat.le_refl _) ge_b2))
  -- what was kept, from the start on
  have C0 := (KL.refl h0 []).trans K2 na0
  have C1 := C0.trans K3 (naO (Or.inr (Nat.le_trans (Nat.le_refl _) ge_b2)) na0)
  refine ⟨T3, _, some (.ref b2), X3, (fun h => by cases h <;> rfl), ?_, fun fs hr => ?_⟩
  · show Q_r7_toBytes Z i_1 h0 n0 _ T3.heap _
    rw [e3]
    exact ⟨b2, k2, rfl, N3, C1, (Nat.le_trans (Nat.le_refl _) ge_b2), V3⟩
  · refine t_iconst 1 (r := 1) X0.here hx (hb hby d66) (by decide) rfl ?_
    refine st2 _ ?_
    refine t_dup 4 X2.here hx (hb hby d68) rfl rfl ?_
    refine t_iconst 5 (r := 0) X2.here hx (hb hby d69) (by decide) rfl ?_
    refine t_iloadN 6 X2.here hx (hb hby d70) rfl rfl ?_
    refine t_i2b 7 X2.here hx (hb hby d71) rfl rfl ?_
    refine st3 _ ?_
    jvm_step X3.here [X3.here.top, hx, (hb hby d73), X3.method', hret, Value.isRef, FieldType.isReference]
    first | (intro acts; rw [hr _ acts rfl rfl rfl]) | rw [hr _ _ rfl rfl rfl]
    exact Steps.refl _
def w56 (hw : HW Z a0) := ow 56 hw rfl
theorem pd_5 : parseMethodDescriptor "(C)[B" = some ⟨[.char], some (.array .byte)⟩ := by decide +kernel
def w55 (hw : HW Z a0) := ow 55 hw rfl
theorem d74 : decode b5_ 21 = .ok (.iconst 0, 1) := by decide +kernel
theorem d75 : decode b5_ 22 = .ok (.invokespecial 209, 3) := by decide +kernel
def w57 (hw : HW Z a0) := ow 57 hw rfl
abbrev b8_ := jdk_42_method_151_code
theorem d76 : decode b8_ 0 = .ok (.aload_n 0, 1) := by decide +kernel
theorem d77 : decode b8_ 1 = .ok (.invokespecial 1, 3) := by decide +kernel
theorem d78 : decode b8_ 4 = .ok (.aload_n 0, 1) := by decide +kernel
theorem d79 : decode b8_ 5 = .ok (.aload_n 1, 1) := by decide +kernel
theorem d80 : decode b8_ 6 = .ok (.putfield 9, 3) := by decide +kernel
theorem d81 : decode b8_ 9 = .ok (.aload_n 0, 1) := by decide +kernel
theorem d82 : decode b8_ 10 = .ok (.iload_n 2, 1) := by decide +kernel
theorem d83 : decode b8_ 11 = .ok (.putfield 15, 3) := by decide +kernel
theorem d84 : decode b8_ 14 = .ok (.return_, 1) := by decide +kernel
abbrev y7__init_ : MethodName := ⟨"java/lang/String", "<init>", "([BB)V"⟩
def WS_r8__init_ (Z : State) (o0 : Addr) : List (Addr × Nat) := [(o0, (sl0 Z)), (o0, (sl1 Z))]
def Q_r8__init_ (Z : State) (o0 o1 : Addr) (h0 : Heap) (n0 : Nat) (v : Option Value) (h : Heap) (L : List Loc) : Prop := v = none ∧ Fr n0 L ∧ KL h0 h (WS_r8__init_ Z o0) ∧ Fd0 Z h o0 (.ref o1) ∧ Fd1 Z h o0 z0
theorem ef_r8__init_ (o0 o1 : Addr) (m : MethodId) : entryFrame m #[(.ref o0), (.ref o1), (.int 0)] 3 = mkF m 0 #[.val (.ref o0), .val (.ref o1), .val (.int 0)] [] := by first | (simp [entryFrame, mkF, argsToLocals, Value.category]; done) | rfl
set_option maxRecDepth 65536 in
set_option maxHeartbeats 40000000 in
theorem r8__init_ (l : Launch) (Z : State) (a0 : Array Value) (hw : HW Z a0) (ws : List Jvm.Cond) (o0 o1 : Addr) (h0 : Heap) (n0 : Nat) (Z0 : n0 ≤ h0.size) (F_o0_value : Fd0 Z h0 o0 .null) (E_o0 : Ex0 Z h0 o0) (g_o0 : n0 ≤ o0) (F_o0_coder : Fd1 Z h0 o0 z0) :
    MF l Z y7__init_ b8_ 3 none ws ⟨1, 0, 0, 12⟩ #[(.ref o0), (.ref o1), z0] h0 (Q_r8__init_ Z o0 o1 h0 n0) := by
  refine own_body (plainFor_of_name pn_String564) (ef_r8__init_ o0 o1) (by decide) (by decide) ?_
  intro p e s m below meth c s₁ hx hby hml hown hnm hret hZ hh e0 X0
  have N0 := Fr.nil n0
  obtain ⟨T1, X1, e1, st1⟩ := initO X0 hx hZ hown (w18 hw) (w19 hw) (w20 hw) e0 (g := (mkF m 1 #[vr o0, vr o1, vi 0] [(.ref o0)])) rfl (by rw [hml]; rfl) rfl (hb hby d77) (by decide) (W := 0) (by show 2 * 0 + _ ≤ _; exact Nat.le_of_eq rfl) (by decide)
  obtain ⟨T2, h2, X2, e2, W2, st2⟩ := putF X1 hx hZ hown (host := "") (Or.inl (w27 hw)) Via.refl e1 F_o0_value E_o0 (Or.inr ⟨(w23 hw), rfl, hnm⟩) (w8 hw) (ty := (.array .byte)) (by decide) rfl rfl (g := (mkF m 6 #[vr o0, vr o1, vi 0] [(.ref o1), (.ref o0)])) rfl rfl (hb hby d80)
  have K2 := KL.ofW W2
  have Fw2 : Fd0 Z h2 o0 (.ref o1) := Fld.same W2 F_o0_value
  have N2 := Fr.snoc X2 N0 g_o0
  have f3 := (kFld K2 F_o0_coder (nwS (Or.inr (sn_0 hw)) nw0))
  have f4 := (kExa K2 E_o0)
  obtain ⟨T5, h5, X5, e5, W5, st5⟩ := putF X2 hx hZ hown (host := "") (Or.inl (w28 hw)) Via.refl e2 f3 f4 (Or.inr ⟨(w24 hw), rfl, hnm⟩) (w8 hw) (ty := .byte) (by decide) (by decide) (by decide) (g := (mkF m 11 #[vr o0, vr o1, vi 0] [z0, (.ref o0)])) rfl rfl (hb hby d83)
  have K5 := KL.ofW W5
  have Fw5 : Fd1 Z h5 o0 z0 := Fld.same W5 f3
  have N5 := Fr.snoc X5 N2 g_o0
  -- what was kept, from the start on
  have C0 := (KL.refl h0 (WS_r8__init_ Z o0)).trans K2 (naO (own_mi 0 rfl) na0)
  have C1 := C0.trans K5 (naO (own_mi 1 rfl) na0)
  have f6 := (kFld K5 Fw2 (nwS (Or.inr (sn_1 hw)) nw0))
  refine ⟨T5, _, none, X5, (fun h => by cases h <;> rfl), ?_, fun fs hr => ?_⟩
  · show Q_r8__init_ Z o0 o1 h0 n0 _ T5.heap _
    rw [e5]
    exact ⟨rfl, N5, C1, f6, Fw5⟩
  · refine t_aloadN 1 X0.here hx (hb hby d76) rfl rfl rfl ?_
    refine st1 _ ?_
    refine t_aloadN 5 X1.here hx (hb hby d78) rfl rfl rfl ?_
    refine t_aloadN 6 X1.here hx (hb hby d79) rfl rfl rfl ?_
    refine st2 _ ?_
    refine t_aloadN 10 X2.here hx (hb hby d81) rfl rfl rfl ?_
    refine t_iloadN 11 X2.here hx (hb hby d82) rfl rfl ?_
    refine st5 _ ?_
    exact X5.returnOut hx hret (hb hby d84) hr
def w59 (hw : HW Z a0) := ow 59 hw rfl
theorem pd_6 : parseMethodDescriptor "([BB)V" = some ⟨[(.array .byte), .byte], none⟩ := by decide +kernel
def w58 (hw : HW Z a0) := ow 58 hw rfl
theorem d85 : decode b5_ 25 = .ok (.areturn, 1) := by decide +kernel
abbrev y8_valueOf : MethodName := ⟨"java/lang/String", "valueOf", "(C)Ljava/lang/String;"⟩
def Q_r5_valueOf (Z : State) (i_1 i_2 : Int32) (h0 : Heap) (n0 : Nat) (v : Option Value) (h : Heap) (L : List Loc) : Prop := ∃ b5 : Addr, ∃ b2_6 : Addr, ∃ k2_6 : ClassId, v = some (.ref b5) ∧ Fr n0 L ∧ KL h0 h [] ∧ h0.size ≤ b5 ∧ h0.size ≤ b2_6 ∧ b5 ≠ b2_6 ∧ Ex0 Z h b5 ∧ Fd0 Z h b5 (.ref b2_6) ∧ Fd1 Z h b5 z0 ∧ Arv Z h b2_6 k2_6 .byte 1 [(.int (i_1.toInt8.toInt32))] z0
theorem ef_r5_valueOf (i_1 : Int32) (m : MethodId) : entryFrame m #[(.int i_1)] 1 = mkF m 0 #[.val (.int i_1)] [] := by first | (simp [entryFrame, mkF, argsToLocals, Value.category]; done) | rfl
set_option maxRecDepth 65536 in
set_option maxHeartbeats 40000000 in
theorem r5_valueOf (l : Launch) (Z : State) (a0 : Array Value) (hw : HW Z a0) (ws : List Jvm.Cond) (i_1 i_2 : Int32) (h0 : Heap) (n0 : Nat) (Z0 : n0 ≤ h0.size) (S_COMPACT_STRINGS : SCS Z i_2) (O0 : Old Z n0 h0) (hp0 : ¬ (i_2 = (0 : Int32))) (hp1 : ¬ ((255 : Int32) < i_1)) :
    MF l Z y8_valueOf b5_ 1 (some (.object "java/lang/String")) ws ⟨2, 2, 5, 27⟩ #[(.int i_1)] h0 (Q_r5_valueOf Z i_1 i_2 h0 n0) := by
  refine own_body (plainFor_of_name pn_String564) (ef_r5_valueOf i_1) (by decide) (by decide) ?_
  intro p e s m below meth c s₁ hx hby hml hown hnm hret hZ hh e0 X0
  have N0 := Fr.nil n0
  obtain ⟨T3, X3, e3, st3⟩ := getS2 X0 hx hZ hown (host := "") (Or.inl (w35 hw)) Via.refl e0 (Sta.ext O0.2 S_COMPACT_STRINGS) (g := (mkF m 0 #[vi i_1] [])) rfl (hb hby d51)
  obtain ⟨_, T4, L4, X4, hQ4, st4⟩ := own_static X3 hx hZ hown (w49 hw) (w50 hw) (w51 hw) (w52 hw) (by decide) (r6_canEncode l Z a0 hw [] i_1 h0 n0 Z0 hp1) e3 (W := 0) (by decide) (g := (mkF m 7 #[vi i_1] [(.int i_1)])) rfl (by rw [hml]; rfl) (argsL := [(.int i_1)]) (rest := []) (lenOf pd_4 rfl) rfl rfl (own_wr rfl rfl) (hb hby d54)
  obtain ⟨rfl, N4q, e4⟩ := hQ4
  have N4 := Fr.app N0 N4q
  obtain ⟨T5, h5, X5, e5, E5, A5, D5, -, st5⟩ := newO X4 hx hZ hown (w53 hw) (w8 hw) (w9 hw) e4 (g := (mkF m 13 #[vi i_1] [])) rfl (hb hby d62) (by decide) (by decide)
  obtain ⟨b5, g5⟩ : ∃ z, z = h0.size := ⟨_, rfl⟩
  rw [← g5] at A5 D5 st5
  have ge_b5 : h0.size ≤ b5 := Nat.le_of_eq g5.symm
  have K5 := KL.ofE E5
  have F_b5_value : Fd0 Z h5 b5 .null := D5 (Or.inr (w23 hw)) (ty := (.array .byte)) (by decide)
  have F_b5_coder : Fd1 Z h5 b5 z0 := D5 (Or.inr (w24 hw)) (ty := .byte) (by decide)
  obtain ⟨_, T6, L6, X6, hQ6, st6⟩ := own_static X5 hx hZ hown (w54 hw) (w55 hw) (w51 hw) (w56 hw) (by decide) (r7_toBytes l Z a0 hw [] i_1 h5 n0 (Nat.le_trans Z0 K5.1)) e5 (W := 2) (by decide) (g := (mkF m 18 #[vi i_1] [(.int i_1), (.ref b5), (.ref b5)])) rfl (by rw [hml]; rfl) (argsL := [(.int i_1)]) (rest := [(.ref b5), (.ref b5)]) (lenOf pd_5 rfl) rfl rfl (own_wr rfl rfl) (hb hby d65)
  obtain ⟨b2_6, k2_6, rfl, N6q, K6, Q6_0, Q6_1⟩ := hQ6
  have N6 := Fr.app N4 N6q
  have f9 := (kFld K6 F_b5_value nw0)
  have f10 := (kExa K6 A5)
  have f11 := (kFld K6 F_b5_coder nw0)
  have sz_0_2 := (Nat.le_trans K5.1 K6.1)
  obtain ⟨_, T8, L8, X8, hQ8, st8⟩ := own_init X6 hx hZ rfl hown (w57 hw) (w58 hw) (w9 hw) (w59 hw) (by decide) (r8__init_ l Z a0 hw [] b5 b2_6 T6.heap n0 (Nat.le_trans Z0 sz_0_2) f9 f10 (Nat.le_trans Z0 (Nat.le_trans (Nat.le_refl _) ge_b5)) f11) rfl (W := 1) (by decide) (g := (mkF m 22 #[vi i_1] [z0, (.ref b2_6), (.ref b5), (.ref b5)])) rfl (by rw [hml]; rfl) (argsL := [(.ref b2_6), z0]) (rest := [(.ref b5)]) (lenOf pd_6 rfl) rfl rfl (own_wr rfl rfl) (hb hby d75)
  obtain ⟨rfl, N8q, K8, Q8_0, Q8_1⟩ := hQ8
  have N8 := Fr.app N6 N8q
  -- what was kept, from the start on
  have C0 := (KL.refl h0 []).trans K5 na0
  have C1 := C0.trans K6 na0
  have C2 := C1.trans K8 (naO (Or.inr (Nat.le_trans (Nat.le_refl _) ge_b5)) (naO (Or.inr (Nat.le_trans (Nat.le_refl _) ge_b5)) na0))
  have lt_b5 : b5 < h5.size := Exa.lt A5
  have f12 := (kExa K8 f10)
  have f13 := (kArv K8 Q6_1 (naN (lt_ne lt_b5 Q6_0) (naN (lt_ne lt_b5 Q6_0) na0)))
  refine ⟨T8, _, some (.ref b5), X8, (fun h => by cases h <;> rfl), ?_, fun fs hr => ?_⟩
  · show Q_r5_valueOf Z i_1 i_2 h0 n0 _ T8.heap _
    exact ⟨b5, b2_6, k2_6, rfl, N8, C2, (Nat.le_trans (Nat.le_refl _) ge_b5), (Nat.le_trans K5.1 Q6_0), (lt_ne lt_b5 Q6_0), f12, Q8_0, Q8_1, f13⟩
  · refine st3 _ ?_
    refine t_ifNo 6 X3.here hx (hb hby d52) ((if0 _ _).trans (feq hp0).1) rfl ?_
    refine t_iloadN 7 X3.here hx (hb hby d53) rfl rfl ?_
    refine st4 _ ?_
    refine t_ifNo 13 X4.here hx (hb hby d61) (by decide) rfl ?_
    refine st5 _ ?_
    refine t_dup 17 X5.here hx (hb hby d63) rfl rfl ?_
    refine t_iloadN 18 X5.here hx (hb hby d64) rfl rfl ?_
    refine st6 _ ?_
    refine t_iconst 22 (r := 0) X6.here hx (hb hby d74) (by decide) rfl ?_
    refine st8 _ ?_
    jvm_step X8.here [X8.here.top, hx, (hb hby d85), X8.method', hret, Value.isRef, FieldType.isReference]
    first | (intro acts; rw [hr _ acts rfl rfl rfl]) | rw [hr _ _ rfl rfl rfl]
    exact Steps.refl _
def w48 (hw : HW Z a0) := ow 48 hw rfl
theorem pd_7 : parseMethodDescriptor "(C)Ljava/lang/String;" = some ⟨[.char], some (.object "java/lang/String")⟩ := by decide +kernel
def w47 (hw : HW Z a0) := ow 47 hw rfl
theorem d86 : decode b0_ 32 = .ok (.areturn, 1) := by decide +kernel
def Q_r_str1 (Z : State) (p0 cs : Int32) (h0 : Heap) (n0 : Nat) (v : Option Value) (h : Heap) (L : List Loc) : Prop := ∃ b5_3 : Addr, ∃ b2_6_3 : Addr, ∃ k2_6_3 : ClassId, v = some (.ref b5_3) ∧ Fr n0 L ∧ KL h0 h [] ∧ h0.size ≤ b5_3 ∧ h0.size ≤ b2_6_3 ∧ b5_3 ≠ b2_6_3 ∧ Ex0 Z h b5_3 ∧ Fd0 Z h b5_3 (.ref b2_6_3) ∧ Fd1 Z h b5_3 z0 ∧ Arv Z h b2_6_3 k2_6_3 .byte 1 [(.int (((own_u2 p0) &&& (255 : Int32)).toInt8.toInt32))] z0
theorem ef_r_str1 (p0 : Int32) (m : MethodId) : entryFrame m #[(.int p0)] 3 = mkF m 0 #[.val (.int p0), .unset, .unset] [] := by first | (simp [entryFrame, mkF, argsToLocals, Value.category]; done) | rfl
set_option maxRecDepth 65536 in
set_option maxHeartbeats 40000000 in
theorem r_str1 (l : Launch) (Z : State) (a0 : Array Value) (hw : HW Z a0) (ws : List Jvm.Cond) (p0 cs : Int32) (h0 : Heap) (n0 : Nat) (Z0 : n0 ≤ h0.size) (hcs : ¬ (cs = (0 : Int32))) (hn : (own_ln p0) = (1 : Int32)) (S_COMPACT_STRINGS : SCS Z cs) (O0 : Old Z n0 h0) :
    OMH l Z consts_1 [] y3_str b0_ 3 (some (.object "java/lang/String")) ws ⟨4, 6, 12, 66⟩ #[(.int p0)] h0 (Q_r_str1 Z p0 cs h0 n0) := by
  refine own_bodyH (k := 2) (n := 5) (own_EW hw) (plainFor_of_name pn_JudgmentEqualsPinLaw295) (ef_r_str1 p0) (by decide) (by decide) ?_
  intro p e s m below meth c s₁ hx hby hml hown hnm hret hZ e0 hS0 hk0 X0 hC0 hSF0
  have N0 := Fr.nil n0
  obtain ⟨_, T1, L1, X1, hQ1, st1⟩ := own_static X0 hx hZ hown (w4 hw) (w5 hw) (w2 hw) (w6 hw) (by decide) (r1_len l Z a0 hw [] p0 h0 n0 Z0) e0 (W := 0) (by decide) (g := (mkF m 1 #[vi p0, .unset, .unset] [(.int p0)])) rfl (by rw [hml]; rfl) (argsL := [(.int p0)]) (rest := []) (lenOf pd_0 rfl) rfl rfl (own_wr rfl rfl) (hb hby d1)
  obtain ⟨rfl, N1q, e1⟩ := hQ1
  have N1 := Fr.app N0 N1q
  obtain ⟨_, T2, L2, X2, hQ2, st2⟩ := own_static X1 hx hZ hown (w29 hw) (w30 hw) (w2 hw) (w31 hw) (by decide) (r4_ch0 l Z a0 hw [] p0 h0 n0 Z0) e1 (W := 0) (by decide) (g := (mkF m 26 #[vi p0, vi 1, .unset] [(.int p0)])) rfl (by rw [hml]; rfl) (argsL := [(.int p0)]) (rest := []) (lenOf pd_3 rfl) rfl rfl (own_wr rfl rfl) (hb hby d42)
  obtain ⟨rfl, N2q, e2⟩ := hQ2
  have N2 := Fr.app N1 N2q
  obtain ⟨_, T3, L3, X3, hQ3, st3⟩ := own_static X2 hx hZ hown (w46 hw) (w47 hw) (w9 hw) (w48 hw) (by decide) (r5_valueOf l Z a0 hw [] ((own_u2 p0) &&& (255 : Int32)) cs h0 n0 Z0 S_COMPACT_STRINGS O0 hcs (own_m255b _)) e2 (W := 0) (by decide) (g := (mkF m 29 #[vi p0, vi 1, .unset] [(.int ((own_u2 p0) &&& (255 : Int32)))])) rfl (by rw [hml]; rfl) (argsL := [(.int ((own_u2 p0) &&& (255 : Int32)))]) (rest := []) (lenOf pd_7 rfl) rfl rfl (own_wr rfl rfl) (hb hby d50)
  obtain ⟨b5_3, b2_6_3, k2_6_3, rfl, N3q, K3, Q3_0, Q3_1, Q3_2, Q3_3, Q3_4, Q3_5, Q3_6⟩ := hQ3
  have N3 := Fr.app N2 N3q
  have Ck0 := own_chK K3 na0 (CHr.refl hC0).1
  have Ah1 := (CHr.refl hC0).trans Ck0.1
  -- what was kept, from the start on
  have C0 := (KL.refl h0 []).trans K3 na0
  refine ⟨T3, _, some (.ref b5_3), _, _, X3, hS0, (by rw [show T3.heap = T3.heap from rfl]; exact (Nat.le_trans hk0 K3.1)), (fun h => by cases h <;> rfl), ?_, Ah1, hZ, fun fs hr => ?_⟩
  · show Q_r_str1 Z p0 cs h0 n0 _ T3.heap _
    exact ⟨b5_3, b2_6_3, k2_6_3, rfl, N3, C0, (Nat.le_trans (Nat.le_refl _) Q3_0), (Nat.le_trans (Nat.le_refl _) Q3_1), Q3_2, Q3_3, Q3_4, Q3_5, Q3_6⟩
  · refine t_iloadN 1 X0.here hx (hb hby d0) rfl rfl ?_
    refine st1 _ ?_
    refine castTop (g' := (mkF m 4 #[vi p0, .unset, .unset] [(.int 1)])) (congrArg (fun z => mkF m 4 #[vi p0, .unset, .unset] (Value.int z :: [])) hn) ?_
    refine t_istoreN (pc' := 5) (L' := #[vi p0, vi 1, .unset]) X1.here hx (hb hby d8) rfl rfl ?_
    refine t_iloadN 6 X1.here hx (hb hby d9) rfl rfl ?_
    refine t_ifYes (pc := 6) 20 X1.here hx (hb hby d10) (by decide) (by decide) (by decide) ?_
    refine t_iloadN 21 X1.here hx (hb hby d38) rfl rfl ?_
    refine t_iconst 22 (r := 1) X1.here hx (hb hby d39) (by decide) rfl ?_
    refine t_icmpNo 25 X1.here hx (hb hby d40) (by decide) rfl ?_
    refine t_iloadN 26 X1.here hx (hb hby d41) rfl rfl ?_
    refine st2 _ ?_
    refine st3 _ ?_
    jvm_step X3.here [X3.here.top, hx, (hb hby d86), X3.method', hret, Value.isRef, FieldType.isReference]
    first | (intro acts; rw [hr _ acts rfl rfl rfl]) | rw [hr _ _ rfl rfl rfl]
    exact Steps.refl _
theorem d87 : decode b0_ 33 = .ok (.iconst 2, 1) := by decide +kernel
theorem d88 : decode b0_ 34 = .ok (.newarray .char, 2) := by decide +kernel
theorem d89 : decode b0_ 36 = .ok (.astore_n 2, 1) := by decide +kernel
theorem d90 : decode b0_ 37 = .ok (.aload_n 2, 1) := by decide +kernel
theorem d91 : decode b0_ 38 = .ok (.iconst 0, 1) := by decide +kernel
theorem d92 : decode b0_ 39 = .ok (.iload_n 0, 1) := by decide +kernel
theorem d93 : decode b0_ 40 = .ok (.invokestatic 35, 3) := by decide +kernel
theorem d94 : decode b0_ 43 = .ok (.castore, 1) := by decide +kernel
theorem d95 : decode b0_ 44 = .ok (.aload_n 2, 1) := by decide +kernel
theorem d96 : decode b0_ 45 = .ok (.iconst 1, 1) := by decide +kernel
theorem d97 : decode b0_ 46 = .ok (.iload_n 0, 1) := by decide +kernel
theorem d98 : decode b0_ 47 = .ok (.invokestatic 43, 3) := by decide +kernel
def w32 (hw : HW Z a0) := ow 32 hw rfl
abbrev b9_ := method_5_code
theorem d99 : decode b9_ 0 = .ok (.iload_n 0, 1) := by decide +kernel
theorem d100 : decode b9_ 1 = .ok (.bipush 10, 2) := by decide +kernel
theorem d101 : decode b9_ 3 = .ok (.iushr, 1) := by decide +kernel
theorem d102 : decode b9_ 4 = .ok (.sipush 255, 3) := by decide +kernel
theorem d103 : decode b9_ 7 = .ok (.iand, 1) := by decide +kernel
theorem d104 : decode b9_ 8 = .ok (.i2c, 1) := by decide +kernel
theorem d105 : decode b9_ 9 = .ok (.ireturn, 1) := by decide +kernel
abbrev y9_ch1 : MethodName := ⟨"com/example/unearth/unearth/eval/JudgmentEqualsPinLaw", "ch1", "(I)C"⟩
def Q_r9_ch1 (Z : State) (i_1 : Int32) (h0 : Heap) (n0 : Nat) (v : Option Value) (h : Heap) (L : List Loc) : Prop := v = some (.int ((own_u10 i_1) &&& (255 : Int32))) ∧ Fr n0 L ∧ h = h0
theorem ef_r9_ch1 (i_1 : Int32) (m : MethodId) : entryFrame m #[(.int i_1)] 1 = mkF m 0 #[.val (.int i_1)] [] := by first | (simp [entryFrame, mkF, argsToLocals, Value.category]; done) | rfl
set_option maxRecDepth 65536 in
set_option maxHeartbeats 40000000 in
theorem r9_ch1 (l : Launch) (Z : State) (a0 : Array Value) (hw : HW Z a0) (ws : List Jvm.Cond) (i_1 : Int32) (h0 : Heap) (n0 : Nat) (Z0 : n0 ≤ h0.size) :
    MF l Z y9_ch1 b9_ 1 (some .char) ws ⟨0, 0, 0, 0⟩ #[(.int i_1)] h0 (Q_r9_ch1 Z i_1 h0 n0) := by
  refine own_body (plainFor_of_name pn_JudgmentEqualsPinLaw295) (ef_r9_ch1 i_1) (by decide) (by decide) ?_
  intro p e s m below meth c s₁ hx hby hml hown hnm hret hZ hh e0 X0
  have N0 := Fr.nil n0
  refine ⟨s₁, _, some (.int ((own_u10 i_1) &&& (255 : Int32))), X0, (fun h => by cases h <;> rfl), ?_, fun fs hr => ?_⟩
  · show Q_r9_ch1 Z i_1 h0 n0 _ s₁.heap _
    rw [e0]
    exact ⟨rfl, N0, rfl⟩
  · rw [← (show (nar .char ((own_u10 i_1) &&& (255 : Int32))) = ((own_u10 i_1) &&& (255 : Int32)) from (i2c_mask _))] at hr
    refine t_iloadN 1 X0.here hx (hb hby d99) rfl rfl ?_
    refine t_bipush 3 (r := 10) X0.here hx (hb hby d100) (by decide) rfl ?_
    refine t_iushr 4 (r := (own_u10 i_1)) X0.here hx (hb hby d101) (Eq.refl (own_u10 i_1)) rfl ?_
    refine t_sipush 7 (r := 255) X0.here hx (hb hby d102) (by decide) rfl ?_
    refine t_iand 8 X0.here hx (hb hby d103) rfl rfl ?_
    refine t_i2c 9 (r := ((own_u10 i_1) &&& (255 : Int32))) X0.here hx (hb hby d104) (i2c_mask _) rfl ?_
    exact retN X0 hx (t := .char) hret (by simp) (hb hby d105) hr
def w34 (hw : HW Z a0) := ow 34 hw rfl
def w33 (hw : HW Z a0) := ow 33 hw rfl
theorem d106 : decode b0_ 50 = .ok (.castore, 1) := by decide +kernel
theorem d107 : decode b0_ 51 = .ok (.new 30, 3) := by decide +kernel
theorem d108 : decode b0_ 54 = .ok (.dup, 1) := by decide +kernel
theorem d109 : decode b0_ 55 = .ok (.aload_n 2, 1) := by decide +kernel
theorem d110 : decode b0_ 56 = .ok (.invokespecial 32, 3) := by decide +kernel
theorem d111 : decode b3_ 27 = .ok (.getstatic 38, 3) := by decide +kernel
theorem d112 : decode b3_ 30 = .ok (.ifCond .eq 28, 3) := by decide +kernel
theorem d113 : decode b3_ 33 = .ok (.aload_n 1, 1) := by decide +kernel
theorem d114 : decode b3_ 34 = .ok (.iload_n 2, 1) := by decide +kernel
theorem d115 : decode b3_ 35 = .ok (.iload_n 3, 1) := by decide +kernel
theorem d116 : decode b3_ 36 = .ok (.invokestatic 177, 3) := by decide +kernel
def w36 (hw : HW Z a0) := ow 36 hw rfl
abbrev b10_ := jdk_52_method_16_code
theorem d117 : decode b10_ 0 = .ok (.iload_n 2, 1) := by decide +kernel
theorem d118 : decode b10_ 1 = .ok (.newarray .byte, 2) := by decide +kernel
theorem d119 : decode b10_ 3 = .ok (.astore_n 3, 1) := by decide +kernel
theorem d120 : decode b10_ 4 = .ok (.aload_n 0, 1) := by decide +kernel
theorem d121 : decode b10_ 5 = .ok (.iload_n 1, 1) := by decide +kernel
theorem d122 : decode b10_ 6 = .ok (.aload_n 3, 1) := by decide +kernel
theorem d123 : decode b10_ 7 = .ok (.iconst 0, 1) := by decide +kernel
theorem d124 : decode b10_ 8 = .ok (.iload_n 2, 1) := by decide +kernel
theorem d125 : decode b10_ 9 = .ok (.invokestatic 115, 3) := by decide +kernel
def w40 (hw : HW Z a0) := ow 40 hw rfl
abbrev b11_ := jdk_52_method_21_code
theorem d126 : decode b11_ 0 = .ok (.iconst 0, 1) := by decide +kernel
theorem d127 : decode b11_ 1 = .ok (.istore 5, 2) := by decide +kernel
theorem d128 : decode b11_ 3 = .ok (.iload 5, 2) := by decide +kernel
theorem d129 : decode b11_ 5 = .ok (.iload 4, 2) := by decide +kernel
theorem d130 : decode b11_ 7 = .ok (.if_icmp .ge 37, 3) := by decide +kernel
theorem d131 : decode b11_ 10 = .ok (.aload_n 0, 1) := by decide +kernel
theorem d132 : decode b11_ 11 = .ok (.iload_n 1, 1) := by decide +kernel
theorem d133 : decode b11_ 12 = .ok (.caload, 1) := by decide +kernel
theorem d134 : decode b11_ 13 = .ok (.istore 6, 2) := by decide +kernel
theorem d135 : decode b11_ 15 = .ok (.iload 6, 2) := by decide +kernel
theorem d136 : decode b11_ 17 = .ok (.sipush 255, 3) := by decide +kernel
theorem d137 : decode b11_ 20 = .ok (.if_icmp .le 6, 3) := by decide +kernel
theorem d138 : decode b11_ 26 = .ok (.aload_n 2, 1) := by decide +kernel
theorem d139 : decode b11_ 27 = .ok (.iload_n 3, 1) := by decide +kernel
theorem d140 : decode b11_ 28 = .ok (.iload 6, 2) := by decide +kernel
theorem d141 : decode b11_ 30 = .ok (.i2b, 1) := by decide +kernel
theorem d142 : decode b11_ 31 = .ok (.bastore, 1) := by decide +kernel
theorem d143 : decode b11_ 32 = .ok (.iinc 1 1, 3) := by decide +kernel
theorem d144 : decode b11_ 35 = .ok (.iinc 3 1, 3) := by decide +kernel
theorem d145 : decode b11_ 38 = .ok (.iinc 5 1, 3) := by decide +kernel
theorem d146 : decode b11_ 41 = .ok (.goto (-38), 3) := by decide +kernel
theorem d147 : decode b11_ 44 = .ok (.iload 4, 2) := by decide +kernel
theorem d148 : decode b11_ 46 = .ok (.ireturn, 1) := by decide +kernel
theorem pn_StringUTF16906 : plainName "java/lang/StringUTF16" = true := by first | (simp [plainName, overriddenIn]; done) | decide +kernel
abbrev y10_compress : MethodName := ⟨"java/lang/StringUTF16", "compress", "([CI[BII)I"⟩
def WS_r13_compress (Z : State) (o2 : Addr) : List (Addr × Nat) := [(o2, (0 : Int32).toNatClampNeg), (o2, (1 : Int32).toNatClampNeg)]
def Q_r13_compress (Z : State) (o0 o2 : Addr) (i_1 i_2 : Int32) (k_o0 k_o2 : ClassId) (h0 : Heap) (n0 : Nat) (v : Option Value) (h : Heap) (L : List Loc) : Prop := v = some (.int 2) ∧ Fr n0 L ∧ KL h0 h (WS_r13_compress Z o2) ∧ Arv Z h o2 k_o2 .byte 2 [(.int (i_1.toInt8.toInt32)), (.int (i_2.toInt8.toInt32))] z0
theorem ef_r13_compress (o0 o2 : Addr) (m : MethodId) : entryFrame m #[(.ref o0), (.int 0), (.ref o2), (.int 0), (.int 2)] 7 = mkF m 0 #[.val (.ref o0), .val (.int 0), .val (.ref o2), .val (.int 0), .val (.int 2), .unset, .unset] [] := by first | (simp [entryFrame, mkF, argsToLocals, Value.category]; done) | rfl
set_option maxRecDepth 65536 in
set_option maxHeartbeats 40000000 in
theorem r13_compress (l : Launch) (Z : State) (a0 : Array Value) (hw : HW Z a0) (ws : List Jvm.Cond) (o0 o2 : Addr) (i_1 i_2 : Int32) (k_o0 k_o2 : ClassId) (h0 : Heap) (n0 : Nat) (Z0 : n0 ≤ h0.size) (V_o0 : Arv Z h0 o0 k_o0 .char 2 [(.int i_1), (.int i_2)] z0) (hp0 : ¬ ((255 : Int32) < i_1)) (V_o2 : Arv Z h0 o2 k_o2 .byte 2 [z0, z0] z0) (g_o2 : n0 ≤ o2) (ne_o0_o2 : o0 ≠ o2) (hp1 : ¬ ((255 : Int32) < i_2)) :
    MF l Z y10_compress b11_ 7 (some .int) ws ⟨0, 0, 0, 0⟩ #[(.ref o0), z0, (.ref o2), z0, (.int 2)] h0 (Q_r13_compress Z o0 o2 i_1 i_2 k_o0 k_o2 h0 n0) := by
  refine own_body (plainFor_of_name pn_StringUTF16906) (ef_r13_compress o0 o2) (by decide) (by decide) ?_
  intro p e s m below meth c s₁ hx hby hml hown hnm hret hZ hh e0 X0
  have N0 := Fr.nil n0
  obtain ⟨T3, h3, X3, e3, W3, V3, st3⟩ := own_astB X0 hx hZ e0 V_o2 (j := 0) (by decide) 0 rfl (Nat.le_of_ble_eq_true rfl) (g := (mkF m 31 #[vr o0, vi 0, vr o2, vi 0, vi 2, vi 0, vi i_1] [(.int (i_1.toInt8.toInt32)), z0, (.ref o2)])) rfl rfl (hb hby d142)
  rw [show (nar .byte (i_1.toInt8.toInt32)) = (i_1.toInt8.toInt32) from (own_narb _)] at V3
  have K3 := KL.ofW W3
  replace V3 : Arv Z h3 o2 k_o2 .byte 2 [(.int (i_1.toInt8.toInt32)), z0] z0 := V3
  have N3 := Fr.snoc X3 N0 g_o2
  have f4 := (kArv K3 V_o0 (naN (Ne.symm ne_o0_o2) na0))
  obtain ⟨T5, h5, X5, e5, W5, V5, st5⟩ := own_astB X3 hx hZ e3 V3 (j := 1) (by decide) 1 rfl (Nat.le_of_ble_eq_true rfl) (g := (mkF m 31 #[vr o0, vi 1, vr o2, vi 1, vi 2, vi 1, vi i_2] [(.int (i_2.toInt8.toInt32)), (.int 1), (.ref o2)])) rfl rfl (hb hby d142)
  rw [show (nar .byte (i_2.toInt8.toInt32)) = (i_2.toInt8.toInt32) from (own_narb _)] at V5
  have K5 := KL.ofW W5
  replace V5 : Arv Z h5 o2 k_o2 .byte 2 [(.int (i_1.toInt8.toInt32)), (.int (i_2.toInt8.toInt32))] z0 := V5
  have N5 := Fr.snoc X5 N3 g_o2
  -- what was kept, from the start on
  have C0 := (KL.refl h0 (WS_r13_compress Z o2)).trans K3 (naO (own_mi 0 rfl) na0)
  have C1 := C0.trans K5 (naO (own_mi 1 rfl) na0)
  refine ⟨T5, _, some (.int 2), X5, (fun h => by cases h <;> rfl), ?_, fun fs hr => ?_⟩
  · show Q_r13_compress Z o0 o2 i_1 i_2 k_o0 k_o2 h0 n0 _ T5.heap _
    rw [e5]
    exact ⟨rfl, N5, C1, V5⟩
  · refine t_iconst 1 (r := 0) X0.here hx (hb hby d126) (by decide) rfl ?_
    refine t_istore (pc' := 3) (L' := #[vr o0, vi 0, vr o2, vi 0, vi 2, vi 0, .unset]) X0.here hx (hb hby d127) rfl rfl ?_
    refine t_iload 5 X0.here hx (hb hby d128) rfl rfl ?_
    refine t_iload 7 X0.here hx (hb hby d129) rfl rfl ?_
    refine t_icmpNo 10 X0.here hx (hb hby d130) (by decide) rfl ?_
    refine t_aloadN 11 X0.here hx (hb hby d131) rfl rfl rfl ?_
    refine t_iloadN 12 X0.here hx (hb hby d132) rfl rfl ?_
    refine own_aldC (pc' := 13) X0 hx hZ e0 V_o0 (j := 0) (v := (.int i_1)) (by decide) rfl (hb hby d133) rfl ?_
    refine t_istore (pc' := 15) (L' := #[vr o0, vi 0, vr o2, vi 0, vi 2, vi 0, vi i_1]) X0.here hx (hb hby d134) rfl rfl ?_
    refine t_iload 17 X0.here hx (hb hby d135) rfl rfl ?_
    refine t_sipush 20 (r := 255) X0.here hx (hb hby d136) (by decide) rfl ?_
    refine t_icmpYes (pc := 20) 26 X0.here hx (hb hby d137) (flt hp0).2.2.2 (by decide) (by decide) ?_
    refine t_aloadN 27 X0.here hx (hb hby d138) rfl rfl rfl ?_
    refine t_iloadN 28 X0.here hx (hb hby d139) rfl rfl ?_
    refine t_iload 30 X0.here hx (hb hby d140) rfl rfl ?_
    refine t_i2b 31 X0.here hx (hb hby d141) rfl rfl ?_
    refine st3 _ ?_
    refine t_iinc (pc' := 35) (L' := #[vr o0, vi 1, vr o2, vi 0, vi 2, vi 0, vi i_1]) X3.here hx (hb hby d143) rfl (by first | rfl | decide) rfl ?_
    refine t_iinc (pc' := 38) (L' := #[vr o0, vi 1, vr o2, vi 1, vi 2, vi 0, vi i_1]) X3.here hx (hb hby d144) rfl (by first | rfl | decide) rfl ?_
    refine t_iinc (pc' := 41) (L' := #[vr o0, vi 1, vr o2, vi 1, vi 2, vi 1, vi i_1]) X3.here hx (hb hby d145) rfl (by first | rfl | decide) rfl ?_
    refine t_goto (pc := 41) 3 X3.here hx (hb hby d146) (by decide) (by decide) ?_
    refine t_iload 5 X3.here hx (hb hby d128) rfl rfl ?_
    refine t_iload 7 X3.here hx (hb hby d129) rfl rfl ?_
    refine t_icmpNo 10 X3.here hx (hb hby d130) (by decide) rfl ?_
    refine t_aloadN 11 X3.here hx (hb hby d131) rfl rfl rfl ?_
    refine t_iloadN 12 X3.here hx (hb hby d132) rfl rfl ?_
    refine own_aldC (pc' := 13) X3 hx hZ e3 f4 (j := 1) (v := (.int i_2)) (by decide) rfl (hb hby d133) rfl ?_
    refine t_istore (pc' := 15) (L' := #[vr o0, vi 1, vr o2, vi 1, vi 2, vi 1, vi i_2]) X3.here hx (hb hby d134) rfl rfl ?_
    refine t_iload 17 X3.here hx (hb hby d135) rfl rfl ?_
    refine t_sipush 20 (r := 255) X3.here hx (hb hby d136) (by decide) rfl ?_
    refine t_icmpYes (pc := 20) 26 X3.here hx (hb hby d137) (flt hp1).2.2.2 (by decide) (by decide) ?_
    refine t_aloadN 27 X3.here hx (hb hby d138) rfl rfl rfl ?_
    refine t_iloadN 28 X3.here hx (hb hby d139) rfl rfl ?_
    refine t_iload 30 X3.here hx (hb hby d140) rfl rfl ?_
    refine t_i2b 31 X3.here hx (hb hby d141) rfl rfl ?_
    refine st5 _ ?_
    refine t_iinc (pc' := 35) (L' := #[vr o0, vi 2, vr o2, vi 1, vi 2, vi 1, vi i_2]) X5.here hx (hb hby d143) rfl (by first | rfl | decide) rfl ?_
    refine t_iinc (pc' := 38) (L' := #[vr o0, vi 2, vr o2, vi 2, vi 2, vi 1, vi i_2]) X5.here hx (hb hby d144) rfl (by first | rfl | decide) rfl ?_
    refine t_iinc (pc' := 41) (L' := #[vr o0, vi 2, vr o2, vi 2, vi 2, vi 2, vi i_2]) X5.here hx (hb hby d145) rfl (by first | rfl | decide) rfl ?_
    refine t_goto (pc := 41) 3 X5.here hx (hb hby d146) (by decide) (by decide) ?_
    refine t_iload 5 X5.here hx (hb hby d128) rfl rfl ?_
    refine t_iload 7 X5.here hx (hb hby d129) rfl rfl ?_
    refine t_icmpYes (pc := 7) 44 X5.here hx (hb hby d130) (by decide) (by decide) (by decide) ?_
    refine t_iload 46 X5.here hx (hb hby d147) rfl rfl ?_
    exact retI X5 hx hret (hb hby d148) hr
def w42 (hw : HW Z a0) := ow 42 hw rfl
def w38 (hw : HW Z a0) := ow 38 hw rfl
theorem pd_8 : parseMethodDescriptor "([CI[BII)I" = some ⟨[(.array .char), .int, (.array .byte), .int, .int], some .int⟩ := by decide +kernel
def w41 (hw : HW Z a0) := ow 41 hw rfl
theorem d149 : decode b10_ 12 = .ok (.istore 4, 2) := by decide +kernel
theorem d150 : decode b10_ 14 = .ok (.iload 4, 2) := by decide +kernel
theorem d151 : decode b10_ 16 = .ok (.iload_n 2, 1) := by decide +kernel
theorem d152 : decode b10_ 17 = .ok (.if_icmp .eq 40, 3) := by decide +kernel
theorem d153 : decode b10_ 57 = .ok (.aload_n 3, 1) := by decide +kernel
theorem d154 : decode b10_ 58 = .ok (.areturn, 1) := by decide +kernel
abbrev y11_compress : MethodName := ⟨"java/lang/StringUTF16", "compress", "([CII)[B"⟩
def Q_r12_compress (Z : State) (o0 : Addr) (i_2 i_3 : Int32) (k_o0 : ClassId) (h0 : Heap) (n0 : Nat) (v : Option Value) (h : Heap) (L : List Loc) : Prop := ∃ b1 : Addr, ∃ k1 : ClassId, v = some (.ref b1) ∧ Fr n0 L ∧ KL h0 h [] ∧ h0.size ≤ b1 ∧ Arv Z h b1 k1 .byte 2 [(.int (i_2.toInt8.toInt32)), (.int (i_3.toInt8.toInt32))] z0
theorem ef_r12_compress (o0 : Addr) (m : MethodId) : entryFrame m #[(.ref o0), (.int 0), (.int 2)] 6 = mkF m 0 #[.val (.ref o0), .val (.int 0), .val (.int 2), .unset, .unset, .unset] [] := by first | (simp [entryFrame, mkF, argsToLocals, Value.category]; done) | rfl
set_option maxRecDepth 65536 in
set_option maxHeartbeats 40000000 in
theorem r12_compress (l : Launch) (Z : State) (a0 : Array Value) (hw : HW Z a0) (ws : List Jvm.Cond) (o0 : Addr) (i_2 i_3 : Int32) (k_o0 : ClassId) (h0 : Heap) (n0 : Nat) (Z0 : n0 ≤ h0.size) (V_o0 : Arv Z h0 o0 k_o0 .char 2 [(.int i_2), (.int i_3)] z0) (hp0 : ¬ ((255 : Int32) < i_2)) (hp1 : ¬ ((255 : Int32) < i_3)) :
    MF l Z y11_compress b10_ 6 (some (.array .byte)) ws ⟨1, 1, 2, 18⟩ #[(.ref o0), z0, (.int 2)] h0 (Q_r12_compress Z o0 i_2 i_3 k_o0 h0 n0) := by
  refine own_body (plainFor_of_name pn_StringUTF16906) (ef_r12_compress o0) (by decide) (by decide) ?_
  intro p e s m below meth c s₁ hx hby hml hown hnm hret hZ hh e0 X0
  have N0 := Fr.nil n0
  obtain ⟨T1, h1, k1, X1, e1, E1, A1, st1⟩ := newP (aty := .byte) X0 hx hZ (w22 hw) e0 (g := (mkF m 1 #[vr o0, vi 0, vi 2, .unset, .unset, .unset] [(.int 2)])) rfl (hb hby d118) rfl (by decide) (cap := 2) (by decide) (by decide) (by decide) (by decide)
  obtain ⟨b1, g1⟩ : ∃ z, z = h0.size := ⟨_, rfl⟩
  rw [← g1] at A1 st1
  have ge_b1 : h0.size ≤ b1 := Nat.le_of_eq g1.symm
  have K1 := KL.ofE E1
  have V1 : Arv Z h1 b1 k1 .byte 2 [z0, z0] z0 := (Arv.new A1 (by decide)).pad (pad_rep [] z0 2)
  have f5 := (kArv K1 V_o0 na0)
  have lt_o0 : o0 < h0.size := Arv.lt V_o0
  obtain ⟨_, T4, L4, X4, hQ4, st4⟩ := own_static X1 hx hZ hown (w40 hw) (w41 hw) (w38 hw) (w42 hw) (by decide) (r13_compress l Z a0 hw [] o0 b1 i_2 i_3 k_o0 k1 h1 n0 (Nat.le_trans Z0 K1.1) f5 hp0 V1 (Nat.le_trans Z0 (Nat.le_trans (Nat.le_refl _) ge_b1)) (lt_ne lt_o0 ge_b1) hp1) e1 (W := 0) (by decide) (g := (mkF m 9 #[vr o0, vi 0, vi 2, vr b1, .unset, .unset] [(.int 2), z0, (.ref b1), z0, (.ref o0)])) rfl (by rw [hml]; rfl) (argsL := [(.ref o0), z0, (.ref b1), z0, (.int 2)]) (rest := []) (lenOf pd_8 rfl) rfl rfl (own_wr rfl rfl) (hb hby d125)
  obtain ⟨rfl, N4q, K4, Q4_0⟩ := hQ4
  have N4 := Fr.app N0 N4q
  -- what was kept, from the start on
  have C0 := (KL.refl h0 []).trans K1 na0
  have C1 := C0.trans K4 (naO (Or.inr (Nat.le_trans (Nat.le_refl _) ge_b1)) (naO (Or.inr (Nat.le_trans (Nat.le_refl _) ge_b1)) na0))
  refine ⟨T4, _, some (.ref b1), X4, (fun h => by cases h <;> rfl), ?_, fun fs hr => ?_⟩
  · show Q_r12_compress Z o0 i_2 i_3 k_o0 h0 n0 _ T4.heap _
    exact ⟨b1, k1, rfl, N4, C1, (Nat.le_trans (Nat.le_refl _) ge_b1), Q4_0⟩
  · refine t_iloadN 1 X0.here hx (hb hby d117) rfl rfl ?_
    refine st1 _ ?_
    refine t_astoreN (pc' := 4) (L' := #[vr o0, vi 0, vi 2, vr b1, .unset, .unset]) X1.here hx (hb hby d119) rfl rfl rfl ?_
    refine t_aloadN 5 X1.here hx (hb hby d120) rfl rfl rfl ?_
    refine t_iloadN 6 X1.here hx (hb hby d121) rfl rfl ?_
    refine t_aloadN 7 X1.here hx (hb hby d122) rfl rfl rfl ?_
    refine t_iconst 8 (r := 0) X1.here hx (hb hby d123) (by decide) rfl ?_
    refine t_iloadN 9 X1.here hx (hb hby d124) rfl rfl ?_
    refine st4 _ ?_
    refine t_istore (pc' := 14) (L' := #[vr o0, vi 0, vi 2, vr b1, vi 2, .unset]) X4.here hx (hb hby d149) rfl rfl ?_
    refine t_iload 16 X4.here hx (hb hby d150) rfl rfl ?_
    refine t_iloadN 17 X4.here hx (hb hby d151) rfl rfl ?_
    refine t_icmpYes (pc := 17) 57 X4.here hx (hb hby d152) (by decide) (by decide) (by decide) ?_
    refine t_aloadN 58 X4.here hx (hb hby d153) rfl rfl rfl ?_
    jvm_step X4.here [X4.here.top, hx, (hb hby d154), X4.method', hret, Value.isRef, FieldType.isReference]
    first | (intro acts; rw [hr _ acts rfl rfl rfl]) | rw [hr _ _ rfl rfl rfl]
    exact Steps.refl _
def w39 (hw : HW Z a0) := ow 39 hw rfl
theorem pd_9 : parseMethodDescriptor "([CII)[B" = some ⟨[(.array .char), .int, .int], some (.array .byte)⟩ := by decide +kernel
def w37 (hw : HW Z a0) := ow 37 hw rfl
theorem d155 : decode b3_ 39 = .ok (.astore 5, 2) := by decide +kernel
theorem d156 : decode b3_ 41 = .ok (.aload_n 0, 1) := by decide +kernel
theorem d157 : decode b3_ 42 = .ok (.aload 5, 2) := by decide +kernel
theorem d158 : decode b3_ 44 = .ok (.iload_n 3, 1) := by decide +kernel
theorem d159 : decode b3_ 45 = .ok (.invokestatic 47, 3) := by decide +kernel
def w43 (hw : HW Z a0) := ow 43 hw rfl
abbrev b12_ := jdk_52_method_15_code
theorem d160 : decode b12_ 0 = .ok (.iload_n 1, 1) := by decide +kernel
theorem d161 : decode b12_ 1 = .ok (.aload_n 0, 1) := by decide +kernel
theorem d162 : decode b12_ 2 = .ok (.arraylength, 1) := by decide +kernel
theorem d163 : decode b12_ 3 = .ok (.isub, 1) := by decide +kernel
theorem d164 : decode b12_ 4 = .ok (.bipush 31, 2) := by decide +kernel
theorem d165 : decode b12_ 6 = .ok (.iushr, 1) := by decide +kernel
theorem d166 : decode b12_ 7 = .ok (.i2b, 1) := by decide +kernel
theorem d167 : decode b12_ 8 = .ok (.ireturn, 1) := by decide +kernel
abbrev y12_coderFromArrayLen : MethodName := ⟨"java/lang/StringUTF16", "coderFromArrayLen", "([BI)B"⟩
def Q_r14_coderFromArrayLen (Z : State) (o0 : Addr) (i_1 i_2 : Int32) (k_o0 : ClassId) (h0 : Heap) (n0 : Nat) (v : Option Value) (h : Heap) (L : List Loc) : Prop := v = some z0 ∧ Fr n0 L ∧ h = h0
theorem ef_r14_coderFromArrayLen (o0 : Addr) (m : MethodId) : entryFrame m #[(.ref o0), (.int 2)] 2 = mkF m 0 #[.val (.ref o0), .val (.int 2)] [] := by first | (simp [entryFrame, mkF, argsToLocals, Value.category]; done) | rfl
set_option maxRecDepth 65536 in
set_option maxHeartbeats 40000000 in
theorem r14_coderFromArrayLen (l : Launch) (Z : State) (a0 : Array Value) (hw : HW Z a0) (ws : List Jvm.Cond) (o0 : Addr) (i_1 i_2 : Int32) (k_o0 : ClassId) (h0 : Heap) (n0 : Nat) (Z0 : n0 ≤ h0.size) (V_o0 : Arv Z h0 o0 k_o0 .byte 2 [(.int i_1), (.int i_2)] z0) :
    MF l Z y12_coderFromArrayLen b12_ 2 (some .byte) ws ⟨0, 0, 0, 0⟩ #[(.ref o0), (.int 2)] h0 (Q_r14_coderFromArrayLen Z o0 i_1 i_2 k_o0 h0 n0) := by
  refine own_body (plainFor_of_name pn_StringUTF16906) (ef_r14_coderFromArrayLen o0) (by decide) (by decide) ?_
  intro p e s m below meth c s₁ hx hby hml hown hnm hret hZ hh e0 X0
  have N0 := Fr.nil n0
  refine ⟨s₁, _, some z0, X0, (fun h => by cases h <;> rfl), ?_, fun fs hr => ?_⟩
  · show Q_r14_coderFromArrayLen Z o0 i_1 i_2 k_o0 h0 n0 _ s₁.heap _
    rw [e0]
    exact ⟨rfl, N0, rfl⟩
  · refine t_iloadN 1 X0.here hx (hb hby d160) rfl rfl ?_
    refine t_aloadN 2 X0.here hx (hb hby d161) rfl rfl rfl ?_
    refine own_arlen (pc' := 3) X0 hx hZ e0 V_o0 (hb hby d162) rfl ?_
    refine t_isub 4 (r := 0) X0.here hx (hb hby d163) (by decide : ((2 : Int32) - (2 : Int32)) = (0 : Int32)) rfl ?_
    refine t_bipush 6 (r := 31) X0.here hx (hb hby d164) (by decide) rfl ?_
    refine t_iushr 7 (r := 0) X0.here hx (hb hby d165) (by decide : (((0 : Int32).toUInt32 >>> ((31 : Int32) &&& 31).toUInt32).toInt32) = (0 : Int32)) rfl ?_
    refine t_i2b 8 (r := 0) X0.here hx (hb hby d166) (by decide : ((0 : Int32).toInt8.toInt32) = (0 : Int32)) rfl ?_
    exact retN X0 hx (t := .byte) hret (by simp) (hb hby d167) hr
def w45 (hw : HW Z a0) := ow 45 hw rfl
theorem pd_10 : parseMethodDescriptor "([BI)B" = some ⟨[(.array .byte), .int], some .byte⟩ := by decide +kernel
def w44 (hw : HW Z a0) := ow 44 hw rfl
theorem d168 : decode b3_ 48 = .ok (.putfield 15, 3) := by decide +kernel
theorem d169 : decode b3_ 51 = .ok (.aload_n 0, 1) := by decide +kernel
theorem d170 : decode b3_ 52 = .ok (.aload 5, 2) := by decide +kernel
theorem d171 : decode b3_ 54 = .ok (.putfield 9, 3) := by decide +kernel
theorem d172 : decode b3_ 57 = .ok (.return_, 1) := by decide +kernel
def WS_r11__init_ (Z : State) (o0 : Addr) : List (Addr × Nat) := [(o0, (sl1 Z)), (o0, (sl0 Z))]
def Q_r11__init_ (Z : State) (o0 o1 : Addr) (i_2 i_4 i_5 : Int32) (k_o1 : ClassId) (h0 : Heap) (n0 : Nat) (v : Option Value) (h : Heap) (L : List Loc) : Prop := ∃ b1_6 : Addr, ∃ k1_6 : ClassId, v = none ∧ Fr n0 L ∧ KL h0 h (WS_r11__init_ Z o0) ∧ h0.size ≤ b1_6 ∧ Fd1 Z h o0 z0 ∧ Fd0 Z h o0 (.ref b1_6) ∧ Arv Z h b1_6 k1_6 .byte 2 [(.int (i_4.toInt8.toInt32)), (.int (i_5.toInt8.toInt32))] z0
theorem ef_r11__init_ (o0 o1 : Addr) (m : MethodId) : entryFrame m #[(.ref o0), (.ref o1), (.int 0), (.int 2), .null] 6 = mkF m 0 #[.val (.ref o0), .val (.ref o1), .val (.int 0), .val (.int 2), .val .null, .unset] [] := by first | (simp [entryFrame, mkF, argsToLocals, Value.category]; done) | rfl
set_option maxRecDepth 65536 in
set_option maxHeartbeats 40000000 in
theorem r11__init_ (l : Launch) (Z : State) (a0 : Array Value) (hw : HW Z a0) (ws : List Jvm.Cond) (o0 o1 : Addr) (i_2 i_4 i_5 : Int32) (k_o1 : ClassId) (h0 : Heap) (n0 : Nat) (Z0 : n0 ≤ h0.size) (S_COMPACT_STRINGS : SCS Z i_2) (O0 : Old Z n0 h0) (hp0 : ¬ (i_2 = (0 : Int32))) (V_o1 : Arv Z h0 o1 k_o1 .char 2 [(.int i_4), (.int i_5)] z0) (hp1 : ¬ ((255 : Int32) < i_4)) (hp2 : ¬ ((255 : Int32) < i_5)) (F_o0_coder : Fd1 Z h0 o0 z0) (E_o0 : Ex0 Z h0 o0) (g_o0 : n0 ≤ o0) (F_o0_value : Fd0 Z h0 o0 .null) :
    MF l Z y1__init_ b3_ 6 none ws ⟨2, 1, 2, 35⟩ #[(.ref o0), (.ref o1), z0, (.int 2), .null] h0 (Q_r11__init_ Z o0 o1 i_2 i_4 i_5 k_o1 h0 n0) := by
  refine own_body (plainFor_of_name pn_String564) (ef_r11__init_ o0 o1) (by decide) (by decide) ?_
  intro p e s m below meth c s₁ hx hby hml hown hnm hret hZ hh e0 X0
  have N0 := Fr.nil n0
  obtain ⟨T1, X1, e1, st1⟩ := initO X0 hx hZ hown (w18 hw) (w19 hw) (w20 hw) e0 (g := (mkF m 1 #[vr o0, vr o1, vi 0, vi 2, .val .null, .unset] [(.ref o0)])) rfl (by rw [hml]; rfl) rfl (hb hby d24) (by decide) (W := 0) (by show 2 * 0 + _ ≤ _; exact Nat.le_of_eq rfl) (by decide)
  obtain ⟨T3, X3, e3, st3⟩ := getS2 X1 hx hZ hown (host := "") (Or.inl (w35 hw)) Via.refl e1 (Sta.ext O0.2 S_COMPACT_STRINGS) (g := (mkF m 27 #[vr o0, vr o1, vi 0, vi 2, .val .null, .unset] [])) rfl (hb hby d111)
  obtain ⟨_, T6, L6, X6, hQ6, st6⟩ := own_static X3 hx hZ hown (w36 hw) (w37 hw) (w38 hw) (w39 hw) (by decide) (r12_compress l Z a0 hw [] o1 i_4 i_5 k_o1 h0 n0 Z0 V_o1 hp1 hp2) e3 (W := 0) (by decide) (g := (mkF m 36 #[vr o0, vr o1, vi 0, vi 2, .val .null, .unset] [(.int 2), z0, (.ref o1)])) rfl (by rw [hml]; rfl) (argsL := [(.ref o1), z0, (.int 2)]) (rest := []) (lenOf pd_9 rfl) rfl rfl (own_wr rfl rfl) (hb hby d116)
  obtain ⟨b1_6, k1_6, rfl, N6q, K6, Q6_0, Q6_1⟩ := hQ6
  have N6 := Fr.app N0 N6q
  obtain ⟨_, T8, L8, X8, hQ8, st8⟩ := own_static X6 hx hZ hown (w43 hw) (w44 hw) (w38 hw) (w45 hw) (by decide) (r14_coderFromArrayLen l Z a0 hw [] b1_6 (i_4.toInt8.toInt32) (i_5.toInt8.toInt32) k1_6 T6.heap n0 (Nat.le_trans Z0 K6.1) Q6_1) rfl (W := 1) (by decide) (g := (mkF m 45 #[vr o0, vr o1, vi 0, vi 2, .val .null, vr b1_6] [(.int 2), (.ref b1_6), (.ref o0)])) rfl (by rw [hml]; rfl) (argsL := [(.ref b1_6), (.int 2)]) (rest := [(.ref o0)]) (lenOf pd_10 rfl) rfl rfl (own_wr rfl rfl) (hb hby d159)
  obtain ⟨rfl, N8q, e8⟩ := hQ8
  have N8 := Fr.app N6 N8q
  have f9 := (kFld K6 F_o0_coder nw0)
  have f10 := (kExa K6 E_o0)
  obtain ⟨T11, h11, X11, e11, W11, st11⟩ := putF X8 hx hZ hown (host := "") (Or.inl (w28 hw)) Via.refl e8 f9 f10 (Or.inr ⟨(w24 hw), rfl, hnm⟩) (w8 hw) (ty := .byte) (by decide) (by decide) (by decide) (g := (mkF m 48 #[vr o0, vr o1, vi 0, vi 2, .val .null, vr b1_6] [z0, (.ref o0)])) rfl rfl (hb hby d168)
  have K11 := KL.ofW W11
  have Fw11 : Fd1 Z h11 o0 z0 := Fld.same W11 f9
  have N11 := Fr.snoc X11 N8 g_o0
  have f12 := (kFld K11 (kFld K6 F_o0_value nw0) (nwS (Or.inr (sn_1 hw)) nw0))
  have f13 := (kExa K11 f10)
  obtain ⟨T14, h14, X14, e14, W14, st14⟩ := putF X11 hx hZ hown (host := "") (Or.inl (w27 hw)) Via.refl e11 f12 f13 (Or.inr ⟨(w23 hw), rfl, hnm⟩) (w8 hw) (ty := (.array .byte)) (by decide) rfl rfl (g := (mkF m 54 #[vr o0, vr o1, vi 0, vi 2, .val .null, vr b1_6] [(.ref b1_6), (.ref o0)])) rfl rfl (hb hby d171)
  have K14 := KL.ofW W14
  have Fw14 : Fd0 Z h14 o0 (.ref b1_6) := Fld.same W14 f12
  have N14 := Fr.snoc X14 N11 g_o0
  -- what was kept, from the start on
  have C0 := (KL.refl h0 (WS_r11__init_ Z o0)).trans K6 na0
  have C1 := C0.trans K11 (naO (own_mi 0 rfl) na0)
  have C2 := C1.trans K14 (naO (own_mi 1 rfl) na0)
  have f15 := (kFld K14 Fw11 (nwS (Or.inr (sn_0 hw)) nw0))
  have lt_o0 : o0 < h0.size := Fld.lt F_o0_coder
  have f16 := (kArv K14 (kArv K11 Q6_1 (naN (lt_ne lt_o0 Q6_0) na0)) (naN (lt_ne lt_o0 Q6_0) na0))
  refine ⟨T14, _, none, X14, (fun h => by cases h <;> rfl), ?_, fun fs hr => ?_⟩
  · show Q_r11__init_ Z o0 o1 i_2 i_4 i_5 k_o1 h0 n0 _ T14.heap _
    rw [e14]
    exact ⟨b1_6, k1_6, rfl, N14, C2, (Nat.le_trans (Nat.le_refl _) Q6_0), f15, Fw14, f16⟩
  · refine t_aloadN 1 X0.here hx (hb hby d23) rfl rfl rfl ?_
    refine st1 _ ?_
    refine t_iloadN 5 X1.here hx (hb hby d25) rfl rfl ?_
    refine t_ifYes (pc := 5) 27 X1.here hx (hb hby d26) (by decide) (by decide) (by decide) ?_
    refine st3 _ ?_
    refine t_ifNo 33 X3.here hx (hb hby d112) ((if0 _ _).trans (feq hp0).1) rfl ?_
    refine t_aloadN 34 X3.here hx (hb hby d113) rfl rfl rfl ?_
    refine t_iloadN 35 X3.here hx (hb hby d114) rfl rfl ?_
    refine t_iloadN 36 X3.here hx (hb hby d115) rfl rfl ?_
    refine st6 _ ?_
    refine t_astore (pc' := 41) (L' := #[vr o0, vr o1, vi 0, vi 2, .val .null, vr b1_6]) X6.here hx (hb hby d155) rfl rfl rfl ?_
    refine t_aloadN 42 X6.here hx (hb hby d156) rfl rfl rfl ?_
    refine t_aload 44 X6.here hx (hb hby d157) rfl rfl rfl ?_
    refine t_iloadN 45 X6.here hx (hb hby d158) rfl rfl ?_
    refine st8 _ ?_
    refine st11 _ ?_
    refine t_aloadN 52 X11.here hx (hb hby d169) rfl rfl rfl ?_
    refine t_aload 54 X11.here hx (hb hby d170) rfl rfl rfl ?_
    refine st14 _ ?_
    exact X14.returnOut hx hret (hb hby d172) hr
def WS_r10__init_ (Z : State) (o0 : Addr) : List (Addr × Nat) := [(o0, (sl1 Z)), (o0, (sl0 Z))]
def Q_r10__init_ (Z : State) (o0 o1 : Addr) (i_1 i_2 : Int32) (k_o1 : ClassId) (i_3 : Int32) (h0 : Heap) (n0 : Nat) (v : Option Value) (h : Heap) (L : List Loc) : Prop := ∃ b1_6_4 : Addr, ∃ k1_6_4 : ClassId, v = none ∧ Fr n0 L ∧ KL h0 h (WS_r10__init_ Z o0) ∧ h0.size ≤ b1_6_4 ∧ Fd1 Z h o0 z0 ∧ Fd0 Z h o0 (.ref b1_6_4) ∧ Arv Z h b1_6_4 k1_6_4 .byte 2 [(.int (i_1.toInt8.toInt32)), (.int (i_2.toInt8.toInt32))] z0
theorem ef_r10__init_ (o0 o1 : Addr) (m : MethodId) : entryFrame m #[(.ref o0), (.ref o1)] 2 = mkF m 0 #[.val (.ref o0), .val (.ref o1)] [] := by first | (simp [entryFrame, mkF, argsToLocals, Value.category]; done) | rfl
set_option maxRecDepth 65536 in
set_option maxHeartbeats 40000000 in
theorem r10__init_ (l : Launch) (Z : State) (a0 : Array Value) (hw : HW Z a0) (ws : List Jvm.Cond) (o0 o1 : Addr) (i_1 i_2 : Int32) (k_o1 : ClassId) (i_3 : Int32) (h0 : Heap) (n0 : Nat) (Z0 : n0 ≤ h0.size) (V_o1 : Arv Z h0 o1 k_o1 .char 2 [(.int i_1), (.int i_2)] z0) (S_COMPACT_STRINGS : SCS Z i_3) (F_o0_coder : Fd1 Z h0 o0 z0) (E_o0 : Ex0 Z h0 o0) (F_o0_value : Fd0 Z h0 o0 .null) (O0 : Old Z n0 h0) (hp0 : ¬ (i_3 = (0 : Int32))) (hp1 : ¬ ((255 : Int32) < i_1)) (hp2 : ¬ ((255 : Int32) < i_2)) (g_o0 : n0 ≤ o0) :
    MF l Z y2__init_ b2_ 2 none ws ⟨3, 1, 2, 52⟩ #[(.ref o0), (.ref o1)] h0 (Q_r10__init_ Z o0 o1 i_1 i_2 k_o1 i_3 h0 n0) := by
  refine own_body (plainFor_of_name pn_String564) (ef_r10__init_ o0 o1) (by decide) (by decide) ?_
  intro p e s m below meth c s₁ hx hby hml hown hnm hret hZ hh e0 X0
  have N0 := Fr.nil n0
  obtain ⟨_, T4, L4, X4, hQ4, st4⟩ := own_init X0 hx hZ rfl hown (w14 hw) (w15 hw) (w9 hw) (w17 hw) (by decide) (r11__init_ l Z a0 hw [] o0 o1 i_3 i_1 i_2 k_o1 h0 n0 Z0 S_COMPACT_STRINGS O0 hp0 V_o1 hp1 hp2 F_o0_coder E_o0 g_o0 F_o0_value) e0 (W := 0) (by decide) (g := (mkF m 6 #[vr o0, vr o1] [.null, (.int 2), z0, (.ref o1), (.ref o0)])) rfl (by rw [hml]; rfl) (argsL := [(.ref o1), z0, (.int 2), .null]) (rest := []) (lenOf pd_1 rfl) rfl rfl (own_wr rfl rfl) (hb hby d22)
  obtain ⟨b1_6_4, k1_6_4, rfl, N4q, K4, Q4_0, Q4_1, Q4_2, Q4_3⟩ := hQ4
  have N4 := Fr.app N0 N4q
  -- what was kept, from the start on
  have C0 := (KL.refl h0 (WS_r10__init_ Z o0)).trans K4 (naO (own_mi 0 rfl) (naO (own_mi 1 rfl) na0))
  refine ⟨T4, _, none, X4, (fun h => by cases h <;> rfl), ?_, fun fs hr => ?_⟩
  · show Q_r10__init_ Z o0 o1 i_1 i_2 k_o1 i_3 h0 n0 _ T4.heap _
    exact ⟨b1_6_4, k1_6_4, rfl, N4, C0, (Nat.le_trans (Nat.le_refl _) Q4_0), Q4_1, Q4_2, Q4_3⟩
  · refine t_aloadN 1 X0.here hx (hb hby d16) rfl rfl rfl ?_
    refine t_aloadN 2 X0.here hx (hb hby d17) rfl rfl rfl ?_
    refine t_iconst 3 (r := 0) X0.here hx (hb hby d18) (by decide) rfl ?_
    refine t_aloadN 4 X0.here hx (hb hby d19) rfl rfl rfl ?_
    refine own_arlen (pc' := 5) X0 hx hZ e0 V_o1 (hb hby d20) rfl ?_
    refine t_aconst_null 6 X0.here hx (hb hby d21) rfl ?_
    refine st4 _ ?_
    exact X4.returnOut hx hret (hb hby d36) hr
theorem d173 : decode b0_ 59 = .ok (.areturn, 1) := by decide +kernel
def Q_r_str2 (Z : State) (p0 cs : Int32) (h0 : Heap) (n0 : Nat) (v : Option Value) (h : Heap) (L : List Loc) : Prop := ∃ b7 : Addr, ∃ b1_6_4_8 : Addr, ∃ k1_6_4_8 : ClassId, v = some (.ref b7) ∧ Fr n0 L ∧ KL h0 h [] ∧ h0.size ≤ b7 ∧ h0.size ≤ b1_6_4_8 ∧ b7 ≠ b1_6_4_8 ∧ Ex0 Z h b7 ∧ Fd0 Z h b7 (.ref b1_6_4_8) ∧ Fd1 Z h b7 z0 ∧ Arv Z h b1_6_4_8 k1_6_4_8 .byte 2 [(.int (((own_u2 p0) &&& (255 : Int32)).toInt8.toInt32)), (.int (((own_u10 p0) &&& (255 : Int32)).toInt8.toInt32))] z0
theorem ef_r_str2 (p0 : Int32) (m : MethodId) : entryFrame m #[(.int p0)] 3 = mkF m 0 #[.val (.int p0), .unset, .unset] [] := by first | (simp [entryFrame, mkF, argsToLocals, Value.category]; done) | rfl
set_option maxRecDepth 65536 in
set_option maxHeartbeats 40000000 in
theorem r_str2 (l : Launch) (Z : State) (a0 : Array Value) (hw : HW Z a0) (ws : List Jvm.Cond) (p0 cs : Int32) (h0 : Heap) (n0 : Nat) (Z0 : n0 ≤ h0.size) (hcs : ¬ (cs = (0 : Int32))) (hn : (own_ln p0) = (2 : Int32)) (S_COMPACT_STRINGS : SCS Z cs) (O0 : Old Z n0 h0) :
    OMH l Z consts_1 [] y3_str b0_ 3 (some (.object "java/lang/String")) ws ⟨4, 6, 12, 66⟩ #[(.int p0)] h0 (Q_r_str2 Z p0 cs h0 n0) := by
  refine own_bodyH (k := 3) (n := 8) (own_EW hw) (plainFor_of_name pn_JudgmentEqualsPinLaw295) (ef_r_str2 p0) (by decide) (by decide) ?_
  intro p e s m below meth c s₁ hx hby hml hown hnm hret hZ e0 hS0 hk0 X0 hC0 hSF0
  have N0 := Fr.nil n0
  obtain ⟨_, T1, L1, X1, hQ1, st1⟩ := own_static X0 hx hZ hown (w4 hw) (w5 hw) (w2 hw) (w6 hw) (by decide) (r1_len l Z a0 hw [] p0 h0 n0 Z0) e0 (W := 0) (by decide) (g := (mkF m 1 #[vi p0, .unset, .unset] [(.int p0)])) rfl (by rw [hml]; rfl) (argsL := [(.int p0)]) (rest := []) (lenOf pd_0 rfl) rfl rfl (own_wr rfl rfl) (hb hby d1)
  obtain ⟨rfl, N1q, e1⟩ := hQ1
  have N1 := Fr.app N0 N1q
  obtain ⟨T2, h2, k2, X2, e2, E2, A2, st2⟩ := newP (aty := .char) X1 hx hZ (w10 hw) e1 (g := (mkF m 34 #[vi p0, vi 2, .unset] [(.int 2)])) rfl (hb hby d88) rfl (by decide) (cap := 2) (by decide) (by decide) (by decide) (by decide)
  obtain ⟨b2, g2⟩ : ∃ z, z = h0.size := ⟨_, rfl⟩
  rw [← g2] at A2 st2
  have ge_b2 : h0.size ≤ b2 := Nat.le_of_eq g2.symm
  have K2 := KL.ofE E2
  have Ck0 := own_chK K2 na0 (CHr.refl hC0).1
  have Ah1 := (CHr.refl hC0).trans Ck0.1
  have V2 : Arv Z h2 b2 k2 .char 2 [z0, z0] z0 := (Arv.new A2 (by decide)).pad (pad_rep [] z0 2)
  obtain ⟨_, T3, L3, X3, hQ3, st3⟩ := own_static X2 hx hZ hown (w29 hw) (w30 hw) (w2 hw) (w31 hw) (by decide) (r4_ch0 l Z a0 hw [] p0 h2 n0 (Nat.le_trans Z0 K2.1)) e2 (W := 2) (by decide) (g := (mkF m 40 #[vi p0, vi 2, vr b2] [(.int p0), z0, (.ref b2)])) rfl (by rw [hml]; rfl) (argsL := [(.int p0)]) (rest := [z0, (.ref b2)]) (lenOf pd_3 rfl) rfl rfl (own_wr rfl rfl) (hb hby d93)
  obtain ⟨rfl, N3q, e3⟩ := hQ3
  have N3 := Fr.app N1 N3q
  obtain ⟨T4, h4, X4, e4, W4, V4, st4⟩ := own_astC X3 hx hZ e3 V2 (j := 0) (by decide) 0 rfl (Nat.le_of_ble_eq_true rfl) (g := (mkF m 43 #[vi p0, vi 2, vr b2] [(.int ((own_u2 p0) &&& (255 : Int32))), z0, (.ref b2)])) rfl rfl (hb hby d94)
  rw [show (nar .char ((own_u2 p0) &&& (255 : Int32))) = ((own_u2 p0) &&& (255 : Int32)) from (i2c_mask _)] at V4
  have K4 := KL.ofW W4
  have Ck1 := own_chK K4 (naF (Ck0.2 _ (Safe.new ge_b2)) na0) Ah1.1
  have Ah2 := Ah1.trans Ck1.1
  replace V4 : Arv Z h4 b2 k2 .char 2 [(.int ((own_u2 p0) &&& (255 : Int32))), z0] z0 := V4
  have N4 := Fr.snoc X4 N3 (Nat.le_trans Z0 (Nat.le_trans (Nat.le_refl _) ge_b2))
  have sz_0_2 := (Nat.le_trans K2.1 K4.1)
  obtain ⟨_, T5, L5, X5, hQ5, st5⟩ := own_static X4 hx hZ hown (w32 hw) (w33 hw) (w2 hw) (w34 hw) (by decide) (r9_ch1 l Z a0 hw [] p0 h4 n0 (Nat.le_trans Z0 sz_0_2)) e4 (W := 2) (by decide) (g := (mkF m 47 #[vi p0, vi 2, vr b2] [(.int p0), (.int 1), (.ref b2)])) rfl (by rw [hml]; rfl) (argsL := [(.int p0)]) (rest := [(.int 1), (.ref b2)]) (lenOf pd_3 rfl) rfl rfl (own_wr rfl rfl) (hb hby d98)
  obtain ⟨rfl, N5q, e5⟩ := hQ5
  have N5 := Fr.app N4 N5q
  obtain ⟨T6, h6, X6, e6, W6, V6, st6⟩ := own_astC X5 hx hZ e5 V4 (j := 1) (by decide) 1 rfl (Nat.le_of_ble_eq_true rfl) (g := (mkF m 50 #[vi p0, vi 2, vr b2] [(.int ((own_u10 p0) &&& (255 : Int32))), (.int 1), (.ref b2)])) rfl rfl (hb hby d106)
  rw [show (nar .char ((own_u10 p0) &&& (255 : Int32))) = ((own_u10 p0) &&& (255 : Int32)) from (i2c_mask _)] at V6
  have K6 := KL.ofW W6
  have Ck2 := own_chK K6 (naF (Ck1.2 _ (Ck0.2 _ (Safe.new ge_b2))) na0) Ah2.1
  have Ah3 := Ah2.trans Ck2.1
  replace V6 : Arv Z h6 b2 k2 .char 2 [(.int ((own_u2 p0) &&& (255 : Int32))), (.int ((own_u10 p0) &&& (255 : Int32)))] z0 := V6
  have N6 := Fr.snoc X6 N5 (Nat.le_trans Z0 (Nat.le_trans (Nat.le_refl _) ge_b2))
  obtain ⟨T7, h7, X7, e7, E7, A7, D7, -, st7⟩ := newO X6 hx hZ hown (w7 hw) (w8 hw) (w9 hw) e6 (g := (mkF m 51 #[vi p0, vi 2, vr b2] [])) rfl (hb hby d107) (by decide) (by decide)
  obtain ⟨b7, g7⟩ : ∃ z, z = h6.size := ⟨_, rfl⟩
  rw [← g7] at A7 D7 st7
  have ge_b7 : h6.size ≤ b7 := Nat.le_of_eq g7.symm
  have K7 := KL.ofE E7
  have Ck3 := own_chK K7 na0 Ah3.1
  have Ah4 := Ah3.trans Ck3.1
  have F_b7_value : Fd0 Z h7 b7 .null := D7 (Or.inr (w23 hw)) (ty := (.array .byte)) (by decide)
  have F_b7_coder : Fd1 Z h7 b7 z0 := D7 (Or.inr (w24 hw)) (ty := .byte) (by decide)
  have f9 := (kArv K7 V6 na0)
  have f10 := (kOld K7 (kOld K6 (kOld K4 (kOld K2 O0 na0) (naS (P := fun w => n0 ≤ w.1) (Nat.le_trans Z0 (Nat.le_trans (Nat.le_refl _) ge_b2)) na0)) (naS (P := fun w => n0 ≤ w.1) (Nat.le_trans Z0 (Nat.le_trans (Nat.le_refl _) ge_b2)) na0)) na0)
  have sz_0_3 := (Nat.le_trans sz_0_2 K6.1)
  have sz_0_4 := (Nat.le_trans sz_0_3 K7.1)
  obtain ⟨_, T8, L8, X8, hQ8, st8⟩ := own_init X7 hx hZ rfl hown (w11 hw) (w12 hw) (w9 hw) (w13 hw) (by decide) (r10__init_ l Z a0 hw [] b7 b2 ((own_u2 p0) &&& (255 : Int32)) ((own_u10 p0) &&& (255 : Int32)) k2 cs h7 n0 (Nat.le_trans Z0 sz_0_4) f9 S_COMPACT_STRINGS F_b7_coder A7 F_b7_value f10 hcs (own_m255b _) (own_m255b _) (Nat.le_trans Z0 (Nat.le_trans sz_0_3 ge_b7))) e7 (W := 1) (by decide) (g := (mkF m 56 #[vi p0, vi 2, vr b2] [(.ref b2), (.ref b7), (.ref b7)])) rfl (by rw [hml]; rfl) (argsL := [(.ref b2)]) (rest := [(.ref b7)]) (lenOf pd_2 rfl) rfl rfl (own_wr rfl rfl) (hb hby d110)
  obtain ⟨b1_6_4_8, k1_6_4_8, rfl, N8q, K8, Q8_0, Q8_1, Q8_2, Q8_3⟩ := hQ8
  have N8 := Fr.app N6 N8q
  have Ck4 := own_chK K8 (naF (Ck3.2 _ (Safe.new ge_b7)) (naF (Ck3.2 _ (Safe.new ge_b7)) na0)) Ah4.1
  have Ah5 := Ah4.trans Ck4.1
  -- what was kept, from the start on
  have C0 := (KL.refl h0 []).trans K2 na0
  have C1 := C0.trans K4 (naO (Or.inr (Nat.le_trans (Nat.le_refl _) ge_b2)) na0)
  have C2 := C1.trans K6 (naO (Or.inr (Nat.le_trans (Nat.le_refl _) ge_b2)) na0)
  have C3 := C2.trans K7 na0
  have C4 := C3.trans K8 (naO (Or.inr (Nat.le_trans sz_0_3 ge_b7)) (naO (Or.inr (Nat.le_trans sz_0_3 ge_b7)) na0))
  have lt_b7 : b7 < h7.size := Exa.lt A7
  have f12 := (kExa K8 A7)
  have sz_0_5 := (Nat.le_trans sz_0_4 K8.1)
  refine ⟨T8, _, some (.ref b7), _, _, X8, hS0, (by rw [show T8.heap = T8.heap from rfl]; exact (Nat.le_trans hk0 sz_0_5)), (fun h => by cases h <;> rfl), ?_, Ah5, hZ, fun fs hr => ?_⟩
  · show Q_r_str2 Z p0 cs h0 n0 _ T8.heap _
    exact ⟨b7, b1_6_4_8, k1_6_4_8, rfl, N8, C4, (Nat.le_trans sz_0_3 ge_b7), (Nat.le_trans sz_0_4 Q8_0), (lt_ne lt_b7 Q8_0), f12, Q8_2, Q8_1, Q8_3⟩
  · refine t_iloadN 1 X0.here hx (hb hby d0) rfl rfl ?_
    refine st1 _ ?_
    refine castTop (g' := (mkF m 4 #[vi p0, .unset, .unset] [(.int 2)])) (congrArg (fun z => mkF m 4 #[vi p0, .unset, .unset] (Value.int z :: [])) hn) ?_
    refine t_istoreN (pc' := 5) (L' := #[vi p0, vi 2, .unset]) X1.here hx (hb hby d8) rfl rfl ?_
    refine t_iloadN 6 X1.here hx (hb hby d9) rfl rfl ?_
    refine t_ifYes (pc := 6) 20 X1.here hx (hb hby d10) (by decide) (by decide) (by decide) ?_
    refine t_iloadN 21 X1.here hx (hb hby d38) rfl rfl ?_
    refine t_iconst 22 (r := 1) X1.here hx (hb hby d39) (by decide) rfl ?_
    refine t_icmpYes (pc := 22) 33 X1.here hx (hb hby d40) (by decide) (by decide) (by decide) ?_
    refine t_iconst 34 (r := 2) X1.here hx (hb hby d87) (by decide) rfl ?_
    refine st2 _ ?_
    refine t_astoreN (pc' := 37) (L' := #[vi p0, vi 2, vr b2]) X2.here hx (hb hby d89) rfl rfl rfl ?_
    refine t_aloadN 38 X2.here hx (hb hby d90) rfl rfl rfl ?_
    refine t_iconst 39 (r := 0) X2.here hx (hb hby d91) (by decide) rfl ?_
    refine t_iloadN 40 X2.here hx (hb hby d92) rfl rfl ?_
    refine st3 _ ?_
    refine st4 _ ?_
    refine t_aloadN 45 X4.here hx (hb hby d95) rfl rfl rfl ?_
    refine t_iconst 46 (r := 1) X4.here hx (hb hby d96) (by decide) rfl ?_
    refine t_iloadN 47 X4.here hx (hb hby d97) rfl rfl ?_
    refine st5 _ ?_
    refine st6 _ ?_
    refine st7 _ ?_
    refine t_dup 55 X7.here hx (hb hby d108) rfl rfl ?_
    refine t_aloadN 56 X7.here hx (hb hby d109) rfl rfl rfl ?_
    refine st8 _ ?_
    jvm_step X8.here [X8.here.top, hx, (hb hby d173), X8.method', hret, Value.isRef, FieldType.isReference]
    first | (intro acts; rw [hr _ acts rfl rfl rfl]) | rw [hr _ _ rfl rfl rfl]
    exact Steps.refl _
def Q_r_str (Z : State) (p0 : Int32) (h0 : Heap) (n0 : Nat) (v : Option Value) (h : Heap) (L : List Loc) : Prop := ∃ s1 : Addr, ∃ b1 : Addr, ∃ k1 : ClassId, v = some (.ref s1) ∧ Fr n0 L ∧ KL h0 h [] ∧ h0.size ≤ s1 ∧ b1 < h.size ∧ Ex0 Z h s1 ∧ Fd1 Z h s1 z0 ∧ Fd0 Z h s1 (.ref b1) ∧ Arv Z h b1 k1 .byte (own_ln p0) (own_vs p0) z0
theorem r_str (l : Launch) (Z : State) (a0 : Array Value) (hw : HW Z a0) (ws : List Jvm.Cond) (p0 cs : Int32) (h0 : Heap) (n0 : Nat) (Z0 : n0 ≤ h0.size) (hcs : ¬ (cs = (0 : Int32))) (S_COMPACT_STRINGS : SCS Z cs) (O0 : Old Z n0 h0) :
    OMH l Z consts_1 [] y3_str b0_ 3 (some (.object "java/lang/String")) ws ⟨4, 6, 12, 66⟩ #[(.int p0)] h0 (Q_r_str Z p0 h0 n0) := by
  rcases own_ln3 p0 with hn | hn | hn
  · exact own_impH (r_str0 l Z a0 hw ws p0 h0 n0 Z0 hn) fun v h L ⟨b2, b2_1_4, kb2_1_4, qv, qN, qK, q0, q1, q2, q3, q4, q5⟩ => ⟨b2, b2_1_4, kb2_1_4, qv, qN, qK, q0, q1, q2, q4, q3, by rw [hn, own_vs0 hn]; exact q5⟩
  · exact own_impH (r_str1 l Z a0 hw ws p0 cs h0 n0 Z0 hcs hn S_COMPACT_STRINGS O0) fun v h L ⟨b5_3, b2_6_3, k2_6_3, qv, qN, qK, q0, q1, q2, q3, q4, q5, q6⟩ => ⟨b5_3, b2_6_3, k2_6_3, qv, qN, qK, q0, (Arv.lt q6), q3, q5, q4, by rw [hn, own_vs1 hn]; exact q6⟩
  · exact own_impH (r_str2 l Z a0 hw ws p0 cs h0 n0 Z0 hcs hn S_COMPACT_STRINGS O0) fun v h L ⟨b7, b1_6_4_8, k1_6_4_8, qv, qN, qK, q0, q1, q2, q3, q4, q5, q6⟩ => ⟨b7, b1_6_4_8, k1_6_4_8, qv, qN, qK, q0, (Arv.lt q6), q3, q5, q4, by rw [hn, own_vs2 hn]; exact q6⟩
abbrev b13_ := method_7_code
theorem d174 : decode b13_ 0 = .ok (.iload_n 0, 1) := by decide +kernel
theorem d175 : decode b13_ 1 = .ok (.invokestatic 26, 3) := by decide +kernel
theorem d176 : decode b13_ 4 = .ok (.istore_n 2, 1) := by decide +kernel
theorem d177 : decode b13_ 5 = .ok (.iload_n 2, 1) := by decide +kernel
theorem d178 : decode b13_ 6 = .ok (.iload_n 1, 1) := by decide +kernel
theorem d179 : decode b13_ 7 = .ok (.invokestatic 26, 3) := by decide +kernel
theorem d180 : decode b13_ 10 = .ok (.if_icmp .eq 5, 3) := by decide +kernel
theorem d181 : decode b13_ 15 = .ok (.iload_n 2, 1) := by decide +kernel
theorem d182 : decode b13_ 16 = .ok (.iconst 1, 1) := by decide +kernel
theorem d183 : decode b13_ 17 = .ok (.if_icmp .lt 16, 3) := by decide +kernel
theorem d184 : decode b13_ 33 = .ok (.iload_n 2, 1) := by decide +kernel
theorem d185 : decode b13_ 34 = .ok (.iconst 2, 1) := by decide +kernel
theorem d186 : decode b13_ 35 = .ok (.if_icmp .lt 16, 3) := by decide +kernel
theorem d187 : decode b13_ 51 = .ok (.iconst 1, 1) := by decide +kernel
theorem d188 : decode b13_ 52 = .ok (.ireturn, 1) := by decide +kernel
abbrev y13_same : MethodName := ⟨"com/example/unearth/unearth/eval/JudgmentEqualsPinLaw", "same", "(II)Z"⟩
def Q_r_same (Z : State) (p0 p1 : Int32) (h0 : Heap) (n0 : Nat) (v : Option Value) (h : Heap) (L : List Loc) : Prop := v = some (.int (own_same p0 p1)) ∧ Fr n0 L ∧ h = h0
theorem ef_r_same_ttt (p0 p1 : Int32) (m : MethodId) : entryFrame m #[(.int p0), (.int p1)] 3 = mkF m 0 #[.val (.int p0), .val (.int p1), .unset] [] := by first | (simp [entryFrame, mkF, argsToLocals, Value.category]; done) | rfl
set_option maxRecDepth 65536 in
set_option maxHeartbeats 40000000 in
theorem r_same_ttt (l : Launch) (Z : State) (a0 : Array Value) (hw : HW Z a0) (ws : List Jvm.Cond) (p0 p1 : Int32) (h0 : Heap) (n0 : Nat) (Z0 : n0 ≤ h0.size) (hp0 : (own_ln p0) = (own_ln p1)) (hp1 : (own_ln p0) < (1 : Int32)) (hp2 : (own_ln p0) < (2 : Int32)) :
    MF l Z y13_same b13_ 3 (some .boolean) ws ⟨1, 0, 0, 13⟩ #[(.int p0), (.int p1)] h0 (Q_r_same Z p0 p1 h0 n0) := by
  refine own_body (plainFor_of_name pn_JudgmentEqualsPinLaw295) (ef_r_same_ttt p0 p1) (by decide) (by decide) ?_
  intro p e s m below meth c s₁ hx hby hml hown hnm hret hZ hh e0 X0
  have N0 := Fr.nil n0
  obtain ⟨_, T1, L1, X1, hQ1, st1⟩ := own_static X0 hx hZ hown (w4 hw) (w5 hw) (w2 hw) (w6 hw) (by decide) (r1_len l Z a0 hw [] p0 h0 n0 Z0) e0 (W := 0) (by decide) (g := (mkF m 1 #[vi p0, vi p1, .unset] [(.int p0)])) rfl (by rw [hml]; rfl) (argsL := [(.int p0)]) (rest := []) (lenOf pd_0 rfl) rfl rfl (own_wr rfl rfl) (hb hby d175)
  obtain ⟨rfl, N1q, e1⟩ := hQ1
  have N1 := Fr.app N0 N1q
  obtain ⟨_, T2, L2, X2, hQ2, st2⟩ := own_static X1 hx hZ hown (w4 hw) (w5 hw) (w2 hw) (w6 hw) (by decide) (r1_len l Z a0 hw [] p1 h0 n0 Z0) e1 (W := 1) (by decide) (g := (mkF m 7 #[vi p0, vi p1, vi ((own_ln p0))] [(.int p1), (.int (own_ln p0))])) rfl (by rw [hml]; rfl) (argsL := [(.int p1)]) (rest := [(.int (own_ln p0))]) (lenOf pd_0 rfl) rfl rfl (own_wr rfl rfl) (hb hby d179)
  obtain ⟨rfl, N2q, e2⟩ := hQ2
  have N2 := Fr.app N1 N2q
  refine ⟨T2, _, some (.int 1), X2, (fun h => by cases h <;> rfl), ?_, fun fs hr => ?_⟩
  · show Q_r_same Z p0 p1 h0 n0 _ T2.heap _
    rw [e2]
    exact ⟨(own_sm_ttt hp0 hp1 hp2), N2, rfl⟩
  · refine t_iloadN 1 X0.here hx (hb hby d174) rfl rfl ?_
    refine st1 _ ?_
    refine t_istoreN (pc' := 5) (L' := #[vi p0, vi p1, vi ((own_ln p0))]) X1.here hx (hb hby d176) rfl rfl ?_
    refine t_iloadN 6 X1.here hx (hb hby d177) rfl rfl ?_
    refine t_iloadN 7 X1.here hx (hb hby d178) rfl rfl ?_
    refine st2 _ ?_
    refine t_icmpYes (pc := 10) 15 X2.here hx (hb hby d180) (teq hp0).1 (by decide) (by decide) ?_
    refine t_iloadN 16 X2.here hx (hb hby d181) rfl rfl ?_
    refine t_iconst 17 (r := 1) X2.here hx (hb hby d182) (by decide) rfl ?_
    refine t_icmpYes (pc := 17) 33 X2.here hx (hb hby d183) (tlt hp1).1 (by decide) (by decide) ?_
    refine t_iloadN 34 X2.here hx (hb hby d184) rfl rfl ?_
    refine t_iconst 35 (r := 2) X2.here hx (hb hby d185) (by decide) rfl ?_
    refine t_icmpYes (pc := 35) 51 X2.here hx (hb hby d186) (tlt hp2).1 (by decide) (by decide) ?_
    refine t_iconst 52 (r := 1) X2.here hx (hb hby d187) (by decide) rfl ?_
    exact retN X2 hx (t := .boolean) hret (by simp) (hb hby d188) hr
theorem d189 : decode b13_ 20 = .ok (.iload_n 0, 1) := by decide +kernel
theorem d190 : decode b13_ 21 = .ok (.invokestatic 35, 3) := by decide +kernel
theorem d191 : decode b13_ 24 = .ok (.iload_n 1, 1) := by decide +kernel
theorem d192 : decode b13_ 25 = .ok (.invokestatic 35, 3) := by decide +kernel
theorem d193 : decode b13_ 28 = .ok (.if_icmp .eq 5, 3) := by decide +kernel
theorem ef_r_same_tftt (p0 p1 : Int32) (m : MethodId) : entryFrame m #[(.int p0), (.int p1)] 3 = mkF m 0 #[.val (.int p0), .val (.int p1), .unset] [] := by first | (simp [entryFrame, mkF, argsToLocals, Value.category]; done) | rfl
set_option maxRecDepth 65536 in
set_option maxHeartbeats 40000000 in
theorem r_same_tftt (l : Launch) (Z : State) (a0 : Array Value) (hw : HW Z a0) (ws : List Jvm.Cond) (p0 p1 : Int32) (h0 : Heap) (n0 : Nat) (Z0 : n0 ≤ h0.size) (hp0 : (own_ln p0) = (own_ln p1)) (hp1 : ¬ ((own_ln p0) < (1 : Int32))) (hp2 : ((own_u2 p0) &&& (255 : Int32)) = ((own_u2 p1) &&& (255 : Int32))) (hp3 : (own_ln p0) < (2 : Int32)) :
    MF l Z y13_same b13_ 3 (some .boolean) ws ⟨1, 0, 0, 13⟩ #[(.int p0), (.int p1)] h0 (Q_r_same Z p0 p1 h0 n0) := by
  refine own_body (plainFor_of_name pn_JudgmentEqualsPinLaw295) (ef_r_same_tftt p0 p1) (by decide) (by decide) ?_
  intro p e s m below meth c s₁ hx hby hml hown hnm hret hZ hh e0 X0
  have N0 := Fr.nil n0
  obtain ⟨_, T1, L1, X1, hQ1, st1⟩ := own_static X0 hx hZ hown (w4 hw) (w5 hw) (w2 hw) (w6 hw) (by decide) (r1_len l Z a0 hw [] p0 h0 n0 Z0) e0 (W := 0) (by decide) (g := (mkF m 1 #[vi p0, vi p1, .unset] [(.int p0)])) rfl (by rw [hml]; rfl) (argsL := [(.int p0)]) (rest := []) (lenOf pd_0 rfl) rfl rfl (own_wr rfl rfl) (hb hby d175)
  obtain ⟨rfl, N1q, e1⟩ := hQ1
  have N1 := Fr.app N0 N1q
  obtain ⟨_, T2, L2, X2, hQ2, st2⟩ := own_static X1 hx hZ hown (w4 hw) (w5 hw) (w2 hw) (w6 hw) (by decide) (r1_len l Z a0 hw [] p1 h0 n0 Z0) e1 (W := 1) (by decide) (g := (mkF m 7 #[vi p0, vi p1, vi ((own_ln p0))] [(.int p1), (.int (own_ln p0))])) rfl (by rw [hml]; rfl) (argsL := [(.int p1)]) (rest := [(.int (own_ln p0))]) (lenOf pd_0 rfl) rfl rfl (own_wr rfl rfl) (hb hby d179)
  obtain ⟨rfl, N2q, e2⟩ := hQ2
  have N2 := Fr.app N1 N2q
  obtain ⟨_, T3, L3, X3, hQ3, st3⟩ := own_static X2 hx hZ hown (w29 hw) (w30 hw) (w2 hw) (w31 hw) (by decide) (r4_ch0 l Z a0 hw [] p0 h0 n0 Z0) e2 (W := 0) (by decide) (g := (mkF m 21 #[vi p0, vi p1, vi ((own_ln p0))] [(.int p0)])) rfl (by rw [hml]; rfl) (argsL := [(.int p0)]) (rest := []) (lenOf pd_3 rfl) rfl rfl (own_wr rfl rfl) (hb hby d190)
  obtain ⟨rfl, N3q, e3⟩ := hQ3
  have N3 := Fr.app N2 N3q
  obtain ⟨_, T4, L4, X4, hQ4, st4⟩ := own_static X3 hx hZ hown (w29 hw) (w30 hw) (w2 hw) (w31 hw) (by decide) (r4_ch0 l Z a0 hw [] p1 h0 n0 Z0) e3 (W := 1) (by decide) (g := (mkF m 25 #[vi p0, vi p1, vi ((own_ln p0))] [(.int p1), (.int ((own_u2 p0) &&& (255 : Int32)))])) rfl (by rw [hml]; rfl) (argsL := [(.int p1)]) (rest := [(.int ((own_u2 p0) &&& (255 : Int32)))]) (lenOf pd_3 rfl) rfl rfl (own_wr rfl rfl) (hb hby d192)
  obtain ⟨rfl, N4q, e4⟩ := hQ4
  have N4 := Fr.app N3 N4q
  refine ⟨T4, _, some (.int 1), X4, (fun h => by cases h <;> rfl), ?_, fun fs hr => ?_⟩
  · show Q_r_same Z p0 p1 h0 n0 _ T4.heap _
    rw [e4]
    exact ⟨(own_sm_tftt hp0 hp1 hp2 hp3), N4, rfl⟩
  · refine t_iloadN 1 X0.here hx (hb hby d174) rfl rfl ?_
    refine st1 _ ?_
    refine t_istoreN (pc' := 5) (L' := #[vi p0, vi p1, vi ((own_ln p0))]) X1.here hx (hb hby d176) rfl rfl ?_
    refine t_iloadN 6 X1.here hx (hb hby d177) rfl rfl ?_
    refine t_iloadN 7 X1.here hx (hb hby d178) rfl rfl ?_
    refine st2 _ ?_
    refine t_icmpYes (pc := 10) 15 X2.here hx (hb hby d180) (teq hp0).1 (by decide) (by decide) ?_
    refine t_iloadN 16 X2.here hx (hb hby d181) rfl rfl ?_
    refine t_iconst 17 (r := 1) X2.here hx (hb hby d182) (by decide) rfl ?_
    refine t_icmpNo 20 X2.here hx (hb hby d183) (flt hp1).1 rfl ?_
    refine t_iloadN 21 X2.here hx (hb hby d189) rfl rfl ?_
    refine st3 _ ?_
    refine t_iloadN 25 X3.here hx (hb hby d191) rfl rfl ?_
    refine st4 _ ?_
    refine t_icmpYes (pc := 28) 33 X4.here hx (hb hby d193) (teq hp2).1 (by decide) (by decide) ?_
    refine t_iloadN 34 X4.here hx (hb hby d184) rfl rfl ?_
    refine t_iconst 35 (r := 2) X4.here hx (hb hby d185) (by decide) rfl ?_
    refine t_icmpYes (pc := 35) 51 X4.here hx (hb hby d186) (tlt hp3).1 (by decide) (by decide) ?_
    refine t_iconst 52 (r := 1) X4.here hx (hb hby d187) (by decide) rfl ?_
    exact retN X4 hx (t := .boolean) hret (by simp) (hb hby d188) hr
theorem d194 : decode b13_ 38 = .ok (.iload_n 0, 1) := by decide +kernel
theorem d195 : decode b13_ 39 = .ok (.invokestatic 43, 3) := by decide +kernel
theorem d196 : decode b13_ 42 = .ok (.iload_n 1, 1) := by decide +kernel
theorem d197 : decode b13_ 43 = .ok (.invokestatic 43, 3) := by decide +kernel
theorem d198 : decode b13_ 46 = .ok (.if_icmp .eq 5, 3) := by decide +kernel
theorem ef_r_same_tftft (p0 p1 : Int32) (m : MethodId) : entryFrame m #[(.int p0), (.int p1)] 3 = mkF m 0 #[.val (.int p0), .val (.int p1), .unset] [] := by first | (simp [entryFrame, mkF, argsToLocals, Value.category]; done) | rfl
set_option maxRecDepth 65536 in
set_option maxHeartbeats 40000000 in
theorem r_same_tftft (l : Launch) (Z : State) (a0 : Array Value) (hw : HW Z a0) (ws : List Jvm.Cond) (p0 p1 : Int32) (h0 : Heap) (n0 : Nat) (Z0 : n0 ≤ h0.size) (hp0 : (own_ln p0) = (own_ln p1)) (hp1 : ¬ ((own_ln p0) < (1 : Int32))) (hp2 : ((own_u2 p0) &&& (255 : Int32)) = ((own_u2 p1) &&& (255 : Int32))) (hp3 : ¬ ((own_ln p0) < (2 : Int32))) (hp4 : ((own_u10 p0) &&& (255 : Int32)) = ((own_u10 p1) &&& (255 : Int32))) :
    MF l Z y13_same b13_ 3 (some .boolean) ws ⟨1, 0, 0, 13⟩ #[(.int p0), (.int p1)] h0 (Q_r_same Z p0 p1 h0 n0) := by
  refine own_body (plainFor_of_name pn_JudgmentEqualsPinLaw295) (ef_r_same_tftft p0 p1) (by decide) (by decide) ?_
  intro p e s m below meth c s₁ hx hby hml hown hnm hret hZ hh e0 X0
  have N0 := Fr.nil n0
  obtain ⟨_, T1, L1, X1, hQ1, st1⟩ := own_static X0 hx hZ hown (w4 hw) (w5 hw) (w2 hw) (w6 hw) (by decide) (r1_len l Z a0 hw [] p0 h0 n0 Z0) e0 (W := 0) (by decide) (g := (mkF m 1 #[vi p0, vi p1, .unset] [(.int p0)])) rfl (by rw [hml]; rfl) (argsL := [(.int p0)]) (rest := []) (lenOf pd_0 rfl) rfl rfl (own_wr rfl rfl) (hb hby d175)
  obtain ⟨rfl, N1q, e1⟩ := hQ1
  have N1 := Fr.app N0 N1q
  obtain ⟨_, T2, L2, X2, hQ2, st2⟩ := own_static X1 hx hZ hown (w4 hw) (w5 hw) (w2 hw) (w6 hw) (by decide) (r1_len l Z a0 hw [] p1 h0 n0 Z0) e1 (W := 1) (by decide) (g := (mkF m 7 #[vi p0, vi p1, vi ((own_ln p0))] [(.int p1), (.int (own_ln p0))])) rfl (by rw [hml]; rfl) (argsL := [(.int p1)]) (rest := [(.int (own_ln p0))]) (lenOf pd_0 rfl) rfl rfl (own_wr rfl rfl) (hb hby d179)
  obtain ⟨rfl, N2q, e2⟩ := hQ2
  have N2 := Fr.app N1 N2q
  obtain ⟨_, T3, L3, X3, hQ3, st3⟩ := own_static X2 hx hZ hown (w29 hw) (w30 hw) (w2 hw) (w31 hw) (by decide) (r4_ch0 l Z a0 hw [] p0 h0 n0 Z0) e2 (W := 0) (by decide) (g := (mkF m 21 #[vi p0, vi p1, vi ((own_ln p0))] [(.int p0)])) rfl (by rw [hml]; rfl) (argsL := [(.int p0)]) (rest := []) (lenOf pd_3 rfl) rfl rfl (own_wr rfl rfl) (hb hby d190)
  obtain ⟨rfl, N3q, e3⟩ := hQ3
  have N3 := Fr.app N2 N3q
  obtain ⟨_, T4, L4, X4, hQ4, st4⟩ := own_static X3 hx hZ hown (w29 hw) (w30 hw) (w2 hw) (w31 hw) (by decide) (r4_ch0 l Z a0 hw [] p1 h0 n0 Z0) e3 (W := 1) (by decide) (g := (mkF m 25 #[vi p0, vi p1, vi ((own_ln p0))] [(.int p1), (.int ((own_u2 p0) &&& (255 : Int32)))])) rfl (by rw [hml]; rfl) (argsL := [(.int p1)]) (rest := [(.int ((own_u2 p0) &&& (255 : Int32)))]) (lenOf pd_3 rfl) rfl rfl (own_wr rfl rfl) (hb hby d192)
  obtain ⟨rfl, N4q, e4⟩ := hQ4
  have N4 := Fr.app N3 N4q
  obtain ⟨_, T5, L5, X5, hQ5, st5⟩ := own_static X4 hx hZ hown (w32 hw) (w33 hw) (w2 hw) (w34 hw) (by decide) (r9_ch1 l Z a0 hw [] p0 h0 n0 Z0) e4 (W := 0) (by decide) (g := (mkF m 39 #[vi p0, vi p1, vi ((own_ln p0))] [(.int p0)])) rfl (by rw [hml]; rfl) (argsL := [(.int p0)]) (rest := []) (lenOf pd_3 rfl) rfl rfl (own_wr rfl rfl) (hb hby d195)
  obtain ⟨rfl, N5q, e5⟩ := hQ5
  have N5 := Fr.app N4 N5q
  obtain ⟨_, T6, L6, X6, hQ6, st6⟩ := own_static X5 hx hZ hown (w32 hw) (w33 hw) (w2 hw) (w34 hw) (by decide) (r9_ch1 l Z a0 hw [] p1 h0 n0 Z0) e5 (W := 1) (by decide) (g := (mkF m 43 #[vi p0, vi p1, vi ((own_ln p0))] [(.int p1), (.int ((own_u10 p0) &&& (255 : Int32)))])) rfl (by rw [hml]; rfl) (argsL := [(.int p1)]) (rest := [(.int ((own_u10 p0) &&& (255 : Int32)))]) (lenOf pd_3 rfl) rfl rfl (own_wr rfl rfl) (hb hby d197)
  obtain ⟨rfl, N6q, e6⟩ := hQ6
  have N6 := Fr.app N5 N6q
  refine ⟨T6, _, some (.int 1), X6, (fun h => by cases h <;> rfl), ?_, fun fs hr => ?_⟩
  · show Q_r_same Z p0 p1 h0 n0 _ T6.heap _
    rw [e6]
    exact ⟨(own_sm_tftft hp0 hp1 hp2 hp3 hp4), N6, rfl⟩
  · refine t_iloadN 1 X0.here hx (hb hby d174) rfl rfl ?_
    refine st1 _ ?_
    refine t_istoreN (pc' := 5) (L' := #[vi p0, vi p1, vi ((own_ln p0))]) X1.here hx (hb hby d176) rfl rfl ?_
    refine t_iloadN 6 X1.here hx (hb hby d177) rfl rfl ?_
    refine t_iloadN 7 X1.here hx (hb hby d178) rfl rfl ?_
    refine st2 _ ?_
    refine t_icmpYes (pc := 10) 15 X2.here hx (hb hby d180) (teq hp0).1 (by decide) (by decide) ?_
    refine t_iloadN 16 X2.here hx (hb hby d181) rfl rfl ?_
    refine t_iconst 17 (r := 1) X2.here hx (hb hby d182) (by decide) rfl ?_
    refine t_icmpNo 20 X2.here hx (hb hby d183) (flt hp1).1 rfl ?_
    refine t_iloadN 21 X2.here hx (hb hby d189) rfl rfl ?_
    refine st3 _ ?_
    refine t_iloadN 25 X3.here hx (hb hby d191) rfl rfl ?_
    refine st4 _ ?_
    refine t_icmpYes (pc := 28) 33 X4.here hx (hb hby d193) (teq hp2).1 (by decide) (by decide) ?_
    refine t_iloadN 34 X4.here hx (hb hby d184) rfl rfl ?_
    refine t_iconst 35 (r := 2) X4.here hx (hb hby d185) (by decide) rfl ?_
    refine t_icmpNo 38 X4.here hx (hb hby d186) (flt hp3).1 rfl ?_
    refine t_iloadN 39 X4.here hx (hb hby d194) rfl rfl ?_
    refine st5 _ ?_
    refine t_iloadN 43 X5.here hx (hb hby d196) rfl rfl ?_
    refine st6 _ ?_
    refine t_icmpYes (pc := 46) 51 X6.here hx (hb hby d198) (teq hp4).1 (by decide) (by decide) ?_
    refine t_iconst 52 (r := 1) X6.here hx (hb hby d187) (by decide) rfl ?_
    exact retN X6 hx (t := .boolean) hret (by simp) (hb hby d188) hr
theorem d199 : decode b13_ 49 = .ok (.iconst 0, 1) := by decide +kernel
theorem d200 : decode b13_ 50 = .ok (.ireturn, 1) := by decide +kernel
theorem ef_r_same_tftff (p0 p1 : Int32) (m : MethodId) : entryFrame m #[(.int p0), (.int p1)] 3 = mkF m 0 #[.val (.int p0), .val (.int p1), .unset] [] := by first | (simp [entryFrame, mkF, argsToLocals, Value.category]; done) | rfl
set_option maxRecDepth 65536 in
set_option maxHeartbeats 40000000 in
theorem r_same_tftff (l : Launch) (Z : State) (a0 : Array Value) (hw : HW Z a0) (ws : List Jvm.Cond) (p0 p1 : Int32) (h0 : Heap) (n0 : Nat) (Z0 : n0 ≤ h0.size) (hp0 : (own_ln p0) = (own_ln p1)) (hp1 : ¬ ((own_ln p0) < (1 : Int32))) (hp2 : ((own_u2 p0) &&& (255 : Int32)) = ((own_u2 p1) &&& (255 : Int32))) (hp3 : ¬ ((own_ln p0) < (2 : Int32))) (hp4 : ¬ (((own_u10 p0) &&& (255 : Int32)) = ((own_u10 p1) &&& (255 : Int32)))) :
    MF l Z y13_same b13_ 3 (some .boolean) ws ⟨1, 0, 0, 13⟩ #[(.int p0), (.int p1)] h0 (Q_r_same Z p0 p1 h0 n0) := by
  refine own_body (plainFor_of_name pn_JudgmentEqualsPinLaw295) (ef_r_same_tftff p0 p1) (by decide) (by decide) ?_
  intro p e s m below meth c s₁ hx hby hml hown hnm hret hZ hh e0 X0
  have N0 := Fr.nil n0
  obtain ⟨_, T1, L1, X1, hQ1, st1⟩ := own_static X0 hx hZ hown (w4 hw) (w5 hw) (w2 hw) (w6 hw) (by decide) (r1_len l Z a0 hw [] p0 h0 n0 Z0) e0 (W := 0) (by decide) (g := (mkF m 1 #[vi p0, vi p1, .unset] [(.int p0)])) rfl (by rw [hml]; rfl) (argsL := [(.int p0)]) (rest := []) (lenOf pd_0 rfl) rfl rfl (own_wr rfl rfl) (hb hby d175)
  obtain ⟨rfl, N1q, e1⟩ := hQ1
  have N1 := Fr.app N0 N1q
  obtain ⟨_, T2, L2, X2, hQ2, st2⟩ := own_static X1 hx hZ hown (w4 hw) (w5 hw) (w2 hw) (w6 hw) (by decide) (r1_len l Z a0 hw [] p1 h0 n0 Z0) e1 (W := 1) (by decide) (g := (mkF m 7 #[vi p0, vi p1, vi ((own_ln p0))] [(.int p1), (.int (own_ln p0))])) rfl (by rw [hml]; rfl) (argsL := [(.int p1)]) (rest := [(.int (own_ln p0))]) (lenOf pd_0 rfl) rfl rfl (own_wr rfl rfl) (hb hby d179)
  obtain ⟨rfl, N2q, e2⟩ := hQ2
  have N2 := Fr.app N1 N2q
  obtain ⟨_, T3, L3, X3, hQ3, st3⟩ := own_static X2 hx hZ hown (w29 hw) (w30 hw) (w2 hw) (w31 hw) (by decide) (r4_ch0 l Z a0 hw [] p0 h0 n0 Z0) e2 (W := 0) (by decide) (g := (mkF m 21 #[vi p0, vi p1, vi ((own_ln p0))] [(.int p0)])) rfl (by rw [hml]; rfl) (argsL := [(.int p0)]) (rest := []) (lenOf pd_3 rfl) rfl rfl (own_wr rfl rfl) (hb hby d190)
  obtain ⟨rfl, N3q, e3⟩ := hQ3
  have N3 := Fr.app N2 N3q
  obtain ⟨_, T4, L4, X4, hQ4, st4⟩ := own_static X3 hx hZ hown (w29 hw) (w30 hw) (w2 hw) (w31 hw) (by decide) (r4_ch0 l Z a0 hw [] p1 h0 n0 Z0) e3 (W := 1) (by decide) (g := (mkF m 25 #[vi p0, vi p1, vi ((own_ln p0))] [(.int p1), (.int ((own_u2 p0) &&& (255 : Int32)))])) rfl (by rw [hml]; rfl) (argsL := [(.int p1)]) (rest := [(.int ((own_u2 p0) &&& (255 : Int32)))]) (lenOf pd_3 rfl) rfl rfl (own_wr rfl rfl) (hb hby d192)
  obtain ⟨rfl, N4q, e4⟩ := hQ4
  have N4 := Fr.app N3 N4q
  obtain ⟨_, T5, L5, X5, hQ5, st5⟩ := own_static X4 hx hZ hown (w32 hw) (w33 hw) (w2 hw) (w34 hw) (by decide) (r9_ch1 l Z a0 hw [] p0 h0 n0 Z0) e4 (W := 0) (by decide) (g := (mkF m 39 #[vi p0, vi p1, vi ((own_ln p0))] [(.int p0)])) rfl (by rw [hml]; rfl) (argsL := [(.int p0)]) (rest := []) (lenOf pd_3 rfl) rfl rfl (own_wr rfl rfl) (hb hby d195)
  obtain ⟨rfl, N5q, e5⟩ := hQ5
  have N5 := Fr.app N4 N5q
  obtain ⟨_, T6, L6, X6, hQ6, st6⟩ := own_static X5 hx hZ hown (w32 hw) (w33 hw) (w2 hw) (w34 hw) (by decide) (r9_ch1 l Z a0 hw [] p1 h0 n0 Z0) e5 (W := 1) (by decide) (g := (mkF m 43 #[vi p0, vi p1, vi ((own_ln p0))] [(.int p1), (.int ((own_u10 p0) &&& (255 : Int32)))])) rfl (by rw [hml]; rfl) (argsL := [(.int p1)]) (rest := [(.int ((own_u10 p0) &&& (255 : Int32)))]) (lenOf pd_3 rfl) rfl rfl (own_wr rfl rfl) (hb hby d197)
  obtain ⟨rfl, N6q, e6⟩ := hQ6
  have N6 := Fr.app N5 N6q
  refine ⟨T6, _, some z0, X6, (fun h => by cases h <;> rfl), ?_, fun fs hr => ?_⟩
  · show Q_r_same Z p0 p1 h0 n0 _ T6.heap _
    rw [e6]
    exact ⟨(own_sm_tftff hp0 hp1 hp2 hp3 hp4), N6, rfl⟩
  · refine t_iloadN 1 X0.here hx (hb hby d174) rfl rfl ?_
    refine st1 _ ?_
    refine t_istoreN (pc' := 5) (L' := #[vi p0, vi p1, vi ((own_ln p0))]) X1.here hx (hb hby d176) rfl rfl ?_
    refine t_iloadN 6 X1.here hx (hb hby d177) rfl rfl ?_
    refine t_iloadN 7 X1.here hx (hb hby d178) rfl rfl ?_
    refine st2 _ ?_
    refine t_icmpYes (pc := 10) 15 X2.here hx (hb hby d180) (teq hp0).1 (by decide) (by decide) ?_
    refine t_iloadN 16 X2.here hx (hb hby d181) rfl rfl ?_
    refine t_iconst 17 (r := 1) X2.here hx (hb hby d182) (by decide) rfl ?_
    refine t_icmpNo 20 X2.here hx (hb hby d183) (flt hp1).1 rfl ?_
    refine t_iloadN 21 X2.here hx (hb hby d189) rfl rfl ?_
    refine st3 _ ?_
    refine t_iloadN 25 X3.here hx (hb hby d191) rfl rfl ?_
    refine st4 _ ?_
    refine t_icmpYes (pc := 28) 33 X4.here hx (hb hby d193) (teq hp2).1 (by decide) (by decide) ?_
    refine t_iloadN 34 X4.here hx (hb hby d184) rfl rfl ?_
    refine t_iconst 35 (r := 2) X4.here hx (hb hby d185) (by decide) rfl ?_
    refine t_icmpNo 38 X4.here hx (hb hby d186) (flt hp3).1 rfl ?_
    refine t_iloadN 39 X4.here hx (hb hby d194) rfl rfl ?_
    refine st5 _ ?_
    refine t_iloadN 43 X5.here hx (hb hby d196) rfl rfl ?_
    refine st6 _ ?_
    refine t_icmpNo 49 X6.here hx (hb hby d198) (feq hp4).1 rfl ?_
    refine t_iconst 50 (r := 0) X6.here hx (hb hby d199) (by decide) rfl ?_
    exact retN X6 hx (t := .boolean) hret (by simp) (hb hby d200) hr
theorem d201 : decode b13_ 31 = .ok (.iconst 0, 1) := by decide +kernel
theorem d202 : decode b13_ 32 = .ok (.ireturn, 1) := by decide +kernel
theorem ef_r_same_tff (p0 p1 : Int32) (m : MethodId) : entryFrame m #[(.int p0), (.int p1)] 3 = mkF m 0 #[.val (.int p0), .val (.int p1), .unset] [] := by first | (simp [entryFrame, mkF, argsToLocals, Value.category]; done) | rfl
set_option maxRecDepth 65536 in
set_option maxHeartbeats 40000000 in
theorem r_same_tff (l : Launch) (Z : State) (a0 : Array Value) (hw : HW Z a0) (ws : List Jvm.Cond) (p0 p1 : Int32) (h0 : Heap) (n0 : Nat) (Z0 : n0 ≤ h0.size) (hp0 : (own_ln p0) = (own_ln p1)) (hp1 : ¬ ((own_ln p0) < (1 : Int32))) (hp2 : ¬ (((own_u2 p0) &&& (255 : Int32)) = ((own_u2 p1) &&& (255 : Int32)))) :
    MF l Z y13_same b13_ 3 (some .boolean) ws ⟨1, 0, 0, 13⟩ #[(.int p0), (.int p1)] h0 (Q_r_same Z p0 p1 h0 n0) := by
  refine own_body (plainFor_of_name pn_JudgmentEqualsPinLaw295) (ef_r_same_tff p0 p1) (by decide) (by decide) ?_
  intro p e s m below meth c s₁ hx hby hml hown hnm hret hZ hh e0 X0
  have N0 := Fr.nil n0
  obtain ⟨_, T1, L1, X1, hQ1, st1⟩ := own_static X0 hx hZ hown (w4 hw) (w5 hw) (w2 hw) (w6 hw) (by decide) (r1_len l Z a0 hw [] p0 h0 n0 Z0) e0 (W := 0) (by decide) (g := (mkF m 1 #[vi p0, vi p1, .unset] [(.int p0)])) rfl (by rw [hml]; rfl) (argsL := [(.int p0)]) (rest := []) (lenOf pd_0 rfl) rfl rfl (own_wr rfl rfl) (hb hby d175)
  obtain ⟨rfl, N1q, e1⟩ := hQ1
  have N1 := Fr.app N0 N1q
  obtain ⟨_, T2, L2, X2, hQ2, st2⟩ := own_static X1 hx hZ hown (w4 hw) (w5 hw) (w2 hw) (w6 hw) (by decide) (r1_len l Z a0 hw [] p1 h0 n0 Z0) e1 (W := 1) (by decide) (g := (mkF m 7 #[vi p0, vi p1, vi ((own_ln p0))] [(.int p1), (.int (own_ln p0))])) rfl (by rw [hml]; rfl) (argsL := [(.int p1)]) (rest := [(.int (own_ln p0))]) (lenOf pd_0 rfl) rfl rfl (own_wr rfl rfl) (hb hby d179)
  obtain ⟨rfl, N2q, e2⟩ := hQ2
  have N2 := Fr.app N1 N2q
  obtain ⟨_, T3, L3, X3, hQ3, st3⟩ := own_static X2 hx hZ hown (w29 hw) (w30 hw) (w2 hw) (w31 hw) (by decide) (r4_ch0 l Z a0 hw [] p0 h0 n0 Z0) e2 (W := 0) (by decide) (g := (mkF m 21 #[vi p0, vi p1, vi ((own_ln p0))] [(.int p0)])) rfl (by rw [hml]; rfl) (argsL := [(.int p0)]) (rest := []) (lenOf pd_3 rfl) rfl rfl (own_wr rfl rfl) (hb hby d190)
  obtain ⟨rfl, N3q, e3⟩ := hQ3
  have N3 := Fr.app N2 N3q
  obtain ⟨_, T4, L4, X4, hQ4, st4⟩ := own_static X3 hx hZ hown (w29 hw) (w30 hw) (w2 hw) (w31 hw) (by decide) (r4_ch0 l Z a0 hw [] p1 h0 n0 Z0) e3 (W := 1) (by decide) (g := (mkF m 25 #[vi p0, vi p1, vi ((own_ln p0))] [(.int p1), (.int ((own_u2 p0) &&& (255 : Int32)))])) rfl (by rw [hml]; rfl) (argsL := [(.int p1)]) (rest := [(.int ((own_u2 p0) &&& (255 : Int32)))]) (lenOf pd_3 rfl) rfl rfl (own_wr rfl rfl) (hb hby d192)
  obtain ⟨rfl, N4q, e4⟩ := hQ4
  have N4 := Fr.app N3 N4q
  refine ⟨T4, _, some z0, X4, (fun h => by cases h <;> rfl), ?_, fun fs hr => ?_⟩
  · show Q_r_same Z p0 p1 h0 n0 _ T4.heap _
    rw [e4]
    exact ⟨(own_sm_tff hp0 hp1 hp2), N4, rfl⟩
  · refine t_iloadN 1 X0.here hx (hb hby d174) rfl rfl ?_
    refine st1 _ ?_
    refine t_istoreN (pc' := 5) (L' := #[vi p0, vi p1, vi ((own_ln p0))]) X1.here hx (hb hby d176) rfl rfl ?_
    refine t_iloadN 6 X1.here hx (hb hby d177) rfl rfl ?_
    refine t_iloadN 7 X1.here hx (hb hby d178) rfl rfl ?_
    refine st2 _ ?_
    refine t_icmpYes (pc := 10) 15 X2.here hx (hb hby d180) (teq hp0).1 (by decide) (by decide) ?_
    refine t_iloadN 16 X2.here hx (hb hby d181) rfl rfl ?_
    refine t_iconst 17 (r := 1) X2.here hx (hb hby d182) (by decide) rfl ?_
    refine t_icmpNo 20 X2.here hx (hb hby d183) (flt hp1).1 rfl ?_
    refine t_iloadN 21 X2.here hx (hb hby d189) rfl rfl ?_
    refine st3 _ ?_
    refine t_iloadN 25 X3.here hx (hb hby d191) rfl rfl ?_
    refine st4 _ ?_
    refine t_icmpNo 31 X4.here hx (hb hby d193) (feq hp2).1 rfl ?_
    refine t_iconst 32 (r := 0) X4.here hx (hb hby d201) (by decide) rfl ?_
    exact retN X4 hx (t := .boolean) hret (by simp) (hb hby d202) hr
theorem d203 : decode b13_ 13 = .ok (.iconst 0, 1) := by decide +kernel
theorem d204 : decode b13_ 14 = .ok (.ireturn, 1) := by decide +kernel
theorem ef_r_same_f (p0 p1 : Int32) (m : MethodId) : entryFrame m #[(.int p0), (.int p1)] 3 = mkF m 0 #[.val (.int p0), .val (.int p1), .unset] [] := by first | (simp [entryFrame, mkF, argsToLocals, Value.category]; done) | rfl
set_option maxRecDepth 65536 in
set_option maxHeartbeats 40000000 in
theorem r_same_f (l : Launch) (Z : State) (a0 : Array Value) (hw : HW Z a0) (ws : List Jvm.Cond) (p0 p1 : Int32) (h0 : Heap) (n0 : Nat) (Z0 : n0 ≤ h0.size) (hp0 : ¬ ((own_ln p0) = (own_ln p1))) :
    MF l Z y13_same b13_ 3 (some .boolean) ws ⟨1, 0, 0, 13⟩ #[(.int p0), (.int p1)] h0 (Q_r_same Z p0 p1 h0 n0) := by
  refine own_body (plainFor_of_name pn_JudgmentEqualsPinLaw295) (ef_r_same_f p0 p1) (by decide) (by decide) ?_
  intro p e s m below meth c s₁ hx hby hml hown hnm hret hZ hh e0 X0
  have N0 := Fr.nil n0
  obtain ⟨_, T1, L1, X1, hQ1, st1⟩ := own_static X0 hx hZ hown (w4 hw) (w5 hw) (w2 hw) (w6 hw) (by decide) (r1_len l Z a0 hw [] p0 h0 n0 Z0) e0 (W := 0) (by decide) (g := (mkF m 1 #[vi p0, vi p1, .unset] [(.int p0)])) rfl (by rw [hml]; rfl) (argsL := [(.int p0)]) (rest := []) (lenOf pd_0 rfl) rfl rfl (own_wr rfl rfl) (hb hby d175)
  obtain ⟨rfl, N1q, e1⟩ := hQ1
  have N1 := Fr.app N0 N1q
  obtain ⟨_, T2, L2, X2, hQ2, st2⟩ := own_static X1 hx hZ hown (w4 hw) (w5 hw) (w2 hw) (w6 hw) (by decide) (r1_len l Z a0 hw [] p1 h0 n0 Z0) e1 (W := 1) (by decide) (g := (mkF m 7 #[vi p0, vi p1, vi ((own_ln p0))] [(.int p1), (.int (own_ln p0))])) rfl (by rw [hml]; rfl) (argsL := [(.int p1)]) (rest := [(.int (own_ln p0))]) (lenOf pd_0 rfl) rfl rfl (own_wr rfl rfl) (hb hby d179)
  obtain ⟨rfl, N2q, e2⟩ := hQ2
  have N2 := Fr.app N1 N2q
  refine ⟨T2, _, some z0, X2, (fun h => by cases h <;> rfl), ?_, fun fs hr => ?_⟩
  · show Q_r_same Z p0 p1 h0 n0 _ T2.heap _
    rw [e2]
    exact ⟨(own_sm_f hp0), N2, rfl⟩
  · refine t_iloadN 1 X0.here hx (hb hby d174) rfl rfl ?_
    refine st1 _ ?_
    refine t_istoreN (pc' := 5) (L' := #[vi p0, vi p1, vi ((own_ln p0))]) X1.here hx (hb hby d176) rfl rfl ?_
    refine t_iloadN 6 X1.here hx (hb hby d177) rfl rfl ?_
    refine t_iloadN 7 X1.here hx (hb hby d178) rfl rfl ?_
    refine st2 _ ?_
    refine t_icmpNo 13 X2.here hx (hb hby d180) (feq hp0).1 rfl ?_
    refine t_iconst 14 (r := 0) X2.here hx (hb hby d203) (by decide) rfl ?_
    exact retN X2 hx (t := .boolean) hret (by simp) (hb hby d204) hr
theorem r_same (l : Launch) (Z : State) (a0 : Array Value) (hw : HW Z a0) (ws : List Jvm.Cond) (p0 p1 : Int32) (h0 : Heap) (n0 : Nat) (Z0 : n0 ≤ h0.size) :
    MF l Z y13_same b13_ 3 (some .boolean) ws ⟨1, 0, 0, 13⟩ #[(.int p0), (.int p1)] h0 (Q_r_same Z p0 p1 h0 n0) := by
  by_cases hp0 : (own_ln p0) = (own_ln p1)
  · by_cases hp1 : (own_ln p0) < (1 : Int32)
    · have hp2 := own_lt12 hp1
      exact r_same_ttt l Z a0 hw ws p0 p1 h0 n0 Z0 hp0 hp1 hp2
    · by_cases hp2 : ((own_u2 p0) &&& (255 : Int32)) = ((own_u2 p1) &&& (255 : Int32))
      · by_cases hp3 : (own_ln p0) < (2 : Int32)
        · exact r_same_tftt l Z a0 hw ws p0 p1 h0 n0 Z0 hp0 hp1 hp2 hp3
        · by_cases hp4 : ((own_u10 p0) &&& (255 : Int32)) = ((own_u10 p1) &&& (255 : Int32))
          · exact r_same_tftft l Z a0 hw ws p0 p1 h0 n0 Z0 hp0 hp1 hp2 hp3 hp4
          · exact r_same_tftff l Z a0 hw ws p0 p1 h0 n0 Z0 hp0 hp1 hp2 hp3 hp4
      · exact r_same_tff l Z a0 hw ws p0 p1 h0 n0 Z0 hp0 hp1 hp2
  · exact r_same_f l Z a0 hw ws p0 p1 h0 n0 Z0 hp0
abbrev b14_ := jdk_42_method_66_code
theorem d205 : decode b14_ 0 = .ok (.aload_n 0, 1) := by decide +kernel
theorem d206 : decode b14_ 1 = .ok (.aload_n 1, 1) := by decide +kernel
theorem d207 : decode b14_ 2 = .ok (.if_acmp .ne 5, 3) := by decide +kernel
theorem d208 : decode b14_ 7 = .ok (.aload_n 1, 1) := by decide +kernel
theorem d209 : decode b14_ 8 = .ok (.instanceof 10, 3) := by decide +kernel
theorem d210 : decode b14_ 11 = .ok (.ifCond .eq 43, 3) := by decide +kernel
theorem d211 : decode b14_ 14 = .ok (.aload_n 1, 1) := by decide +kernel
theorem d212 : decode b14_ 15 = .ok (.checkcast 10, 3) := by decide +kernel
theorem d213 : decode b14_ 18 = .ok (.astore_n 2, 1) := by decide +kernel
theorem d214 : decode b14_ 19 = .ok (.getstatic 38, 3) := by decide +kernel
theorem d215 : decode b14_ 22 = .ok (.ifCond .eq 14, 3) := by decide +kernel
theorem d216 : decode b14_ 25 = .ok (.aload_n 0, 1) := by decide +kernel
theorem d217 : decode b14_ 26 = .ok (.getfield 15, 3) := by decide +kernel
theorem d218 : decode b14_ 29 = .ok (.aload_n 2, 1) := by decide +kernel
theorem d219 : decode b14_ 30 = .ok (.getfield 15, 3) := by decide +kernel
theorem d220 : decode b14_ 33 = .ok (.if_icmp .ne 21, 3) := by decide +kernel
theorem d221 : decode b14_ 36 = .ok (.aload_n 0, 1) := by decide +kernel
theorem d222 : decode b14_ 37 = .ok (.getfield 9, 3) := by decide +kernel
theorem d223 : decode b14_ 40 = .ok (.aload_n 2, 1) := by decide +kernel
theorem d224 : decode b14_ 41 = .ok (.getfield 9, 3) := by decide +kernel
theorem d225 : decode b14_ 44 = .ok (.invokestatic 541, 3) := by decide +kernel
def w97 (hw : HW Z a0) := ow 97 hw rfl
abbrev b15_ := jdk_43_method_13_code
theorem d226 : decode b15_ 0 = .ok (.aload_n 0, 1) := by decide +kernel
theorem d227 : decode b15_ 1 = .ok (.arraylength, 1) := by decide +kernel
theorem d228 : decode b15_ 2 = .ok (.aload_n 1, 1) := by decide +kernel
theorem d229 : decode b15_ 3 = .ok (.arraylength, 1) := by decide +kernel
theorem d230 : decode b15_ 4 = .ok (.if_icmp .ne 30, 3) := by decide +kernel
theorem d231 : decode b15_ 7 = .ok (.iconst 0, 1) := by decide +kernel
theorem d232 : decode b15_ 8 = .ok (.istore_n 2, 1) := by decide +kernel
theorem d233 : decode b15_ 9 = .ok (.iload_n 2, 1) := by decide +kernel
theorem d234 : decode b15_ 10 = .ok (.aload_n 0, 1) := by decide +kernel
theorem d235 : decode b15_ 11 = .ok (.arraylength, 1) := by decide +kernel
theorem d236 : decode b15_ 12 = .ok (.if_icmp .ge 20, 3) := by decide +kernel
theorem d237 : decode b15_ 32 = .ok (.iconst 1, 1) := by decide +kernel
theorem d238 : decode b15_ 33 = .ok (.ireturn, 1) := by decide +kernel
abbrev y14_equals : MethodName := ⟨"java/lang/StringLatin1", "equals", "([B[B)Z"⟩
def Q_r15_equals (Z : State) (o0 o1 : Addr) (k_o0 k_o1 : ClassId) (h0 : Heap) (n0 : Nat) (v : Option Value) (h : Heap) (L : List Loc) : Prop := v = some (.int 1) ∧ Fr n0 L ∧ h = h0
theorem ef_r15_equals (o0 o1 : Addr) (m : MethodId) : entryFrame m #[(.ref o0), (.ref o1)] 3 = mkF m 0 #[.val (.ref o0), .val (.ref o1), .unset] [] := by first | (simp [entryFrame, mkF, argsToLocals, Value.category]; done) | rfl
set_option maxRecDepth 65536 in
set_option maxHeartbeats 40000000 in
theorem r15_equals (l : Launch) (Z : State) (a0 : Array Value) (hw : HW Z a0) (ws : List Jvm.Cond) (o0 o1 : Addr) (k_o0 k_o1 : ClassId) (h0 : Heap) (n0 : Nat) (Z0 : n0 ≤ h0.size) (V_o0 : Arv Z h0 o0 k_o0 .byte 0 [] z0) (V_o1 : Arv Z h0 o1 k_o1 .byte 0 [] z0) :
    MF l Z y14_equals b15_ 3 (some .boolean) ws ⟨0, 0, 0, 0⟩ #[(.ref o0), (.ref o1)] h0 (Q_r15_equals Z o0 o1 k_o0 k_o1 h0 n0) := by
  refine own_body (plainFor_of_name pn_StringLatin1120) (ef_r15_equals o0 o1) (by decide) (by decide) ?_
  intro p e s m below meth c s₁ hx hby hml hown hnm hret hZ hh e0 X0
  have N0 := Fr.nil n0
  refine ⟨s₁, _, some (.int 1), X0, (fun h => by cases h <;> rfl), ?_, fun fs hr => ?_⟩
  · show Q_r15_equals Z o0 o1 k_o0 k_o1 h0 n0 _ s₁.heap _
    rw [e0]
    exact ⟨rfl, N0, rfl⟩
  · refine t_aloadN 1 X0.here hx (hb hby d226) rfl rfl rfl ?_
    refine own_arlen (pc' := 2) X0 hx hZ e0 V_o0 (hb hby d227) rfl ?_
    refine t_aloadN 3 X0.here hx (hb hby d228) rfl rfl rfl ?_
    refine own_arlen (pc' := 4) X0 hx hZ e0 V_o1 (hb hby d229) rfl ?_
    refine t_icmpNo 7 X0.here hx (hb hby d230) (by decide) rfl ?_
    refine t_iconst 8 (r := 0) X0.here hx (hb hby d231) (by decide) rfl ?_
    refine t_istoreN (pc' := 9) (L' := #[vr o0, vr o1, vi 0]) X0.here hx (hb hby d232) rfl rfl ?_
    refine t_iloadN 10 X0.here hx (hb hby d233) rfl rfl ?_
    refine t_aloadN 11 X0.here hx (hb hby d234) rfl rfl rfl ?_
    refine own_arlen (pc' := 12) X0 hx hZ e0 V_o0 (hb hby d235) rfl ?_
    refine t_icmpYes (pc := 12) 32 X0.here hx (hb hby d236) (by decide) (by decide) (by decide) ?_
    refine t_iconst 33 (r := 1) X0.here hx (hb hby d237) (by decide) rfl ?_
    exact retN X0 hx (t := .boolean) hret (by simp) (hb hby d238) hr
def w99 (hw : HW Z a0) := ow 99 hw rfl
theorem pd_11 : parseMethodDescriptor "([B[B)Z" = some ⟨[(.array .byte), (.array .byte)], some .boolean⟩ := by decide +kernel
def w98 (hw : HW Z a0) := ow 98 hw rfl
theorem d239 : decode b14_ 47 = .ok (.ifCond .eq 7, 3) := by decide +kernel
theorem d240 : decode b14_ 50 = .ok (.iconst 1, 1) := by decide +kernel
theorem d241 : decode b14_ 51 = .ok (.goto 4, 3) := by decide +kernel
theorem d242 : decode b14_ 55 = .ok (.ireturn, 1) := by decide +kernel
abbrev y15_equals : MethodName := ⟨"java/lang/String", "equals", "(Ljava/lang/Object;)Z"⟩
def Q_r_eq_00 (Z : State) (o0 o1 v0 v1 : Addr) (cs : Int32) (k_v0 k_v1 : ClassId) (h0 : Heap) (n0 : Nat) (v : Option Value) (h : Heap) (L : List Loc) : Prop := v = some (.int 1) ∧ Fr n0 L ∧ h = h0
theorem ef_r_eq_00 (o0 o1 : Addr) (m : MethodId) : entryFrame m #[(.ref o0), (.ref o1)] 3 = mkF m 0 #[.val (.ref o0), .val (.ref o1), .unset] [] := by first | (simp [entryFrame, mkF, argsToLocals, Value.category]; done) | rfl
set_option maxRecDepth 65536 in
set_option maxHeartbeats 40000000 in
theorem r_eq_00 (l : Launch) (Z : State) (a0 : Array Value) (hw : HW Z a0) (ws : List Jvm.Cond) (o0 o1 v0 v1 : Addr) (cs : Int32) (k_v0 k_v1 : ClassId) (h0 : Heap) (n0 : Nat) (Z0 : n0 ≤ h0.size) (hcs : ¬ (cs = (0 : Int32))) (ne_o0_o1 : o0 ≠ o1) (E_o1 : Ex0 Z h0 o1) (S_COMPACT_STRINGS : SCS Z cs) (O0 : Old Z n0 h0) (F_o0_coder : Fd1 Z h0 o0 z0) (F_o1_coder : Fd1 Z h0 o1 z0) (F_o0_value : Fd0 Z h0 o0 (.ref v0)) (F_o1_value : Fd0 Z h0 o1 (.ref v1)) (V_v0 : Arv Z h0 v0 k_v0 .byte 0 [] z0) (V_v1 : Arv Z h0 v1 k_v1 .byte 0 [] z0) :
    MF l Z y15_equals b14_ 3 (some .boolean) ws ⟨3, 0, 0, 60⟩ #[(.ref o0), (.ref o1)] h0 (Q_r_eq_00 Z o0 o1 v0 v1 cs k_v0 k_v1 h0 n0) := by
  refine own_body (plainFor_of_name pn_String564) (ef_r_eq_00 o0 o1) (by decide) (by decide) ?_
  intro p e s m below meth c s₁ hx hby hml hown hnm hret hZ hh e0 X0
  have N0 := Fr.nil n0
  obtain ⟨T1, X1, e1, st1⟩ := instY X0 hx hZ hown (w53 hw) e0 (Ins.self E_o1) (g := (mkF m 8 #[vr o0, vr o1, .unset] [(.ref o1)])) rfl rfl (hb hby d209)
  obtain ⟨T2, X2, e2, st2⟩ := castY X1 hx hZ hown (w53 hw) e1 (Ins.self E_o1) (g := (mkF m 15 #[vr o0, vr o1, .unset] [(.ref o1)])) rfl rfl (hb hby d212)
  obtain ⟨T3, X3, e3, st3⟩ := getS2 X2 hx hZ hown (host := "") (Or.inl (w35 hw)) Via.refl e2 (Sta.ext O0.2 S_COMPACT_STRINGS) (g := (mkF m 19 #[vr o0, vr o1, vr o1] [])) rfl (hb hby d214)
  obtain ⟨T4, X4, e4, st4⟩ := getF X3 hx hZ hown (host := "") (Or.inl (w28 hw)) Via.refl e3 F_o0_coder (g := (mkF m 26 #[vr o0, vr o1, vr o1] [(.ref o0)])) rfl rfl (hb hby d217)
  obtain ⟨T5, X5, e5, st5⟩ := getF X4 hx hZ hown (host := "") (Or.inl (w28 hw)) Via.refl e4 F_o1_coder (g := (mkF m 30 #[vr o0, vr o1, vr o1] [(.ref o1), z0])) rfl rfl (hb hby d219)
  obtain ⟨T6, X6, e6, st6⟩ := getF X5 hx hZ hown (host := "") (Or.inl (w27 hw)) Via.refl e5 F_o0_value (g := (mkF m 37 #[vr o0, vr o1, vr o1] [(.ref o0)])) rfl rfl (hb hby d222)
  obtain ⟨T7, X7, e7, st7⟩ := getF X6 hx hZ hown (host := "") (Or.inl (w27 hw)) Via.refl e6 F_o1_value (g := (mkF m 41 #[vr o0, vr o1, vr o1] [(.ref o1), (.ref v0)])) rfl rfl (hb hby d224)
  obtain ⟨_, T8, L8, X8, hQ8, st8⟩ := own_static X7 hx hZ hown (w97 hw) (w98 hw) (w51 hw) (w99 hw) (by decide) (r15_equals l Z a0 hw [] v0 v1 k_v0 k_v1 h0 n0 Z0 V_v0 V_v1) e7 (W := 0) (by decide) (g := (mkF m 44 #[vr o0, vr o1, vr o1] [(.ref v1), (.ref v0)])) rfl (by rw [hml]; rfl) (argsL := [(.ref v0), (.ref v1)]) (rest := []) (lenOf pd_11 rfl) rfl rfl (own_wr rfl rfl) (hb hby d225)
  obtain ⟨rfl, N8q, e8⟩ := hQ8
  have N8 := Fr.app N0 N8q
  refine ⟨T8, _, some (.int 1), X8, (fun h => by cases h <;> rfl), ?_, fun fs hr => ?_⟩
  · show Q_r_eq_00 Z o0 o1 v0 v1 cs k_v0 k_v1 h0 n0 _ T8.heap _
    rw [e8]
    exact ⟨rfl, N8, rfl⟩
  · refine t_aloadN 1 X0.here hx (hb hby d205) rfl rfl rfl ?_
    refine t_aloadN 2 X0.here hx (hb hby d206) rfl rfl rfl ?_
    refine Jvm.RoadKit.acmp (g := (mkF m 2 #[vr o0, vr o1, .unset] [(.ref o1), (.ref o0)])) X0 hx rfl rfl rfl (pc0 := 2) (pc' := 7) (same := false) rfl (hb hby d207) rfl (decide_eq_false fun q => absurd (Value.ref.inj q) ne_o0_o1) (by decide) (by decide) ?_
    refine t_aloadN 8 X0.here hx (hb hby d208) rfl rfl rfl ?_
    refine st1 _ ?_
    refine t_ifNo 14 X1.here hx (hb hby d210) (by decide) rfl ?_
    refine t_aloadN 15 X1.here hx (hb hby d211) rfl rfl rfl ?_
    refine st2 _ ?_
    refine t_astoreN (pc' := 19) (L' := #[vr o0, vr o1, vr o1]) X2.here hx (hb hby d213) rfl rfl rfl ?_
    refine st3 _ ?_
    refine t_ifNo 25 X3.here hx (hb hby d215) ((if0 _ _).trans (feq hcs).1) rfl ?_
    refine t_aloadN 26 X3.here hx (hb hby d216) rfl rfl rfl ?_
    refine st4 _ ?_
    refine t_aloadN 30 X4.here hx (hb hby d218) rfl rfl rfl ?_
    refine st5 _ ?_
    refine t_icmpNo 36 X5.here hx (hb hby d220) (by decide) rfl ?_
    refine t_aloadN 37 X5.here hx (hb hby d221) rfl rfl rfl ?_
    refine st6 _ ?_
    refine t_aloadN 41 X6.here hx (hb hby d223) rfl rfl rfl ?_
    refine st7 _ ?_
    refine st8 _ ?_
    refine t_ifNo 50 X8.here hx (hb hby d239) (by decide) rfl ?_
    refine t_iconst 51 (r := 1) X8.here hx (hb hby d240) (by decide) rfl ?_
    refine t_goto (pc := 51) 55 X8.here hx (hb hby d241) (by decide) (by decide) ?_
    exact retN X8 hx (t := .boolean) hret (by simp) (hb hby d242) hr
theorem d243 : decode b15_ 34 = .ok (.iconst 0, 1) := by decide +kernel
theorem d244 : decode b15_ 35 = .ok (.ireturn, 1) := by decide +kernel
def Q_r16_equals (Z : State) (o0 o1 : Addr) (k_o0 : ClassId) (i_1 : Int32) (k_o1 : ClassId) (h0 : Heap) (n0 : Nat) (v : Option Value) (h : Heap) (L : List Loc) : Prop := v = some z0 ∧ Fr n0 L ∧ h = h0
theorem ef_r16_equals (o0 o1 : Addr) (m : MethodId) : entryFrame m #[(.ref o0), (.ref o1)] 3 = mkF m 0 #[.val (.ref o0), .val (.ref o1), .unset] [] := by first | (simp [entryFrame, mkF, argsToLocals, Value.category]; done) | rfl
set_option maxRecDepth 65536 in
set_option maxHeartbeats 40000000 in
theorem r16_equals (l : Launch) (Z : State) (a0 : Array Value) (hw : HW Z a0) (ws : List Jvm.Cond) (o0 o1 : Addr) (k_o0 : ClassId) (i_1 : Int32) (k_o1 : ClassId) (h0 : Heap) (n0 : Nat) (Z0 : n0 ≤ h0.size) (V_o0 : Arv Z h0 o0 k_o0 .byte 0 [] z0) (V_o1 : Arv Z h0 o1 k_o1 .byte 1 [(.int i_1)] z0) :
    MF l Z y14_equals b15_ 3 (some .boolean) ws ⟨0, 0, 0, 0⟩ #[(.ref o0), (.ref o1)] h0 (Q_r16_equals Z o0 o1 k_o0 i_1 k_o1 h0 n0) := by
  refine own_body (plainFor_of_name pn_StringLatin1120) (ef_r16_equals o0 o1) (by decide) (by decide) ?_
  intro p e s m below meth c s₁ hx hby hml hown hnm hret hZ hh e0 X0
  have N0 := Fr.nil n0
  refine ⟨s₁, _, some z0, X0, (fun h => by cases h <;> rfl), ?_, fun fs hr => ?_⟩
  · show Q_r16_equals Z o0 o1 k_o0 i_1 k_o1 h0 n0 _ s₁.heap _
    rw [e0]
    exact ⟨rfl, N0, rfl⟩
  · refine t_aloadN 1 X0.here hx (hb hby d226) rfl rfl rfl ?_
    refine own_arlen (pc' := 2) X0 hx hZ e0 V_o0 (hb hby d227) rfl ?_
    refine t_aloadN 3 X0.here hx (hb hby d228) rfl rfl rfl ?_
    refine own_arlen (pc' := 4) X0 hx hZ e0 V_o1 (hb hby d229) rfl ?_
    refine t_icmpYes (pc := 4) 34 X0.here hx (hb hby d230) (by decide) (by decide) (by decide) ?_
    refine t_iconst 35 (r := 0) X0.here hx (hb hby d243) (by decide) rfl ?_
    exact retN X0 hx (t := .boolean) hret (by simp) (hb hby d244) hr
theorem d245 : decode b14_ 54 = .ok (.iconst 0, 1) := by decide +kernel
def Q_r_eq_01 (Z : State) (o0 o1 v0 v1 : Addr) (cs : Int32) (k_v0 k_v1 : ClassId) (y0 : Int32) (h0 : Heap) (n0 : Nat) (v : Option Value) (h : Heap) (L : List Loc) : Prop := v = some z0 ∧ Fr n0 L ∧ h = h0
theorem ef_r_eq_01 (o0 o1 : Addr) (m : MethodId) : entryFrame m #[(.ref o0), (.ref o1)] 3 = mkF m 0 #[.val (.ref o0), .val (.ref o1), .unset] [] := by first | (simp [entryFrame, mkF, argsToLocals, Value.category]; done) | rfl
set_option maxRecDepth 65536 in
set_option maxHeartbeats 40000000 in
theorem r_eq_01 (l : Launch) (Z : State) (a0 : Array Value) (hw : HW Z a0) (ws : List Jvm.Cond) (o0 o1 v0 v1 : Addr) (cs : Int32) (k_v0 k_v1 : ClassId) (y0 : Int32) (h0 : Heap) (n0 : Nat) (Z0 : n0 ≤ h0.size) (hcs : ¬ (cs = (0 : Int32))) (ne_o0_o1 : o0 ≠ o1) (E_o1 : Ex0 Z h0 o1) (S_COMPACT_STRINGS : SCS Z cs) (O0 : Old Z n0 h0) (F_o0_coder : Fd1 Z h0 o0 z0) (F_o1_coder : Fd1 Z h0 o1 z0) (F_o0_value : Fd0 Z h0 o0 (.ref v0)) (F_o1_value : Fd0 Z h0 o1 (.ref v1)) (V_v0 : Arv Z h0 v0 k_v0 .byte 0 [] z0) (V_v1 : Arv Z h0 v1 k_v1 .byte 1 [(.int y0)] z0) :
    MF l Z y15_equals b14_ 3 (some .boolean) ws ⟨3, 0, 0, 60⟩ #[(.ref o0), (.ref o1)] h0 (Q_r_eq_01 Z o0 o1 v0 v1 cs k_v0 k_v1 y0 h0 n0) := by
  refine own_body (plainFor_of_name pn_String564) (ef_r_eq_01 o0 o1) (by decide) (by decide) ?_
  intro p e s m below meth c s₁ hx hby hml hown hnm hret hZ hh e0 X0
  have N0 := Fr.nil n0
  obtain ⟨T1, X1, e1, st1⟩ := instY X0 hx hZ hown (w53 hw) e0 (Ins.self E_o1) (g := (mkF m 8 #[vr o0, vr o1, .unset] [(.ref o1)])) rfl rfl (hb hby d209)
  obtain ⟨T2, X2, e2, st2⟩ := castY X1 hx hZ hown (w53 hw) e1 (Ins.self E_o1) (g := (mkF m 15 #[vr o0, vr o1, .unset] [(.ref o1)])) rfl rfl (hb hby d212)
  obtain ⟨T3, X3, e3, st3⟩ := getS2 X2 hx hZ hown (host := "") (Or.inl (w35 hw)) Via.refl e2 (Sta.ext O0.2 S_COMPACT_STRINGS) (g := (mkF m 19 #[vr o0, vr o1, vr o1] [])) rfl (hb hby d214)
  obtain ⟨T4, X4, e4, st4⟩ := getF X3 hx hZ hown (host := "") (Or.inl (w28 hw)) Via.refl e3 F_o0_coder (g := (mkF m 26 #[vr o0, vr o1, vr o1] [(.ref o0)])) rfl rfl (hb hby d217)
  obtain ⟨T5, X5, e5, st5⟩ := getF X4 hx hZ hown (host := "") (Or.inl (w28 hw)) Via.refl e4 F_o1_coder (g := (mkF m 30 #[vr o0, vr o1, vr o1] [(.ref o1), z0])) rfl rfl (hb hby d219)
  obtain ⟨T6, X6, e6, st6⟩ := getF X5 hx hZ hown (host := "") (Or.inl (w27 hw)) Via.refl e5 F_o0_value (g := (mkF m 37 #[vr o0, vr o1, vr o1] [(.ref o0)])) rfl rfl (hb hby d222)
  obtain ⟨T7, X7, e7, st7⟩ := getF X6 hx hZ hown (host := "") (Or.inl (w27 hw)) Via.refl e6 F_o1_value (g := (mkF m 41 #[vr o0, vr o1, vr o1] [(.ref o1), (.ref v0)])) rfl rfl (hb hby d224)
  obtain ⟨_, T8, L8, X8, hQ8, st8⟩ := own_static X7 hx hZ hown (w97 hw) (w98 hw) (w51 hw) (w99 hw) (by decide) (r16_equals l Z a0 hw [] v0 v1 k_v0 y0 k_v1 h0 n0 Z0 V_v0 V_v1) e7 (W := 0) (by decide) (g := (mkF m 44 #[vr o0, vr o1, vr o1] [(.ref v1), (.ref v0)])) rfl (by rw [hml]; rfl) (argsL := [(.ref v0), (.ref v1)]) (rest := []) (lenOf pd_11 rfl) rfl rfl (own_wr rfl rfl) (hb hby d225)
  obtain ⟨rfl, N8q, e8⟩ := hQ8
  have N8 := Fr.app N0 N8q
  refine ⟨T8, _, some z0, X8, (fun h => by cases h <;> rfl), ?_, fun fs hr => ?_⟩
  · show Q_r_eq_01 Z o0 o1 v0 v1 cs k_v0 k_v1 y0 h0 n0 _ T8.heap _
    rw [e8]
    exact ⟨rfl, N8, rfl⟩
  · refine t_aloadN 1 X0.here hx (hb hby d205) rfl rfl rfl ?_
    refine t_aloadN 2 X0.here hx (hb hby d206) rfl rfl rfl ?_
    refine Jvm.RoadKit.acmp (g := (mkF m 2 #[vr o0, vr o1, .unset] [(.ref o1), (.ref o0)])) X0 hx rfl rfl rfl (pc0 := 2) (pc' := 7) (same := false) rfl (hb hby d207) rfl (decide_eq_false fun q => absurd (Value.ref.inj q) ne_o0_o1) (by decide) (by decide) ?_
    refine t_aloadN 8 X0.here hx (hb hby d208) rfl rfl rfl ?_
    refine st1 _ ?_
    refine t_ifNo 14 X1.here hx (hb hby d210) (by decide) rfl ?_
    refine t_aloadN 15 X1.here hx (hb hby d211) rfl rfl rfl ?_
    refine st2 _ ?_
    refine t_astoreN (pc' := 19) (L' := #[vr o0, vr o1, vr o1]) X2.here hx (hb hby d213) rfl rfl rfl ?_
    refine st3 _ ?_
    refine t_ifNo 25 X3.here hx (hb hby d215) ((if0 _ _).trans (feq hcs).1) rfl ?_
    refine t_aloadN 26 X3.here hx (hb hby d216) rfl rfl rfl ?_
    refine st4 _ ?_
    refine t_aloadN 30 X4.here hx (hb hby d218) rfl rfl rfl ?_
    refine st5 _ ?_
    refine t_icmpNo 36 X5.here hx (hb hby d220) (by decide) rfl ?_
    refine t_aloadN 37 X5.here hx (hb hby d221) rfl rfl rfl ?_
    refine st6 _ ?_
    refine t_aloadN 41 X6.here hx (hb hby d223) rfl rfl rfl ?_
    refine st7 _ ?_
    refine st8 _ ?_
    refine t_ifYes (pc := 47) 54 X8.here hx (hb hby d239) (by decide) (by decide) (by decide) ?_
    refine t_iconst 55 (r := 0) X8.here hx (hb hby d245) (by decide) rfl ?_
    exact retN X8 hx (t := .boolean) hret (by simp) (hb hby d242) hr
def Q_r17_equals (Z : State) (o0 o1 : Addr) (k_o0 : ClassId) (i_1 i_2 : Int32) (k_o1 : ClassId) (h0 : Heap) (n0 : Nat) (v : Option Value) (h : Heap) (L : List Loc) : Prop := v = some z0 ∧ Fr n0 L ∧ h = h0
theorem ef_r17_equals (o0 o1 : Addr) (m : MethodId) : entryFrame m #[(.ref o0), (.ref o1)] 3 = mkF m 0 #[.val (.ref o0), .val (.ref o1), .unset] [] := by first | (simp [entryFrame, mkF, argsToLocals, Value.category]; done) | rfl
set_option maxRecDepth 65536 in
set_option maxHeartbeats 40000000 in
theorem r17_equals (l : Launch) (Z : State) (a0 : Array Value) (hw : HW Z a0) (ws : List Jvm.Cond) (o0 o1 : Addr) (k_o0 : ClassId) (i_1 i_2 : Int32) (k_o1 : ClassId) (h0 : Heap) (n0 : Nat) (Z0 : n0 ≤ h0.size) (V_o0 : Arv Z h0 o0 k_o0 .byte 0 [] z0) (V_o1 : Arv Z h0 o1 k_o1 .byte 2 [(.int i_1), (.int i_2)] z0) :
    MF l Z y14_equals b15_ 3 (some .boolean) ws ⟨0, 0, 0, 0⟩ #[(.ref o0), (.ref o1)] h0 (Q_r17_equals Z o0 o1 k_o0 i_1 i_2 k_o1 h0 n0) := by
  refine own_body (plainFor_of_name pn_StringLatin1120) (ef_r17_equals o0 o1) (by decide) (by decide) ?_
  intro p e s m below meth c s₁ hx hby hml hown hnm hret hZ hh e0 X0
  have N0 := Fr.nil n0
  refine ⟨s₁, _, some z0, X0, (fun h => by cases h <;> rfl), ?_, fun fs hr => ?_⟩
  · show Q_r17_equals Z o0 o1 k_o0 i_1 i_2 k_o1 h0 n0 _ s₁.heap _
    rw [e0]
    exact ⟨rfl, N0, rfl⟩
  · refine t_aloadN 1 X0.here hx (hb hby d226) rfl rfl rfl ?_
    refine own_arlen (pc' := 2) X0 hx hZ e0 V_o0 (hb hby d227) rfl ?_
    refine t_aloadN 3 X0.here hx (hb hby d228) rfl rfl rfl ?_
    refine own_arlen (pc' := 4) X0 hx hZ e0 V_o1 (hb hby d229) rfl ?_
    refine t_icmpYes (pc := 4) 34 X0.here hx (hb hby d230) (by decide) (by decide) (by decide) ?_
    refine t_iconst 35 (r := 0) X0.here hx (hb hby d243) (by decide) rfl ?_
    exact retN X0 hx (t := .boolean) hret (by simp) (hb hby d244) hr
def Q_r_eq_02 (Z : State) (o0 o1 v0 v1 : Addr) (cs : Int32) (k_v0 k_v1 : ClassId) (y0 y1 : Int32) (h0 : Heap) (n0 : Nat) (v : Option Value) (h : Heap) (L : List Loc) : Prop := v = some z0 ∧ Fr n0 L ∧ h = h0
theorem ef_r_eq_02 (o0 o1 : Addr) (m : MethodId) : entryFrame m #[(.ref o0), (.ref o1)] 3 = mkF m 0 #[.val (.ref o0), .val (.ref o1), .unset] [] := by first | (simp [entryFrame, mkF, argsToLocals, Value.category]; done) | rfl
set_option maxRecDepth 65536 in
set_option maxHeartbeats 40000000 in
theorem r_eq_02 (l : Launch) (Z : State) (a0 : Array Value) (hw : HW Z a0) (ws : List Jvm.Cond) (o0 o1 v0 v1 : Addr) (cs : Int32) (k_v0 k_v1 : ClassId) (y0 y1 : Int32) (h0 : Heap) (n0 : Nat) (Z0 : n0 ≤ h0.size) (hcs : ¬ (cs = (0 : Int32))) (ne_o0_o1 : o0 ≠ o1) (E_o1 : Ex0 Z h0 o1) (S_COMPACT_STRINGS : SCS Z cs) (O0 : Old Z n0 h0) (F_o0_coder : Fd1 Z h0 o0 z0) (F_o1_coder : Fd1 Z h0 o1 z0) (F_o0_value : Fd0 Z h0 o0 (.ref v0)) (F_o1_value : Fd0 Z h0 o1 (.ref v1)) (V_v0 : Arv Z h0 v0 k_v0 .byte 0 [] z0) (V_v1 : Arv Z h0 v1 k_v1 .byte 2 [(.int y0), (.int y1)] z0) :
    MF l Z y15_equals b14_ 3 (some .boolean) ws ⟨3, 0, 0, 60⟩ #[(.ref o0), (.ref o1)] h0 (Q_r_eq_02 Z o0 o1 v0 v1 cs k_v0 k_v1 y0 y1 h0 n0) := by
  refine own_body (plainFor_of_name pn_String564) (ef_r_eq_02 o0 o1) (by decide) (by decide) ?_
  intro p e s m below meth c s₁ hx hby hml hown hnm hret hZ hh e0 X0
  have N0 := Fr.nil n0
  obtain ⟨T1, X1, e1, st1⟩ := instY X0 hx hZ hown (w53 hw) e0 (Ins.self E_o1) (g := (mkF m 8 #[vr o0, vr o1, .unset] [(.ref o1)])) rfl rfl (hb hby d209)
  obtain ⟨T2, X2, e2, st2⟩ := castY X1 hx hZ hown (w53 hw) e1 (Ins.self E_o1) (g := (mkF m 15 #[vr o0, vr o1, .unset] [(.ref o1)])) rfl rfl (hb hby d212)
  obtain ⟨T3, X3, e3, st3⟩ := getS2 X2 hx hZ hown (host := "") (Or.inl (w35 hw)) Via.refl e2 (Sta.ext O0.2 S_COMPACT_STRINGS) (g := (mkF m 19 #[vr o0, vr o1, vr o1] [])) rfl (hb hby d214)
  obtain ⟨T4, X4, e4, st4⟩ := getF X3 hx hZ hown (host := "") (Or.inl (w28 hw)) Via.refl e3 F_o0_coder (g := (mkF m 26 #[vr o0, vr o1, vr o1] [(.ref o0)])) rfl rfl (hb hby d217)
  obtain ⟨T5, X5, e5, st5⟩ := getF X4 hx hZ hown (host := "") (Or.inl (w28 hw)) Via.refl e4 F_o1_coder (g := (mkF m 30 #[vr o0, vr o1, vr o1] [(.ref o1), z0])) rfl rfl (hb hby d219)
  obtain ⟨T6, X6, e6, st6⟩ := getF X5 hx hZ hown (host := "") (Or.inl (w27 hw)) Via.refl e5 F_o0_value (g := (mkF m 37 #[vr o0, vr o1, vr o1] [(.ref o0)])) rfl rfl (hb hby d222)
  obtain ⟨T7, X7, e7, st7⟩ := getF X6 hx hZ hown (host := "") (Or.inl (w27 hw)) Via.refl e6 F_o1_value (g := (mkF m 41 #[vr o0, vr o1, vr o1] [(.ref o1), (.ref v0)])) rfl rfl (hb hby d224)
  obtain ⟨_, T8, L8, X8, hQ8, st8⟩ := own_static X7 hx hZ hown (w97 hw) (w98 hw) (w51 hw) (w99 hw) (by decide) (r17_equals l Z a0 hw [] v0 v1 k_v0 y0 y1 k_v1 h0 n0 Z0 V_v0 V_v1) e7 (W := 0) (by decide) (g := (mkF m 44 #[vr o0, vr o1, vr o1] [(.ref v1), (.ref v0)])) rfl (by rw [hml]; rfl) (argsL := [(.ref v0), (.ref v1)]) (rest := []) (lenOf pd_11 rfl) rfl rfl (own_wr rfl rfl) (hb hby d225)
  obtain ⟨rfl, N8q, e8⟩ := hQ8
  have N8 := Fr.app N0 N8q
  refine ⟨T8, _, some z0, X8, (fun h => by cases h <;> rfl), ?_, fun fs hr => ?_⟩
  · show Q_r_eq_02 Z o0 o1 v0 v1 cs k_v0 k_v1 y0 y1 h0 n0 _ T8.heap _
    rw [e8]
    exact ⟨rfl, N8, rfl⟩
  · refine t_aloadN 1 X0.here hx (hb hby d205) rfl rfl rfl ?_
    refine t_aloadN 2 X0.here hx (hb hby d206) rfl rfl rfl ?_
    refine Jvm.RoadKit.acmp (g := (mkF m 2 #[vr o0, vr o1, .unset] [(.ref o1), (.ref o0)])) X0 hx rfl rfl rfl (pc0 := 2) (pc' := 7) (same := false) rfl (hb hby d207) rfl (decide_eq_false fun q => absurd (Value.ref.inj q) ne_o0_o1) (by decide) (by decide) ?_
    refine t_aloadN 8 X0.here hx (hb hby d208) rfl rfl rfl ?_
    refine st1 _ ?_
    refine t_ifNo 14 X1.here hx (hb hby d210) (by decide) rfl ?_
    refine t_aloadN 15 X1.here hx (hb hby d211) rfl rfl rfl ?_
    refine st2 _ ?_
    refine t_astoreN (pc' := 19) (L' := #[vr o0, vr o1, vr o1]) X2.here hx (hb hby d213) rfl rfl rfl ?_
    refine st3 _ ?_
    refine t_ifNo 25 X3.here hx (hb hby d215) ((if0 _ _).trans (feq hcs).1) rfl ?_
    refine t_aloadN 26 X3.here hx (hb hby d216) rfl rfl rfl ?_
    refine st4 _ ?_
    refine t_aloadN 30 X4.here hx (hb hby d218) rfl rfl rfl ?_
    refine st5 _ ?_
    refine t_icmpNo 36 X5.here hx (hb hby d220) (by decide) rfl ?_
    refine t_aloadN 37 X5.here hx (hb hby d221) rfl rfl rfl ?_
    refine st6 _ ?_
    refine t_aloadN 41 X6.here hx (hb hby d223) rfl rfl rfl ?_
    refine st7 _ ?_
    refine st8 _ ?_
    refine t_ifYes (pc := 47) 54 X8.here hx (hb hby d239) (by decide) (by decide) (by decide) ?_
    refine t_iconst 55 (r := 0) X8.here hx (hb hby d245) (by decide) rfl ?_
    exact retN X8 hx (t := .boolean) hret (by simp) (hb hby d242) hr
def Q_r18_equals (Z : State) (o0 o1 : Addr) (i_1 : Int32) (k_o0 k_o1 : ClassId) (h0 : Heap) (n0 : Nat) (v : Option Value) (h : Heap) (L : List Loc) : Prop := v = some z0 ∧ Fr n0 L ∧ h = h0
theorem ef_r18_equals (o0 o1 : Addr) (m : MethodId) : entryFrame m #[(.ref o0), (.ref o1)] 3 = mkF m 0 #[.val (.ref o0), .val (.ref o1), .unset] [] := by first | (simp [entryFrame, mkF, argsToLocals, Value.category]; done) | rfl
set_option maxRecDepth 65536 in
set_option maxHeartbeats 40000000 in
theorem r18_equals (l : Launch) (Z : State) (a0 : Array Value) (hw : HW Z a0) (ws : List Jvm.Cond) (o0 o1 : Addr) (i_1 : Int32) (k_o0 k_o1 : ClassId) (h0 : Heap) (n0 : Nat) (Z0 : n0 ≤ h0.size) (V_o0 : Arv Z h0 o0 k_o0 .byte 1 [(.int i_1)] z0) (V_o1 : Arv Z h0 o1 k_o1 .byte 0 [] z0) :
    MF l Z y14_equals b15_ 3 (some .boolean) ws ⟨0, 0, 0, 0⟩ #[(.ref o0), (.ref o1)] h0 (Q_r18_equals Z o0 o1 i_1 k_o0 k_o1 h0 n0) := by
  refine own_body (plainFor_of_name pn_StringLatin1120) (ef_r18_equals o0 o1) (by decide) (by decide) ?_
  intro p e s m below meth c s₁ hx hby hml hown hnm hret hZ hh e0 X0
  have N0 := Fr.nil n0
  refine ⟨s₁, _, some z0, X0, (fun h => by cases h <;> rfl), ?_, fun fs hr => ?_⟩
  · show Q_r18_equals Z o0 o1 i_1 k_o0 k_o1 h0 n0 _ s₁.heap _
    rw [e0]
    exact ⟨rfl, N0, rfl⟩
  · refine t_aloadN 1 X0.here hx (hb hby d226) rfl rfl rfl ?_
    refine own_arlen (pc' := 2) X0 hx hZ e0 V_o0 (hb hby d227) rfl ?_
    refine t_aloadN 3 X0.here hx (hb hby d228) rfl rfl rfl ?_
    refine own_arlen (pc' := 4) X0 hx hZ e0 V_o1 (hb hby d229) rfl ?_
    refine t_icmpYes (pc := 4) 34 X0.here hx (hb hby d230) (by decide) (by decide) (by decide) ?_
    refine t_iconst 35 (r := 0) X0.here hx (hb hby d243) (by decide) rfl ?_
    exact retN X0 hx (t := .boolean) hret (by simp) (hb hby d244) hr
def Q_r_eq_10 (Z : State) (o0 o1 v0 v1 : Addr) (cs : Int32) (k_v0 : ClassId) (x0 : Int32) (k_v1 : ClassId) (h0 : Heap) (n0 : Nat) (v : Option Value) (h : Heap) (L : List Loc) : Prop := v = some z0 ∧ Fr n0 L ∧ h = h0
theorem ef_r_eq_10 (o0 o1 : Addr) (m : MethodId) : entryFrame m #[(.ref o0), (.ref o1)] 3 = mkF m 0 #[.val (.ref o0), .val (.ref o1), .unset] [] := by first | (simp [entryFrame, mkF, argsToLocals, Value.category]; done) | rfl
set_option maxRecDepth 65536 in
set_option maxHeartbeats 40000000 in
theorem r_eq_10 (l : Launch) (Z : State) (a0 : Array Value) (hw : HW Z a0) (ws : List Jvm.Cond) (o0 o1 v0 v1 : Addr) (cs : Int32) (k_v0 : ClassId) (x0 : Int32) (k_v1 : ClassId) (h0 : Heap) (n0 : Nat) (Z0 : n0 ≤ h0.size) (hcs : ¬ (cs = (0 : Int32))) (ne_o0_o1 : o0 ≠ o1) (E_o1 : Ex0 Z h0 o1) (S_COMPACT_STRINGS : SCS Z cs) (O0 : Old Z n0 h0) (F_o0_coder : Fd1 Z h0 o0 z0) (F_o1_coder : Fd1 Z h0 o1 z0) (F_o0_value : Fd0 Z h0 o0 (.ref v0)) (F_o1_value : Fd0 Z h0 o1 (.ref v1)) (V_v0 : Arv Z h0 v0 k_v0 .byte 1 [(.int x0)] z0) (V_v1 : Arv Z h0 v1 k_v1 .byte 0 [] z0) :
    MF l Z y15_equals b14_ 3 (some .boolean) ws ⟨3, 0, 0, 60⟩ #[(.ref o0), (.ref o1)] h0 (Q_r_eq_10 Z o0 o1 v0 v1 cs k_v0 x0 k_v1 h0 n0) := by
  refine own_body (plainFor_of_name pn_String564) (ef_r_eq_10 o0 o1) (by decide) (by decide) ?_
  intro p e s m below meth c s₁ hx hby hml hown hnm hret hZ hh e0 X0
  have N0 := Fr.nil n0
  obtain ⟨T1, X1, e1, st1⟩ := instY X0 hx hZ hown (w53 hw) e0 (Ins.self E_o1) (g := (mkF m 8 #[vr o0, vr o1, .unset] [(.ref o1)])) rfl rfl (hb hby d209)
  obtain ⟨T2, X2, e2, st2⟩ := castY X1 hx hZ hown (w53 hw) e1 (Ins.self E_o1) (g := (mkF m 15 #[vr o0, vr o1, .unset] [(.ref o1)])) rfl rfl (hb hby d212)
  obtain ⟨T3, X3, e3, st3⟩ := getS2 X2 hx hZ hown (host := "") (Or.inl (w35 hw)) Via.refl e2 (Sta.ext O0.2 S_COMPACT_STRINGS) (g := (mkF m 19 #[vr o0, vr o1, vr o1] [])) rfl (hb hby d214)
  obtain ⟨T4, X4, e4, st4⟩ := getF X3 hx hZ hown (host := "") (Or.inl (w28 hw)) Via.refl e3 F_o0_coder (g := (mkF m 26 #[vr o0, vr o1, vr o1] [(.ref o0)])) rfl rfl (hb hby d217)
  obtain ⟨T5, X5, e5, st5⟩ := getF X4 hx hZ hown (host := "") (Or.inl (w28 hw)) Via.refl e4 F_o1_coder (g := (mkF m 30 #[vr o0, vr o1, vr o1] [(.ref o1), z0])) rfl rfl (hb hby d219)
  obtain ⟨T6, X6, e6, st6⟩ := getF X5 hx hZ hown (host := "") (Or.inl (w27 hw)) Via.refl e5 F_o0_value (g := (mkF m 37 #[vr o0, vr o1, vr o1] [(.ref o0)])) rfl rfl (hb hby d222)
  obtain ⟨T7, X7, e7, st7⟩ := getF X6 hx hZ hown (host := "") (Or.inl (w27 hw)) Via.refl e6 F_o1_value (g := (mkF m 41 #[vr o0, vr o1, vr o1] [(.ref o1), (.ref v0)])) rfl rfl (hb hby d224)
  obtain ⟨_, T8, L8, X8, hQ8, st8⟩ := own_static X7 hx hZ hown (w97 hw) (w98 hw) (w51 hw) (w99 hw) (by decide) (r18_equals l Z a0 hw [] v0 v1 x0 k_v0 k_v1 h0 n0 Z0 V_v0 V_v1) e7 (W := 0) (by decide) (g := (mkF m 44 #[vr o0, vr o1, vr o1] [(.ref v1), (.ref v0)])) rfl (by rw [hml]; rfl) (argsL := [(.ref v0), (.ref v1)]) (rest := []) (lenOf pd_11 rfl) rfl rfl (own_wr rfl rfl) (hb hby d225)
  obtain ⟨rfl, N8q, e8⟩ := hQ8
  have N8 := Fr.app N0 N8q
  refine ⟨T8, _, some z0, X8, (fun h => by cases h <;> rfl), ?_, fun fs hr => ?_⟩
  · show Q_r_eq_10 Z o0 o1 v0 v1 cs k_v0 x0 k_v1 h0 n0 _ T8.heap _
    rw [e8]
    exact ⟨rfl, N8, rfl⟩
  · refine t_aloadN 1 X0.here hx (hb hby d205) rfl rfl rfl ?_
    refine t_aloadN 2 X0.here hx (hb hby d206) rfl rfl rfl ?_
    refine Jvm.RoadKit.acmp (g := (mkF m 2 #[vr o0, vr o1, .unset] [(.ref o1), (.ref o0)])) X0 hx rfl rfl rfl (pc0 := 2) (pc' := 7) (same := false) rfl (hb hby d207) rfl (decide_eq_false fun q => absurd (Value.ref.inj q) ne_o0_o1) (by decide) (by decide) ?_
    refine t_aloadN 8 X0.here hx (hb hby d208) rfl rfl rfl ?_
    refine st1 _ ?_
    refine t_ifNo 14 X1.here hx (hb hby d210) (by decide) rfl ?_
    refine t_aloadN 15 X1.here hx (hb hby d211) rfl rfl rfl ?_
    refine st2 _ ?_
    refine t_astoreN (pc' := 19) (L' := #[vr o0, vr o1, vr o1]) X2.here hx (hb hby d213) rfl rfl rfl ?_
    refine st3 _ ?_
    refine t_ifNo 25 X3.here hx (hb hby d215) ((if0 _ _).trans (feq hcs).1) rfl ?_
    refine t_aloadN 26 X3.here hx (hb hby d216) rfl rfl rfl ?_
    refine st4 _ ?_
    refine t_aloadN 30 X4.here hx (hb hby d218) rfl rfl rfl ?_
    refine st5 _ ?_
    refine t_icmpNo 36 X5.here hx (hb hby d220) (by decide) rfl ?_
    refine t_aloadN 37 X5.here hx (hb hby d221) rfl rfl rfl ?_
    refine st6 _ ?_
    refine t_aloadN 41 X6.here hx (hb hby d223) rfl rfl rfl ?_
    refine st7 _ ?_
    refine st8 _ ?_
    refine t_ifYes (pc := 47) 54 X8.here hx (hb hby d239) (by decide) (by decide) (by decide) ?_
    refine t_iconst 55 (r := 0) X8.here hx (hb hby d245) (by decide) rfl ?_
    exact retN X8 hx (t := .boolean) hret (by simp) (hb hby d242) hr
theorem d246 : decode b15_ 15 = .ok (.aload_n 0, 1) := by decide +kernel
theorem d247 : decode b15_ 16 = .ok (.iload_n 2, 1) := by decide +kernel
theorem d248 : decode b15_ 17 = .ok (.baload, 1) := by decide +kernel
theorem d249 : decode b15_ 18 = .ok (.aload_n 1, 1) := by decide +kernel
theorem d250 : decode b15_ 19 = .ok (.iload_n 2, 1) := by decide +kernel
theorem d251 : decode b15_ 20 = .ok (.baload, 1) := by decide +kernel
theorem d252 : decode b15_ 21 = .ok (.if_icmp .eq 5, 3) := by decide +kernel
theorem d253 : decode b15_ 26 = .ok (.iinc 2 1, 3) := by decide +kernel
theorem d254 : decode b15_ 29 = .ok (.goto (-20), 3) := by decide +kernel
def Q_r19_equals (Z : State) (o0 o1 : Addr) (i_1 : Int32) (k_o0 : ClassId) (i_2 : Int32) (k_o1 : ClassId) (h0 : Heap) (n0 : Nat) (v : Option Value) (h : Heap) (L : List Loc) : Prop := v = some (.int 1) ∧ Fr n0 L ∧ h = h0
theorem ef_r19_equals (o0 o1 : Addr) (m : MethodId) : entryFrame m #[(.ref o0), (.ref o1)] 3 = mkF m 0 #[.val (.ref o0), .val (.ref o1), .unset] [] := by first | (simp [entryFrame, mkF, argsToLocals, Value.category]; done) | rfl
set_option maxRecDepth 65536 in
set_option maxHeartbeats 40000000 in
theorem r19_equals (l : Launch) (Z : State) (a0 : Array Value) (hw : HW Z a0) (ws : List Jvm.Cond) (o0 o1 : Addr) (i_1 : Int32) (k_o0 : ClassId) (i_2 : Int32) (k_o1 : ClassId) (h0 : Heap) (n0 : Nat) (Z0 : n0 ≤ h0.size) (V_o0 : Arv Z h0 o0 k_o0 .byte 1 [(.int i_1)] z0) (V_o1 : Arv Z h0 o1 k_o1 .byte 1 [(.int i_2)] z0) (hp0 : i_1 = i_2) :
    MF l Z y14_equals b15_ 3 (some .boolean) ws ⟨0, 0, 0, 0⟩ #[(.ref o0), (.ref o1)] h0 (Q_r19_equals Z o0 o1 i_1 k_o0 i_2 k_o1 h0 n0) := by
  refine own_body (plainFor_of_name pn_StringLatin1120) (ef_r19_equals o0 o1) (by decide) (by decide) ?_
  intro p e s m below meth c s₁ hx hby hml hown hnm hret hZ hh e0 X0
  have N0 := Fr.nil n0
  refine ⟨s₁, _, some (.int 1), X0, (fun h => by cases h <;> rfl), ?_, fun fs hr => ?_⟩
  · show Q_r19_equals Z o0 o1 i_1 k_o0 i_2 k_o1 h0 n0 _ s₁.heap _
    rw [e0]
    exact ⟨rfl, N0, rfl⟩
  · refine t_aloadN 1 X0.here hx (hb hby d226) rfl rfl rfl ?_
    refine own_arlen (pc' := 2) X0 hx hZ e0 V_o0 (hb hby d227) rfl ?_
    refine t_aloadN 3 X0.here hx (hb hby d228) rfl rfl rfl ?_
    refine own_arlen (pc' := 4) X0 hx hZ e0 V_o1 (hb hby d229) rfl ?_
    refine t_icmpNo 7 X0.here hx (hb hby d230) (by decide) rfl ?_
    refine t_iconst 8 (r := 0) X0.here hx (hb hby d231) (by decide) rfl ?_
    refine t_istoreN (pc' := 9) (L' := #[vr o0, vr o1, vi 0]) X0.here hx (hb hby d232) rfl rfl ?_
    refine t_iloadN 10 X0.here hx (hb hby d233) rfl rfl ?_
    refine t_aloadN 11 X0.here hx (hb hby d234) rfl rfl rfl ?_
    refine own_arlen (pc' := 12) X0 hx hZ e0 V_o0 (hb hby d235) rfl ?_
    refine t_icmpNo 15 X0.here hx (hb hby d236) (by decide) rfl ?_
    refine t_aloadN 16 X0.here hx (hb hby d246) rfl rfl rfl ?_
    refine t_iloadN 17 X0.here hx (hb hby d247) rfl rfl ?_
    refine own_aldB (pc' := 18) X0 hx hZ e0 V_o0 (j := 0) (v := (.int i_1)) (by decide) rfl (hb hby d248) rfl ?_
    refine t_aloadN 19 X0.here hx (hb hby d249) rfl rfl rfl ?_
    refine t_iloadN 20 X0.here hx (hb hby d250) rfl rfl ?_
    refine own_aldB (pc' := 21) X0 hx hZ e0 V_o1 (j := 0) (v := (.int i_2)) (by decide) rfl (hb hby d251) rfl ?_
    refine t_icmpYes (pc := 21) 26 X0.here hx (hb hby d252) (teq hp0).1 (by decide) (by decide) ?_
    refine t_iinc (pc' := 29) (L' := #[vr o0, vr o1, vi 1]) X0.here hx (hb hby d253) rfl (by first | rfl | decide) rfl ?_
    refine t_goto (pc := 29) 9 X0.here hx (hb hby d254) (by decide) (by decide) ?_
    refine t_iloadN 10 X0.here hx (hb hby d233) rfl rfl ?_
    refine t_aloadN 11 X0.here hx (hb hby d234) rfl rfl rfl ?_
    refine own_arlen (pc' := 12) X0 hx hZ e0 V_o0 (hb hby d235) rfl ?_
    refine t_icmpYes (pc := 12) 32 X0.here hx (hb hby d236) (by decide) (by decide) (by decide) ?_
    refine t_iconst 33 (r := 1) X0.here hx (hb hby d237) (by decide) rfl ?_
    exact retN X0 hx (t := .boolean) hret (by simp) (hb hby d238) hr
def Q_r_eq_11e (Z : State) (o0 o1 v0 v1 : Addr) (cs : Int32) (k_v0 : ClassId) (x0 : Int32) (k_v1 : ClassId) (y0 : Int32) (h0 : Heap) (n0 : Nat) (v : Option Value) (h : Heap) (L : List Loc) : Prop := v = some (.int 1) ∧ Fr n0 L ∧ h = h0
theorem ef_r_eq_11e (o0 o1 : Addr) (m : MethodId) : entryFrame m #[(.ref o0), (.ref o1)] 3 = mkF m 0 #[.val (.ref o0), .val (.ref o1), .unset] [] := by first | (simp [entryFrame, mkF, argsToLocals, Value.category]; done) | rfl
set_option maxRecDepth 65536 in
set_option maxHeartbeats 40000000 in
theorem r_eq_11e (l : Launch) (Z : State) (a0 : Array Value) (hw : HW Z a0) (ws : List Jvm.Cond) (o0 o1 v0 v1 : Addr) (cs : Int32) (k_v0 : ClassId) (x0 : Int32) (k_v1 : ClassId) (y0 : Int32) (h0 : Heap) (n0 : Nat) (Z0 : n0 ≤ h0.size) (hb0 : x0 = y0) (hcs : ¬ (cs = (0 : Int32))) (ne_o0_o1 : o0 ≠ o1) (E_o1 : Ex0 Z h0 o1) (S_COMPACT_STRINGS : SCS Z cs) (O0 : Old Z n0 h0) (F_o0_coder : Fd1 Z h0 o0 z0) (F_o1_coder : Fd1 Z h0 o1 z0) (F_o0_value : Fd0 Z h0 o0 (.ref v0)) (F_o1_value : Fd0 Z h0 o1 (.ref v1)) (V_v0 : Arv Z h0 v0 k_v0 .byte 1 [(.int x0)] z0) (V_v1 : Arv Z h0 v1 k_v1 .byte 1 [(.int y0)] z0) :
    MF l Z y15_equals b14_ 3 (some .boolean) ws ⟨3, 0, 0, 60⟩ #[(.ref o0), (.ref o1)] h0 (Q_r_eq_11e Z o0 o1 v0 v1 cs k_v0 x0 k_v1 y0 h0 n0) := by
  refine own_body (plainFor_of_name pn_String564) (ef_r_eq_11e o0 o1) (by decide) (by decide) ?_
  intro p e s m below meth c s₁ hx hby hml hown hnm hret hZ hh e0 X0
  have N0 := Fr.nil n0
  obtain ⟨T1, X1, e1, st1⟩ := instY X0 hx hZ hown (w53 hw) e0 (Ins.self E_o1) (g := (mkF m 8 #[vr o0, vr o1, .unset] [(.ref o1)])) rfl rfl (hb hby d209)
  obtain ⟨T2, X2, e2, st2⟩ := castY X1 hx hZ hown (w53 hw) e1 (Ins.self E_o1) (g := (mkF m 15 #[vr o0, vr o1, .unset] [(.ref o1)])) rfl rfl (hb hby d212)
  obtain ⟨T3, X3, e3, st3⟩ := getS2 X2 hx hZ hown (host := "") (Or.inl (w35 hw)) Via.refl e2 (Sta.ext O0.2 S_COMPACT_STRINGS) (g := (mkF m 19 #[vr o0, vr o1, vr o1] [])) rfl (hb hby d214)
  obtain ⟨T4, X4, e4, st4⟩ := getF X3 hx hZ hown (host := "") (Or.inl (w28 hw)) Via.refl e3 F_o0_coder (g := (mkF m 26 #[vr o0, vr o1, vr o1] [(.ref o0)])) rfl rfl (hb hby d217)
  obtain ⟨T5, X5, e5, st5⟩ := getF X4 hx hZ hown (host := "") (Or.inl (w28 hw)) Via.refl e4 F_o1_coder (g := (mkF m 30 #[vr o0, vr o1, vr o1] [(.ref o1), z0])) rfl rfl (hb hby d219)
  obtain ⟨T6, X6, e6, st6⟩ := getF X5 hx hZ hown (host := "") (Or.inl (w27 hw)) Via.refl e5 F_o0_value (g := (mkF m 37 #[vr o0, vr o1, vr o1] [(.ref o0)])) rfl rfl (hb hby d222)
  obtain ⟨T7, X7, e7, st7⟩ := getF X6 hx hZ hown (host := "") (Or.inl (w27 hw)) Via.refl e6 F_o1_value (g := (mkF m 41 #[vr o0, vr o1, vr o1] [(.ref o1), (.ref v0)])) rfl rfl (hb hby d224)
  obtain ⟨_, T8, L8, X8, hQ8, st8⟩ := own_static X7 hx hZ hown (w97 hw) (w98 hw) (w51 hw) (w99 hw) (by decide) (r19_equals l Z a0 hw [] v0 v1 x0 k_v0 y0 k_v1 h0 n0 Z0 V_v0 V_v1 hb0) e7 (W := 0) (by decide) (g := (mkF m 44 #[vr o0, vr o1, vr o1] [(.ref v1), (.ref v0)])) rfl (by rw [hml]; rfl) (argsL := [(.ref v0), (.ref v1)]) (rest := []) (lenOf pd_11 rfl) rfl rfl (own_wr rfl rfl) (hb hby d225)
  obtain ⟨rfl, N8q, e8⟩ := hQ8
  have N8 := Fr.app N0 N8q
  refine ⟨T8, _, some (.int 1), X8, (fun h => by cases h <;> rfl), ?_, fun fs hr => ?_⟩
  · show Q_r_eq_11e Z o0 o1 v0 v1 cs k_v0 x0 k_v1 y0 h0 n0 _ T8.heap _
    rw [e8]
    exact ⟨rfl, N8, rfl⟩
  · refine t_aloadN 1 X0.here hx (hb hby d205) rfl rfl rfl ?_
    refine t_aloadN 2 X0.here hx (hb hby d206) rfl rfl rfl ?_
    refine Jvm.RoadKit.acmp (g := (mkF m 2 #[vr o0, vr o1, .unset] [(.ref o1), (.ref o0)])) X0 hx rfl rfl rfl (pc0 := 2) (pc' := 7) (same := false) rfl (hb hby d207) rfl (decide_eq_false fun q => absurd (Value.ref.inj q) ne_o0_o1) (by decide) (by decide) ?_
    refine t_aloadN 8 X0.here hx (hb hby d208) rfl rfl rfl ?_
    refine st1 _ ?_
    refine t_ifNo 14 X1.here hx (hb hby d210) (by decide) rfl ?_
    refine t_aloadN 15 X1.here hx (hb hby d211) rfl rfl rfl ?_
    refine st2 _ ?_
    refine t_astoreN (pc' := 19) (L' := #[vr o0, vr o1, vr o1]) X2.here hx (hb hby d213) rfl rfl rfl ?_
    refine st3 _ ?_
    refine t_ifNo 25 X3.here hx (hb hby d215) ((if0 _ _).trans (feq hcs).1) rfl ?_
    refine t_aloadN 26 X3.here hx (hb hby d216) rfl rfl rfl ?_
    refine st4 _ ?_
    refine t_aloadN 30 X4.here hx (hb hby d218) rfl rfl rfl ?_
    refine st5 _ ?_
    refine t_icmpNo 36 X5.here hx (hb hby d220) (by decide) rfl ?_
    refine t_aloadN 37 X5.here hx (hb hby d221) rfl rfl rfl ?_
    refine st6 _ ?_
    refine t_aloadN 41 X6.here hx (hb hby d223) rfl rfl rfl ?_
    refine st7 _ ?_
    refine st8 _ ?_
    refine t_ifNo 50 X8.here hx (hb hby d239) (by decide) rfl ?_
    refine t_iconst 51 (r := 1) X8.here hx (hb hby d240) (by decide) rfl ?_
    refine t_goto (pc := 51) 55 X8.here hx (hb hby d241) (by decide) (by decide) ?_
    exact retN X8 hx (t := .boolean) hret (by simp) (hb hby d242) hr
theorem d255 : decode b15_ 24 = .ok (.iconst 0, 1) := by decide +kernel
theorem d256 : decode b15_ 25 = .ok (.ireturn, 1) := by decide +kernel
def Q_r20_equals (Z : State) (o0 o1 : Addr) (i_1 : Int32) (k_o0 : ClassId) (i_2 : Int32) (k_o1 : ClassId) (h0 : Heap) (n0 : Nat) (v : Option Value) (h : Heap) (L : List Loc) : Prop := v = some z0 ∧ Fr n0 L ∧ h = h0
theorem ef_r20_equals (o0 o1 : Addr) (m : MethodId) : entryFrame m #[(.ref o0), (.ref o1)] 3 = mkF m 0 #[.val (.ref o0), .val (.ref o1), .unset] [] := by first | (simp [entryFrame, mkF, argsToLocals, Value.category]; done) | rfl
set_option maxRecDepth 65536 in
set_option maxHeartbeats 40000000 in
theorem r20_equals (l : Launch) (Z : State) (a0 : Array Value) (hw : HW Z a0) (ws : List Jvm.Cond) (o0 o1 : Addr) (i_1 : Int32) (k_o0 : ClassId) (i_2 : Int32) (k_o1 : ClassId) (h0 : Heap) (n0 : Nat) (Z0 : n0 ≤ h0.size) (V_o0 : Arv Z h0 o0 k_o0 .byte 1 [(.int i_1)] z0) (V_o1 : Arv Z h0 o1 k_o1 .byte 1 [(.int i_2)] z0) (hp0 : ¬ (i_1 = i_2)) :
    MF l Z y14_equals b15_ 3 (some .boolean) ws ⟨0, 0, 0, 0⟩ #[(.ref o0), (.ref o1)] h0 (Q_r20_equals Z o0 o1 i_1 k_o0 i_2 k_o1 h0 n0) := by
  refine own_body (plainFor_of_name pn_StringLatin1120) (ef_r20_equals o0 o1) (by decide) (by decide) ?_
  intro p e s m below meth c s₁ hx hby hml hown hnm hret hZ hh e0 X0
  have N0 := Fr.nil n0
  refine ⟨s₁, _, some z0, X0, (fun h => by cases h <;> rfl), ?_, fun fs hr => ?_⟩
  · show Q_r20_equals Z o0 o1 i_1 k_o0 i_2 k_o1 h0 n0 _ s₁.heap _
    rw [e0]
    exact ⟨rfl, N0, rfl⟩
  · refine t_aloadN 1 X0.here hx (hb hby d226) rfl rfl rfl ?_
    refine own_arlen (pc' := 2) X0 hx hZ e0 V_o0 (hb hby d227) rfl ?_
    refine t_aloadN 3 X0.here hx (hb hby d228) rfl rfl rfl ?_
    refine own_arlen (pc' := 4) X0 hx hZ e0 V_o1 (hb hby d229) rfl ?_
    refine t_icmpNo 7 X0.here hx (hb hby d230) (by decide) rfl ?_
    refine t_iconst 8 (r := 0) X0.here hx (hb hby d231) (by decide) rfl ?_
    refine t_istoreN (pc' := 9) (L' := #[vr o0, vr o1, vi 0]) X0.here hx (hb hby d232) rfl rfl ?_
    refine t_iloadN 10 X0.here hx (hb hby d233) rfl rfl ?_
    refine t_aloadN 11 X0.here hx (hb hby d234) rfl rfl rfl ?_
    refine own_arlen (pc' := 12) X0 hx hZ e0 V_o0 (hb hby d235) rfl ?_
    refine t_icmpNo 15 X0.here hx (hb hby d236) (by decide) rfl ?_
    refine t_aloadN 16 X0.here hx (hb hby d246) rfl rfl rfl ?_
    refine t_iloadN 17 X0.here hx (hb hby d247) rfl rfl ?_
    refine own_aldB (pc' := 18) X0 hx hZ e0 V_o0 (j := 0) (v := (.int i_1)) (by decide) rfl (hb hby d248) rfl ?_
    refine t_aloadN 19 X0.here hx (hb hby d249) rfl rfl rfl ?_
    refine t_iloadN 20 X0.here hx (hb hby d250) rfl rfl ?_
    refine own_aldB (pc' := 21) X0 hx hZ e0 V_o1 (j := 0) (v := (.int i_2)) (by decide) rfl (hb hby d251) rfl ?_
    refine t_icmpNo 24 X0.here hx (hb hby d252) (feq hp0).1 rfl ?_
    refine t_iconst 25 (r := 0) X0.here hx (hb hby d255) (by decide) rfl ?_
    exact retN X0 hx (t := .boolean) hret (by simp) (hb hby d256) hr
def Q_r_eq_11n (Z : State) (o0 o1 v0 v1 : Addr) (cs : Int32) (k_v0 : ClassId) (x0 : Int32) (k_v1 : ClassId) (y0 : Int32) (h0 : Heap) (n0 : Nat) (v : Option Value) (h : Heap) (L : List Loc) : Prop := v = some z0 ∧ Fr n0 L ∧ h = h0
theorem ef_r_eq_11n (o0 o1 : Addr) (m : MethodId) : entryFrame m #[(.ref o0), (.ref o1)] 3 = mkF m 0 #[.val (.ref o0), .val (.ref o1), .unset] [] := by first | (simp [entryFrame, mkF, argsToLocals, Value.category]; done) | rfl
set_option maxRecDepth 65536 in
set_option maxHeartbeats 40000000 in
theorem r_eq_11n (l : Launch) (Z : State) (a0 : Array Value) (hw : HW Z a0) (ws : List Jvm.Cond) (o0 o1 v0 v1 : Addr) (cs : Int32) (k_v0 : ClassId) (x0 : Int32) (k_v1 : ClassId) (y0 : Int32) (h0 : Heap) (n0 : Nat) (Z0 : n0 ≤ h0.size) (hb0 : ¬ (x0 = y0)) (hcs : ¬ (cs = (0 : Int32))) (ne_o0_o1 : o0 ≠ o1) (E_o1 : Ex0 Z h0 o1) (S_COMPACT_STRINGS : SCS Z cs) (O0 : Old Z n0 h0) (F_o0_coder : Fd1 Z h0 o0 z0) (F_o1_coder : Fd1 Z h0 o1 z0) (F_o0_value : Fd0 Z h0 o0 (.ref v0)) (F_o1_value : Fd0 Z h0 o1 (.ref v1)) (V_v0 : Arv Z h0 v0 k_v0 .byte 1 [(.int x0)] z0) (V_v1 : Arv Z h0 v1 k_v1 .byte 1 [(.int y0)] z0) :
    MF l Z y15_equals b14_ 3 (some .boolean) ws ⟨3, 0, 0, 60⟩ #[(.ref o0), (.ref o1)] h0 (Q_r_eq_11n Z o0 o1 v0 v1 cs k_v0 x0 k_v1 y0 h0 n0) := by
  refine own_body (plainFor_of_name pn_String564) (ef_r_eq_11n o0 o1) (by decide) (by decide) ?_
  intro p e s m below meth c s₁ hx hby hml hown hnm hret hZ hh e0 X0
  have N0 := Fr.nil n0
  obtain ⟨T1, X1, e1, st1⟩ := instY X0 hx hZ hown (w53 hw) e0 (Ins.self E_o1) (g := (mkF m 8 #[vr o0, vr o1, .unset] [(.ref o1)])) rfl rfl (hb hby d209)
  obtain ⟨T2, X2, e2, st2⟩ := castY X1 hx hZ hown (w53 hw) e1 (Ins.self E_o1) (g := (mkF m 15 #[vr o0, vr o1, .unset] [(.ref o1)])) rfl rfl (hb hby d212)
  obtain ⟨T3, X3, e3, st3⟩ := getS2 X2 hx hZ hown (host := "") (Or.inl (w35 hw)) Via.refl e2 (Sta.ext O0.2 S_COMPACT_STRINGS) (g := (mkF m 19 #[vr o0, vr o1, vr o1] [])) rfl (hb hby d214)
  obtain ⟨T4, X4, e4, st4⟩ := getF X3 hx hZ hown (host := "") (Or.inl (w28 hw)) Via.refl e3 F_o0_coder (g := (mkF m 26 #[vr o0, vr o1, vr o1] [(.ref o0)])) rfl rfl (hb hby d217)
  obtain ⟨T5, X5, e5, st5⟩ := getF X4 hx hZ hown (host := "") (Or.inl (w28 hw)) Via.refl e4 F_o1_coder (g := (mkF m 30 #[vr o0, vr o1, vr o1] [(.ref o1), z0])) rfl rfl (hb hby d219)
  obtain ⟨T6, X6, e6, st6⟩ := getF X5 hx hZ hown (host := "") (Or.inl (w27 hw)) Via.refl e5 F_o0_value (g := (mkF m 37 #[vr o0, vr o1, vr o1] [(.ref o0)])) rfl rfl (hb hby d222)
  obtain ⟨T7, X7, e7, st7⟩ := getF X6 hx hZ hown (host := "") (Or.inl (w27 hw)) Via.refl e6 F_o1_value (g := (mkF m 41 #[vr o0, vr o1, vr o1] [(.ref o1), (.ref v0)])) rfl rfl (hb hby d224)
  obtain ⟨_, T8, L8, X8, hQ8, st8⟩ := own_static X7 hx hZ hown (w97 hw) (w98 hw) (w51 hw) (w99 hw) (by decide) (r20_equals l Z a0 hw [] v0 v1 x0 k_v0 y0 k_v1 h0 n0 Z0 V_v0 V_v1 hb0) e7 (W := 0) (by decide) (g := (mkF m 44 #[vr o0, vr o1, vr o1] [(.ref v1), (.ref v0)])) rfl (by rw [hml]; rfl) (argsL := [(.ref v0), (.ref v1)]) (rest := []) (lenOf pd_11 rfl) rfl rfl (own_wr rfl rfl) (hb hby d225)
  obtain ⟨rfl, N8q, e8⟩ := hQ8
  have N8 := Fr.app N0 N8q
  refine ⟨T8, _, some z0, X8, (fun h => by cases h <;> rfl), ?_, fun fs hr => ?_⟩
  · show Q_r_eq_11n Z o0 o1 v0 v1 cs k_v0 x0 k_v1 y0 h0 n0 _ T8.heap _
    rw [e8]
    exact ⟨rfl, N8, rfl⟩
  · refine t_aloadN 1 X0.here hx (hb hby d205) rfl rfl rfl ?_
    refine t_aloadN 2 X0.here hx (hb hby d206) rfl rfl rfl ?_
    refine Jvm.RoadKit.acmp (g := (mkF m 2 #[vr o0, vr o1, .unset] [(.ref o1), (.ref o0)])) X0 hx rfl rfl rfl (pc0 := 2) (pc' := 7) (same := false) rfl (hb hby d207) rfl (decide_eq_false fun q => absurd (Value.ref.inj q) ne_o0_o1) (by decide) (by decide) ?_
    refine t_aloadN 8 X0.here hx (hb hby d208) rfl rfl rfl ?_
    refine st1 _ ?_
    refine t_ifNo 14 X1.here hx (hb hby d210) (by decide) rfl ?_
    refine t_aloadN 15 X1.here hx (hb hby d211) rfl rfl rfl ?_
    refine st2 _ ?_
    refine t_astoreN (pc' := 19) (L' := #[vr o0, vr o1, vr o1]) X2.here hx (hb hby d213) rfl rfl rfl ?_
    refine st3 _ ?_
    refine t_ifNo 25 X3.here hx (hb hby d215) ((if0 _ _).trans (feq hcs).1) rfl ?_
    refine t_aloadN 26 X3.here hx (hb hby d216) rfl rfl rfl ?_
    refine st4 _ ?_
    refine t_aloadN 30 X4.here hx (hb hby d218) rfl rfl rfl ?_
    refine st5 _ ?_
    refine t_icmpNo 36 X5.here hx (hb hby d220) (by decide) rfl ?_
    refine t_aloadN 37 X5.here hx (hb hby d221) rfl rfl rfl ?_
    refine st6 _ ?_
    refine t_aloadN 41 X6.here hx (hb hby d223) rfl rfl rfl ?_
    refine st7 _ ?_
    refine st8 _ ?_
    refine t_ifYes (pc := 47) 54 X8.here hx (hb hby d239) (by decide) (by decide) (by decide) ?_
    refine t_iconst 55 (r := 0) X8.here hx (hb hby d245) (by decide) rfl ?_
    exact retN X8 hx (t := .boolean) hret (by simp) (hb hby d242) hr
def Q_r21_equals (Z : State) (o0 o1 : Addr) (i_1 : Int32) (k_o0 : ClassId) (i_2 i_3 : Int32) (k_o1 : ClassId) (h0 : Heap) (n0 : Nat) (v : Option Value) (h : Heap) (L : List Loc) : Prop := v = some z0 ∧ Fr n0 L ∧ h = h0
theorem ef_r21_equals (o0 o1 : Addr) (m : MethodId) : entryFrame m #[(.ref o0), (.ref o1)] 3 = mkF m 0 #[.val (.ref o0), .val (.ref o1), .unset] [] := by first | (simp [entryFrame, mkF, argsToLocals, Value.category]; done) | rfl
set_option maxRecDepth 65536 in
set_option maxHeartbeats 40000000 in
theorem r21_equals (l : Launch) (Z : State) (a0 : Array Value) (hw : HW Z a0) (ws : List Jvm.Cond) (o0 o1 : Addr) (i_1 : Int32) (k_o0 : ClassId) (i_2 i_3 : Int32) (k_o1 : ClassId) (h0 : Heap) (n0 : Nat) (Z0 : n0 ≤ h0.size) (V_o0 : Arv Z h0 o0 k_o0 .byte 1 [(.int i_1)] z0) (V_o1 : Arv Z h0 o1 k_o1 .byte 2 [(.int i_2), (.int i_3)] z0) :
    MF l Z y14_equals b15_ 3 (some .boolean) ws ⟨0, 0, 0, 0⟩ #[(.ref o0), (.ref o1)] h0 (Q_r21_equals Z o0 o1 i_1 k_o0 i_2 i_3 k_o1 h0 n0) := by
  refine own_body (plainFor_of_name pn_StringLatin1120) (ef_r21_equals o0 o1) (by decide) (by decide) ?_
  intro p e s m below meth c s₁ hx hby hml hown hnm hret hZ hh e0 X0
  have N0 := Fr.nil n0
  refine ⟨s₁, _, some z0, X0, (fun h => by cases h <;> rfl), ?_, fun fs hr => ?_⟩
  · show Q_r21_equals Z o0 o1 i_1 k_o0 i_2 i_3 k_o1 h0 n0 _ s₁.heap _
    rw [e0]
    exact ⟨rfl, N0, rfl⟩
  · refine t_aloadN 1 X0.here hx (hb hby d226) rfl rfl rfl ?_
    refine own_arlen (pc' := 2) X0 hx hZ e0 V_o0 (hb hby d227) rfl ?_
    refine t_aloadN 3 X0.here hx (hb hby d228) rfl rfl rfl ?_
    refine own_arlen (pc' := 4) X0 hx hZ e0 V_o1 (hb hby d229) rfl ?_
    refine t_icmpYes (pc := 4) 34 X0.here hx (hb hby d230) (by decide) (by decide) (by decide) ?_
    refine t_iconst 35 (r := 0) X0.here hx (hb hby d243) (by decide) rfl ?_
    exact retN X0 hx (t := .boolean) hret (by simp) (hb hby d244) hr
def Q_r_eq_12 (Z : State) (o0 o1 v0 v1 : Addr) (cs : Int32) (k_v0 : ClassId) (x0 : Int32) (k_v1 : ClassId) (y0 y1 : Int32) (h0 : Heap) (n0 : Nat) (v : Option Value) (h : Heap) (L : List Loc) : Prop := v = some z0 ∧ Fr n0 L ∧ h = h0
theorem ef_r_eq_12 (o0 o1 : Addr) (m : MethodId) : entryFrame m #[(.ref o0), (.ref o1)] 3 = mkF m 0 #[.val (.ref o0), .val (.ref o1), .unset] [] := by first | (simp [entryFrame, mkF, argsToLocals, Value.category]; done) | rfl
set_option maxRecDepth 65536 in
set_option maxHeartbeats 40000000 in
theorem r_eq_12 (l : Launch) (Z : State) (a0 : Array Value) (hw : HW Z a0) (ws : List Jvm.Cond) (o0 o1 v0 v1 : Addr) (cs : Int32) (k_v0 : ClassId) (x0 : Int32) (k_v1 : ClassId) (y0 y1 : Int32) (h0 : Heap) (n0 : Nat) (Z0 : n0 ≤ h0.size) (hcs : ¬ (cs = (0 : Int32))) (ne_o0_o1 : o0 ≠ o1) (E_o1 : Ex0 Z h0 o1) (S_COMPACT_STRINGS : SCS Z cs) (O0 : Old Z n0 h0) (F_o0_coder : Fd1 Z h0 o0 z0) (F_o1_coder : Fd1 Z h0 o1 z0) (F_o0_value : Fd0 Z h0 o0 (.ref v0)) (F_o1_value : Fd0 Z h0 o1 (.ref v1)) (V_v0 : Arv Z h0 v0 k_v0 .byte 1 [(.int x0)] z0) (V_v1 : Arv Z h0 v1 k_v1 .byte 2 [(.int y0), (.int y1)] z0) :
    MF l Z y15_equals b14_ 3 (some .boolean) ws ⟨3, 0, 0, 60⟩ #[(.ref o0), (.ref o1)] h0 (Q_r_eq_12 Z o0 o1 v0 v1 cs k_v0 x0 k_v1 y0 y1 h0 n0) := by
  refine own_body (plainFor_of_name pn_String564) (ef_r_eq_12 o0 o1) (by decide) (by decide) ?_
  intro p e s m below meth c s₁ hx hby hml hown hnm hret hZ hh e0 X0
  have N0 := Fr.nil n0
  obtain ⟨T1, X1, e1, st1⟩ := instY X0 hx hZ hown (w53 hw) e0 (Ins.self E_o1) (g := (mkF m 8 #[vr o0, vr o1, .unset] [(.ref o1)])) rfl rfl (hb hby d209)
  obtain ⟨T2, X2, e2, st2⟩ := castY X1 hx hZ hown (w53 hw) e1 (Ins.self E_o1) (g := (mkF m 15 #[vr o0, vr o1, .unset] [(.ref o1)])) rfl rfl (hb hby d212)
  obtain ⟨T3, X3, e3, st3⟩ := getS2 X2 hx hZ hown (host := "") (Or.inl (w35 hw)) Via.refl e2 (Sta.ext O0.2 S_COMPACT_STRINGS) (g := (mkF m 19 #[vr o0, vr o1, vr o1] [])) rfl (hb hby d214)
  obtain ⟨T4, X4, e4, st4⟩ := getF X3 hx hZ hown (host := "") (Or.inl (w28 hw)) Via.refl e3 F_o0_coder (g := (mkF m 26 #[vr o0, vr o1, vr o1] [(.ref o0)])) rfl rfl (hb hby d217)
  obtain ⟨T5, X5, e5, st5⟩ := getF X4 hx hZ hown (host := "") (Or.inl (w28 hw)) Via.refl e4 F_o1_coder (g := (mkF m 30 #[vr o0, vr o1, vr o1] [(.ref o1), z0])) rfl rfl (hb hby d219)
  obtain ⟨T6, X6, e6, st6⟩ := getF X5 hx hZ hown (host := "") (Or.inl (w27 hw)) Via.refl e5 F_o0_value (g := (mkF m 37 #[vr o0, vr o1, vr o1] [(.ref o0)])) rfl rfl (hb hby d222)
  obtain ⟨T7, X7, e7, st7⟩ := getF X6 hx hZ hown (host := "") (Or.inl (w27 hw)) Via.refl e6 F_o1_value (g := (mkF m 41 #[vr o0, vr o1, vr o1] [(.ref o1), (.ref v0)])) rfl rfl (hb hby d224)
  obtain ⟨_, T8, L8, X8, hQ8, st8⟩ := own_static X7 hx hZ hown (w97 hw) (w98 hw) (w51 hw) (w99 hw) (by decide) (r21_equals l Z a0 hw [] v0 v1 x0 k_v0 y0 y1 k_v1 h0 n0 Z0 V_v0 V_v1) e7 (W := 0) (by decide) (g := (mkF m 44 #[vr o0, vr o1, vr o1] [(.ref v1), (.ref v0)])) rfl (by rw [hml]; rfl) (argsL := [(.ref v0), (.ref v1)]) (rest := []) (lenOf pd_11 rfl) rfl rfl (own_wr rfl rfl) (hb hby d225)
  obtain ⟨rfl, N8q, e8⟩ := hQ8
  have N8 := Fr.app N0 N8q
  refine ⟨T8, _, some z0, X8, (fun h => by cases h <;> rfl), ?_, fun fs hr => ?_⟩
  · show Q_r_eq_12 Z o0 o1 v0 v1 cs k_v0 x0 k_v1 y0 y1 h0 n0 _ T8.heap _
    rw [e8]
    exact ⟨rfl, N8, rfl⟩
  · refine t_aloadN 1 X0.here hx (hb hby d205) rfl rfl rfl ?_
    refine t_aloadN 2 X0.here hx (hb hby d206) rfl rfl rfl ?_
    refine Jvm.RoadKit.acmp (g := (mkF m 2 #[vr o0, vr o1, .unset] [(.ref o1), (.ref o0)])) X0 hx rfl rfl rfl (pc0 := 2) (pc' := 7) (same := false) rfl (hb hby d207) rfl (decide_eq_false fun q => absurd (Value.ref.inj q) ne_o0_o1) (by decide) (by decide) ?_
    refine t_aloadN 8 X0.here hx (hb hby d208) rfl rfl rfl ?_
    refine st1 _ ?_
    refine t_ifNo 14 X1.here hx (hb hby d210) (by decide) rfl ?_
    refine t_aloadN 15 X1.here hx (hb hby d211) rfl rfl rfl ?_
    refine st2 _ ?_
    refine t_astoreN (pc' := 19) (L' := #[vr o0, vr o1, vr o1]) X2.here hx (hb hby d213) rfl rfl rfl ?_
    refine st3 _ ?_
    refine t_ifNo 25 X3.here hx (hb hby d215) ((if0 _ _).trans (feq hcs).1) rfl ?_
    refine t_aloadN 26 X3.here hx (hb hby d216) rfl rfl rfl ?_
    refine st4 _ ?_
    refine t_aloadN 30 X4.here hx (hb hby d218) rfl rfl rfl ?_
    refine st5 _ ?_
    refine t_icmpNo 36 X5.here hx (hb hby d220) (by decide) rfl ?_
    refine t_aloadN 37 X5.here hx (hb hby d221) rfl rfl rfl ?_
    refine st6 _ ?_
    refine t_aloadN 41 X6.here hx (hb hby d223) rfl rfl rfl ?_
    refine st7 _ ?_
    refine st8 _ ?_
    refine t_ifYes (pc := 47) 54 X8.here hx (hb hby d239) (by decide) (by decide) (by decide) ?_
    refine t_iconst 55 (r := 0) X8.here hx (hb hby d245) (by decide) rfl ?_
    exact retN X8 hx (t := .boolean) hret (by simp) (hb hby d242) hr
def Q_r22_equals (Z : State) (o0 o1 : Addr) (i_1 i_2 : Int32) (k_o0 k_o1 : ClassId) (h0 : Heap) (n0 : Nat) (v : Option Value) (h : Heap) (L : List Loc) : Prop := v = some z0 ∧ Fr n0 L ∧ h = h0
theorem ef_r22_equals (o0 o1 : Addr) (m : MethodId) : entryFrame m #[(.ref o0), (.ref o1)] 3 = mkF m 0 #[.val (.ref o0), .val (.ref o1), .unset] [] := by first | (simp [entryFrame, mkF, argsToLocals, Value.category]; done) | rfl
set_option maxRecDepth 65536 in
set_option maxHeartbeats 40000000 in
theorem r22_equals (l : Launch) (Z : State) (a0 : Array Value) (hw : HW Z a0) (ws : List Jvm.Cond) (o0 o1 : Addr) (i_1 i_2 : Int32) (k_o0 k_o1 : ClassId) (h0 : Heap) (n0 : Nat) (Z0 : n0 ≤ h0.size) (V_o0 : Arv Z h0 o0 k_o0 .byte 2 [(.int i_1), (.int i_2)] z0) (V_o1 : Arv Z h0 o1 k_o1 .byte 0 [] z0) :
    MF l Z y14_equals b15_ 3 (some .boolean) ws ⟨0, 0, 0, 0⟩ #[(.ref o0), (.ref o1)] h0 (Q_r22_equals Z o0 o1 i_1 i_2 k_o0 k_o1 h0 n0) := by
  refine own_body (plainFor_of_name pn_StringLatin1120) (ef_r22_equals o0 o1) (by decide) (by decide) ?_
  intro p e s m below meth c s₁ hx hby hml hown hnm hret hZ hh e0 X0
  have N0 := Fr.nil n0
  refine ⟨s₁, _, some z0, X0, (fun h => by cases h <;> rfl), ?_, fun fs hr => ?_⟩
  · show Q_r22_equals Z o0 o1 i_1 i_2 k_o0 k_o1 h0 n0 _ s₁.heap _
    rw [e0]
    exact ⟨rfl, N0, rfl⟩
  · refine t_aloadN 1 X0.here hx (hb hby d226) rfl rfl rfl ?_
    refine own_arlen (pc' := 2) X0 hx hZ e0 V_o0 (hb hby d227) rfl ?_
    refine t_aloadN 3 X0.here hx (hb hby d228) rfl rfl rfl ?_
    refine own_arlen (pc' := 4) X0 hx hZ e0 V_o1 (hb hby d229) rfl ?_
    refine t_icmpYes (pc := 4) 34 X0.here hx (hb hby d230) (by decide) (by decide) (by decide) ?_
    refine t_iconst 35 (r := 0) X0.here hx (hb hby d243) (by decide) rfl ?_
    exact retN X0 hx (t := .boolean) hret (by simp) (hb hby d244) hr
def Q_r_eq_20 (Z : State) (o0 o1 v0 v1 : Addr) (cs : Int32) (k_v0 : ClassId) (x0 x1 : Int32) (k_v1 : ClassId) (h0 : Heap) (n0 : Nat) (v : Option Value) (h : Heap) (L : List Loc) : Prop := v = some z0 ∧ Fr n0 L ∧ h = h0
theorem ef_r_eq_20 (o0 o1 : Addr) (m : MethodId) : entryFrame m #[(.ref o0), (.ref o1)] 3 = mkF m 0 #[.val (.ref o0), .val (.ref o1), .unset] [] := by first | (simp [entryFrame, mkF, argsToLocals, Value.category]; done) | rfl
set_option maxRecDepth 65536 in
set_option maxHeartbeats 40000000 in
theorem r_eq_20 (l : Launch) (Z : State) (a0 : Array Value) (hw : HW Z a0) (ws : List Jvm.Cond) (o0 o1 v0 v1 : Addr) (cs : Int32) (k_v0 : ClassId) (x0 x1 : Int32) (k_v1 : ClassId) (h0 : Heap) (n0 : Nat) (Z0 : n0 ≤ h0.size) (hcs : ¬ (cs = (0 : Int32))) (ne_o0_o1 : o0 ≠ o1) (E_o1 : Ex0 Z h0 o1) (S_COMPACT_STRINGS : SCS Z cs) (O0 : Old Z n0 h0) (F_o0_coder : Fd1 Z h0 o0 z0) (F_o1_coder : Fd1 Z h0 o1 z0) (F_o0_value : Fd0 Z h0 o0 (.ref v0)) (F_o1_value : Fd0 Z h0 o1 (.ref v1)) (V_v0 : Arv Z h0 v0 k_v0 .byte 2 [(.int x0), (.int x1)] z0) (V_v1 : Arv Z h0 v1 k_v1 .byte 0 [] z0) :
    MF l Z y15_equals b14_ 3 (some .boolean) ws ⟨3, 0, 0, 60⟩ #[(.ref o0), (.ref o1)] h0 (Q_r_eq_20 Z o0 o1 v0 v1 cs k_v0 x0 x1 k_v1 h0 n0) := by
  refine own_body (plainFor_of_name pn_String564) (ef_r_eq_20 o0 o1) (by decide) (by decide) ?_
  intro p e s m below meth c s₁ hx hby hml hown hnm hret hZ hh e0 X0
  have N0 := Fr.nil n0
  obtain ⟨T1, X1, e1, st1⟩ := instY X0 hx hZ hown (w53 hw) e0 (Ins.self E_o1) (g := (mkF m 8 #[vr o0, vr o1, .unset] [(.ref o1)])) rfl rfl (hb hby d209)
  obtain ⟨T2, X2, e2, st2⟩ := castY X1 hx hZ hown (w53 hw) e1 (Ins.self E_o1) (g := (mkF m 15 #[vr o0, vr o1, .unset] [(.ref o1)])) rfl rfl (hb hby d212)
  obtain ⟨T3, X3, e3, st3⟩ := getS2 X2 hx hZ hown (host := "") (Or.inl (w35 hw)) Via.refl e2 (Sta.ext O0.2 S_COMPACT_STRINGS) (g := (mkF m 19 #[vr o0, vr o1, vr o1] [])) rfl (hb hby d214)
  obtain ⟨T4, X4, e4, st4⟩ := getF X3 hx hZ hown (host := "") (Or.inl (w28 hw)) Via.refl e3 F_o0_coder (g := (mkF m 26 #[vr o0, vr o1, vr o1] [(.ref o0)])) rfl rfl (hb hby d217)
  obtain ⟨T5, X5, e5, st5⟩ := getF X4 hx hZ hown (host := "") (Or.inl (w28 hw)) Via.refl e4 F_o1_coder (g := (mkF m 30 #[vr o0, vr o1, vr o1] [(.ref o1), z0])) rfl rfl (hb hby d219)
  obtain ⟨T6, X6, e6, st6⟩ := getF X5 hx hZ hown (host := "") (Or.inl (w27 hw)) Via.refl e5 F_o0_value (g := (mkF m 37 #[vr o0, vr o1, vr o1] [(.ref o0)])) rfl rfl (hb hby d222)
  obtain ⟨T7, X7, e7, st7⟩ := getF X6 hx hZ hown (host := "") (Or.inl (w27 hw)) Via.refl e6 F_o1_value (g := (mkF m 41 #[vr o0, vr o1, vr o1] [(.ref o1), (.ref v0)])) rfl rfl (hb hby d224)
  obtain ⟨_, T8, L8, X8, hQ8, st8⟩ := own_static X7 hx hZ hown (w97 hw) (w98 hw) (w51 hw) (w99 hw) (by decide) (r22_equals l Z a0 hw [] v0 v1 x0 x1 k_v0 k_v1 h0 n0 Z0 V_v0 V_v1) e7 (W := 0) (by decide) (g := (mkF m 44 #[vr o0, vr o1, vr o1] [(.ref v1), (.ref v0)])) rfl (by rw [hml]; rfl) (argsL := [(.ref v0), (.ref v1)]) (rest := []) (lenOf pd_11 rfl) rfl rfl (own_wr rfl rfl) (hb hby d225)
  obtain ⟨rfl, N8q, e8⟩ := hQ8
  have N8 := Fr.app N0 N8q
  refine ⟨T8, _, some z0, X8, (fun h => by cases h <;> rfl), ?_, fun fs hr => ?_⟩
  · show Q_r_eq_20 Z o0 o1 v0 v1 cs k_v0 x0 x1 k_v1 h0 n0 _ T8.heap _
    rw [e8]
    exact ⟨rfl, N8, rfl⟩
  · refine t_aloadN 1 X0.here hx (hb hby d205) rfl rfl rfl ?_
    refine t_aloadN 2 X0.here hx (hb hby d206) rfl rfl rfl ?_
    refine Jvm.RoadKit.acmp (g := (mkF m 2 #[vr o0, vr o1, .unset] [(.ref o1), (.ref o0)])) X0 hx rfl rfl rfl (pc0 := 2) (pc' := 7) (same := false) rfl (hb hby d207) rfl (decide_eq_false fun q => absurd (Value.ref.inj q) ne_o0_o1) (by decide) (by decide) ?_
    refine t_aloadN 8 X0.here hx (hb hby d208) rfl rfl rfl ?_
    refine st1 _ ?_
    refine t_ifNo 14 X1.here hx (hb hby d210) (by decide) rfl ?_
    refine t_aloadN 15 X1.here hx (hb hby d211) rfl rfl rfl ?_
    refine st2 _ ?_
    refine t_astoreN (pc' := 19) (L' := #[vr o0, vr o1, vr o1]) X2.here hx (hb hby d213) rfl rfl rfl ?_
    refine st3 _ ?_
    refine t_ifNo 25 X3.here hx (hb hby d215) ((if0 _ _).trans (feq hcs).1) rfl ?_
    refine t_aloadN 26 X3.here hx (hb hby d216) rfl rfl rfl ?_
    refine st4 _ ?_
    refine t_aloadN 30 X4.here hx (hb hby d218) rfl rfl rfl ?_
    refine st5 _ ?_
    refine t_icmpNo 36 X5.here hx (hb hby d220) (by decide) rfl ?_
    refine t_aloadN 37 X5.here hx (hb hby d221) rfl rfl rfl ?_
    refine st6 _ ?_
    refine t_aloadN 41 X6.here hx (hb hby d223) rfl rfl rfl ?_
    refine st7 _ ?_
    refine st8 _ ?_
    refine t_ifYes (pc := 47) 54 X8.here hx (hb hby d239) (by decide) (by decide) (by decide) ?_
    refine t_iconst 55 (r := 0) X8.here hx (hb hby d245) (by decide) rfl ?_
    exact retN X8 hx (t := .boolean) hret (by simp) (hb hby d242) hr
def Q_r23_equals (Z : State) (o0 o1 : Addr) (i_1 i_2 : Int32) (k_o0 : ClassId) (i_3 : Int32) (k_o1 : ClassId) (h0 : Heap) (n0 : Nat) (v : Option Value) (h : Heap) (L : List Loc) : Prop := v = some z0 ∧ Fr n0 L ∧ h = h0
theorem ef_r23_equals (o0 o1 : Addr) (m : MethodId) : entryFrame m #[(.ref o0), (.ref o1)] 3 = mkF m 0 #[.val (.ref o0), .val (.ref o1), .unset] [] := by first | (simp [entryFrame, mkF, argsToLocals, Value.category]; done) | rfl
set_option maxRecDepth 65536 in
set_option maxHeartbeats 40000000 in
theorem r23_equals (l : Launch) (Z : State) (a0 : Array Value) (hw : HW Z a0) (ws : List Jvm.Cond) (o0 o1 : Addr) (i_1 i_2 : Int32) (k_o0 : ClassId) (i_3 : Int32) (k_o1 : ClassId) (h0 : Heap) (n0 : Nat) (Z0 : n0 ≤ h0.size) (V_o0 : Arv Z h0 o0 k_o0 .byte 2 [(.int i_1), (.int i_2)] z0) (V_o1 : Arv Z h0 o1 k_o1 .byte 1 [(.int i_3)] z0) :
    MF l Z y14_equals b15_ 3 (some .boolean) ws ⟨0, 0, 0, 0⟩ #[(.ref o0), (.ref o1)] h0 (Q_r23_equals Z o0 o1 i_1 i_2 k_o0 i_3 k_o1 h0 n0) := by
  refine own_body (plainFor_of_name pn_StringLatin1120) (ef_r23_equals o0 o1) (by decide) (by decide) ?_
  intro p e s m below meth c s₁ hx hby hml hown hnm hret hZ hh e0 X0
  have N0 := Fr.nil n0
  refine ⟨s₁, _, some z0, X0, (fun h => by cases h <;> rfl), ?_, fun fs hr => ?_⟩
  · show Q_r23_equals Z o0 o1 i_1 i_2 k_o0 i_3 k_o1 h0 n0 _ s₁.heap _
    rw [e0]
    exact ⟨rfl, N0, rfl⟩
  · refine t_aloadN 1 X0.here hx (hb hby d226) rfl rfl rfl ?_
    refine own_arlen (pc' := 2) X0 hx hZ e0 V_o0 (hb hby d227) rfl ?_
    refine t_aloadN 3 X0.here hx (hb hby d228) rfl rfl rfl ?_
    refine own_arlen (pc' := 4) X0 hx hZ e0 V_o1 (hb hby d229) rfl ?_
    refine t_icmpYes (pc := 4) 34 X0.here hx (hb hby d230) (by decide) (by decide) (by decide) ?_
    refine t_iconst 35 (r := 0) X0.here hx (hb hby d243) (by decide) rfl ?_
    exact retN X0 hx (t := .boolean) hret (by simp) (hb hby d244) hr
def Q_r_eq_21 (Z : State) (o0 o1 v0 v1 : Addr) (cs : Int32) (k_v0 : ClassId) (x0 x1 : Int32) (k_v1 : ClassId) (y0 : Int32) (h0 : Heap) (n0 : Nat) (v : Option Value) (h : Heap) (L : List Loc) : Prop := v = some z0 ∧ Fr n0 L ∧ h = h0
theorem ef_r_eq_21 (o0 o1 : Addr) (m : MethodId) : entryFrame m #[(.ref o0), (.ref o1)] 3 = mkF m 0 #[.val (.ref o0), .val (.ref o1), .unset] [] := by first | (simp [entryFrame, mkF, argsToLocals, Value.category]; done) | rfl
set_option maxRecDepth 65536 in
set_option maxHeartbeats 40000000 in
theorem r_eq_21 (l : Launch) (Z : State) (a0 : Array Value) (hw : HW Z a0) (ws : List Jvm.Cond) (o0 o1 v0 v1 : Addr) (cs : Int32) (k_v0 : ClassId) (x0 x1 : Int32) (k_v1 : ClassId) (y0 : Int32) (h0 : Heap) (n0 : Nat) (Z0 : n0 ≤ h0.size) (hcs : ¬ (cs = (0 : Int32))) (ne_o0_o1 : o0 ≠ o1) (E_o1 : Ex0 Z h0 o1) (S_COMPACT_STRINGS : SCS Z cs) (O0 : Old Z n0 h0) (F_o0_coder : Fd1 Z h0 o0 z0) (F_o1_coder : Fd1 Z h0 o1 z0) (F_o0_value : Fd0 Z h0 o0 (.ref v0)) (F_o1_value : Fd0 Z h0 o1 (.ref v1)) (V_v0 : Arv Z h0 v0 k_v0 .byte 2 [(.int x0), (.int x1)] z0) (V_v1 : Arv Z h0 v1 k_v1 .byte 1 [(.int y0)] z0) :
    MF l Z y15_equals b14_ 3 (some .boolean) ws ⟨3, 0, 0, 60⟩ #[(.ref o0), (.ref o1)] h0 (Q_r_eq_21 Z o0 o1 v0 v1 cs k_v0 x0 x1 k_v1 y0 h0 n0) := by
  refine own_body (plainFor_of_name pn_String564) (ef_r_eq_21 o0 o1) (by decide) (by decide) ?_
  intro p e s m below meth c s₁ hx hby hml hown hnm hret hZ hh e0 X0
  have N0 := Fr.nil n0
  obtain ⟨T1, X1, e1, st1⟩ := instY X0 hx hZ hown (w53 hw) e0 (Ins.self E_o1) (g := (mkF m 8 #[vr o0, vr o1, .unset] [(.ref o1)])) rfl rfl (hb hby d209)
  obtain ⟨T2, X2, e2, st2⟩ := castY X1 hx hZ hown (w53 hw) e1 (Ins.self E_o1) (g := (mkF m 15 #[vr o0, vr o1, .unset] [(.ref o1)])) rfl rfl (hb hby d212)
  obtain ⟨T3, X3, e3, st3⟩ := getS2 X2 hx hZ hown (host := "") (Or.inl (w35 hw)) Via.refl e2 (Sta.ext O0.2 S_COMPACT_STRINGS) (g := (mkF m 19 #[vr o0, vr o1, vr o1] [])) rfl (hb hby d214)
  obtain ⟨T4, X4, e4, st4⟩ := getF X3 hx hZ hown (host := "") (Or.inl (w28 hw)) Via.refl e3 F_o0_coder (g := (mkF m 26 #[vr o0, vr o1, vr o1] [(.ref o0)])) rfl rfl (hb hby d217)
  obtain ⟨T5, X5, e5, st5⟩ := getF X4 hx hZ hown (host := "") (Or.inl (w28 hw)) Via.refl e4 F_o1_coder (g := (mkF m 30 #[vr o0, vr o1, vr o1] [(.ref o1), z0])) rfl rfl (hb hby d219)
  obtain ⟨T6, X6, e6, st6⟩ := getF X5 hx hZ hown (host := "") (Or.inl (w27 hw)) Via.refl e5 F_o0_value (g := (mkF m 37 #[vr o0, vr o1, vr o1] [(.ref o0)])) rfl rfl (hb hby d222)
  obtain ⟨T7, X7, e7, st7⟩ := getF X6 hx hZ hown (host := "") (Or.inl (w27 hw)) Via.refl e6 F_o1_value (g := (mkF m 41 #[vr o0, vr o1, vr o1] [(.ref o1), (.ref v0)])) rfl rfl (hb hby d224)
  obtain ⟨_, T8, L8, X8, hQ8, st8⟩ := own_static X7 hx hZ hown (w97 hw) (w98 hw) (w51 hw) (w99 hw) (by decide) (r23_equals l Z a0 hw [] v0 v1 x0 x1 k_v0 y0 k_v1 h0 n0 Z0 V_v0 V_v1) e7 (W := 0) (by decide) (g := (mkF m 44 #[vr o0, vr o1, vr o1] [(.ref v1), (.ref v0)])) rfl (by rw [hml]; rfl) (argsL := [(.ref v0), (.ref v1)]) (rest := []) (lenOf pd_11 rfl) rfl rfl (own_wr rfl rfl) (hb hby d225)
  obtain ⟨rfl, N8q, e8⟩ := hQ8
  have N8 := Fr.app N0 N8q
  refine ⟨T8, _, some z0, X8, (fun h => by cases h <;> rfl), ?_, fun fs hr => ?_⟩
  · show Q_r_eq_21 Z o0 o1 v0 v1 cs k_v0 x0 x1 k_v1 y0 h0 n0 _ T8.heap _
    rw [e8]
    exact ⟨rfl, N8, rfl⟩
  · refine t_aloadN 1 X0.here hx (hb hby d205) rfl rfl rfl ?_
    refine t_aloadN 2 X0.here hx (hb hby d206) rfl rfl rfl ?_
    refine Jvm.RoadKit.acmp (g := (mkF m 2 #[vr o0, vr o1, .unset] [(.ref o1), (.ref o0)])) X0 hx rfl rfl rfl (pc0 := 2) (pc' := 7) (same := false) rfl (hb hby d207) rfl (decide_eq_false fun q => absurd (Value.ref.inj q) ne_o0_o1) (by decide) (by decide) ?_
    refine t_aloadN 8 X0.here hx (hb hby d208) rfl rfl rfl ?_
    refine st1 _ ?_
    refine t_ifNo 14 X1.here hx (hb hby d210) (by decide) rfl ?_
    refine t_aloadN 15 X1.here hx (hb hby d211) rfl rfl rfl ?_
    refine st2 _ ?_
    refine t_astoreN (pc' := 19) (L' := #[vr o0, vr o1, vr o1]) X2.here hx (hb hby d213) rfl rfl rfl ?_
    refine st3 _ ?_
    refine t_ifNo 25 X3.here hx (hb hby d215) ((if0 _ _).trans (feq hcs).1) rfl ?_
    refine t_aloadN 26 X3.here hx (hb hby d216) rfl rfl rfl ?_
    refine st4 _ ?_
    refine t_aloadN 30 X4.here hx (hb hby d218) rfl rfl rfl ?_
    refine st5 _ ?_
    refine t_icmpNo 36 X5.here hx (hb hby d220) (by decide) rfl ?_
    refine t_aloadN 37 X5.here hx (hb hby d221) rfl rfl rfl ?_
    refine st6 _ ?_
    refine t_aloadN 41 X6.here hx (hb hby d223) rfl rfl rfl ?_
    refine st7 _ ?_
    refine st8 _ ?_
    refine t_ifYes (pc := 47) 54 X8.here hx (hb hby d239) (by decide) (by decide) (by decide) ?_
    refine t_iconst 55 (r := 0) X8.here hx (hb hby d245) (by decide) rfl ?_
    exact retN X8 hx (t := .boolean) hret (by simp) (hb hby d242) hr
def Q_r24_equals (Z : State) (o0 o1 : Addr) (i_1 i_2 : Int32) (k_o0 : ClassId) (i_3 i_4 : Int32) (k_o1 : ClassId) (h0 : Heap) (n0 : Nat) (v : Option Value) (h : Heap) (L : List Loc) : Prop := v = some (.int 1) ∧ Fr n0 L ∧ h = h0
theorem ef_r24_equals (o0 o1 : Addr) (m : MethodId) : entryFrame m #[(.ref o0), (.ref o1)] 3 = mkF m 0 #[.val (.ref o0), .val (.ref o1), .unset] [] := by first | (simp [entryFrame, mkF, argsToLocals, Value.category]; done) | rfl
set_option maxRecDepth 65536 in
set_option maxHeartbeats 40000000 in
theorem r24_equals (l : Launch) (Z : State) (a0 : Array Value) (hw : HW Z a0) (ws : List Jvm.Cond) (o0 o1 : Addr) (i_1 i_2 : Int32) (k_o0 : ClassId) (i_3 i_4 : Int32) (k_o1 : ClassId) (h0 : Heap) (n0 : Nat) (Z0 : n0 ≤ h0.size) (V_o0 : Arv Z h0 o0 k_o0 .byte 2 [(.int i_1), (.int i_2)] z0) (V_o1 : Arv Z h0 o1 k_o1 .byte 2 [(.int i_3), (.int i_4)] z0) (hp0 : i_1 = i_3) (hp1 : i_2 = i_4) :
    MF l Z y14_equals b15_ 3 (some .boolean) ws ⟨0, 0, 0, 0⟩ #[(.ref o0), (.ref o1)] h0 (Q_r24_equals Z o0 o1 i_1 i_2 k_o0 i_3 i_4 k_o1 h0 n0) := by
  refine own_body (plainFor_of_name pn_StringLatin1120) (ef_r24_equals o0 o1) (by decide) (by decide) ?_
  intro p e s m below meth c s₁ hx hby hml hown hnm hret hZ hh e0 X0
  have N0 := Fr.nil n0
  refine ⟨s₁, _, some (.int 1), X0, (fun h => by cases h <;> rfl), ?_, fun fs hr => ?_⟩
  · show Q_r24_equals Z o0 o1 i_1 i_2 k_o0 i_3 i_4 k_o1 h0 n0 _ s₁.heap _
    rw [e0]
    exact ⟨rfl, N0, rfl⟩
  · refine t_aloadN 1 X0.here hx (hb hby d226) rfl rfl rfl ?_
    refine own_arlen (pc' := 2) X0 hx hZ e0 V_o0 (hb hby d227) rfl ?_
    refine t_aloadN 3 X0.here hx (hb hby d228) rfl rfl rfl ?_
    refine own_arlen (pc' := 4) X0 hx hZ e0 V_o1 (hb hby d229) rfl ?_
    refine t_icmpNo 7 X0.here hx (hb hby d230) (by decide) rfl ?_
    refine t_iconst 8 (r := 0) X0.here hx (hb hby d231) (by decide) rfl ?_
    refine t_istoreN (pc' := 9) (L' := #[vr o0, vr o1, vi 0]) X0.here hx (hb hby d232) rfl rfl ?_
    refine t_iloadN 10 X0.here hx (hb hby d233) rfl rfl ?_
    refine t_aloadN 11 X0.here hx (hb hby d234) rfl rfl rfl ?_
    refine own_arlen (pc' := 12) X0 hx hZ e0 V_o0 (hb hby d235) rfl ?_
    refine t_icmpNo 15 X0.here hx (hb hby d236) (by decide) rfl ?_
    refine t_aloadN 16 X0.here hx (hb hby d246) rfl rfl rfl ?_
    refine t_iloadN 17 X0.here hx (hb hby d247) rfl rfl ?_
    refine own_aldB (pc' := 18) X0 hx hZ e0 V_o0 (j := 0) (v := (.int i_1)) (by decide) rfl (hb hby d248) rfl ?_
    refine t_aloadN 19 X0.here hx (hb hby d249) rfl rfl rfl ?_
    refine t_iloadN 20 X0.here hx (hb hby d250) rfl rfl ?_
    refine own_aldB (pc' := 21) X0 hx hZ e0 V_o1 (j := 0) (v := (.int i_3)) (by decide) rfl (hb hby d251) rfl ?_
    refine t_icmpYes (pc := 21) 26 X0.here hx (hb hby d252) (teq hp0).1 (by decide) (by decide) ?_
    refine t_iinc (pc' := 29) (L' := #[vr o0, vr o1, vi 1]) X0.here hx (hb hby d253) rfl (by first | rfl | decide) rfl ?_
    refine t_goto (pc := 29) 9 X0.here hx (hb hby d254) (by decide) (by decide) ?_
    refine t_iloadN 10 X0.here hx (hb hby d233) rfl rfl ?_
    refine t_aloadN 11 X0.here hx (hb hby d234) rfl rfl rfl ?_
    refine own_arlen (pc' := 12) X0 hx hZ e0 V_o0 (hb hby d235) rfl ?_
    refine t_icmpNo 15 X0.here hx (hb hby d236) (by decide) rfl ?_
    refine t_aloadN 16 X0.here hx (hb hby d246) rfl rfl rfl ?_
    refine t_iloadN 17 X0.here hx (hb hby d247) rfl rfl ?_
    refine own_aldB (pc' := 18) X0 hx hZ e0 V_o0 (j := 1) (v := (.int i_2)) (by decide) rfl (hb hby d248) rfl ?_
    refine t_aloadN 19 X0.here hx (hb hby d249) rfl rfl rfl ?_
    refine t_iloadN 20 X0.here hx (hb hby d250) rfl rfl ?_
    refine own_aldB (pc' := 21) X0 hx hZ e0 V_o1 (j := 1) (v := (.int i_4)) (by decide) rfl (hb hby d251) rfl ?_
    refine t_icmpYes (pc := 21) 26 X0.here hx (hb hby d252) (teq hp1).1 (by decide) (by decide) ?_
    refine t_iinc (pc' := 29) (L' := #[vr o0, vr o1, vi 2]) X0.here hx (hb hby d253) rfl (by first | rfl | decide) rfl ?_
    refine t_goto (pc := 29) 9 X0.here hx (hb hby d254) (by decide) (by decide) ?_
    refine t_iloadN 10 X0.here hx (hb hby d233) rfl rfl ?_
    refine t_aloadN 11 X0.here hx (hb hby d234) rfl rfl rfl ?_
    refine own_arlen (pc' := 12) X0 hx hZ e0 V_o0 (hb hby d235) rfl ?_
    refine t_icmpYes (pc := 12) 32 X0.here hx (hb hby d236) (by decide) (by decide) (by decide) ?_
    refine t_iconst 33 (r := 1) X0.here hx (hb hby d237) (by decide) rfl ?_
    exact retN X0 hx (t := .boolean) hret (by simp) (hb hby d238) hr
def Q_r_eq_22ee (Z : State) (o0 o1 v0 v1 : Addr) (cs : Int32) (k_v0 : ClassId) (x0 x1 : Int32) (k_v1 : ClassId) (y0 y1 : Int32) (h0 : Heap) (n0 : Nat) (v : Option Value) (h : Heap) (L : List Loc) : Prop := v = some (.int 1) ∧ Fr n0 L ∧ h = h0
theorem ef_r_eq_22ee (o0 o1 : Addr) (m : MethodId) : entryFrame m #[(.ref o0), (.ref o1)] 3 = mkF m 0 #[.val (.ref o0), .val (.ref o1), .unset] [] := by first | (simp [entryFrame, mkF, argsToLocals, Value.category]; done) | rfl
set_option maxRecDepth 65536 in
set_option maxHeartbeats 40000000 in
theorem r_eq_22ee (l : Launch) (Z : State) (a0 : Array Value) (hw : HW Z a0) (ws : List Jvm.Cond) (o0 o1 v0 v1 : Addr) (cs : Int32) (k_v0 : ClassId) (x0 x1 : Int32) (k_v1 : ClassId) (y0 y1 : Int32) (h0 : Heap) (n0 : Nat) (Z0 : n0 ≤ h0.size) (hb0 : x0 = y0) (hb1 : x1 = y1) (hcs : ¬ (cs = (0 : Int32))) (ne_o0_o1 : o0 ≠ o1) (E_o1 : Ex0 Z h0 o1) (S_COMPACT_STRINGS : SCS Z cs) (O0 : Old Z n0 h0) (F_o0_coder : Fd1 Z h0 o0 z0) (F_o1_coder : Fd1 Z h0 o1 z0) (F_o0_value : Fd0 Z h0 o0 (.ref v0)) (F_o1_value : Fd0 Z h0 o1 (.ref v1)) (V_v0 : Arv Z h0 v0 k_v0 .byte 2 [(.int x0), (.int x1)] z0) (V_v1 : Arv Z h0 v1 k_v1 .byte 2 [(.int y0), (.int y1)] z0) :
    MF l Z y15_equals b14_ 3 (some .boolean) ws ⟨3, 0, 0, 60⟩ #[(.ref o0), (.ref o1)] h0 (Q_r_eq_22ee Z o0 o1 v0 v1 cs k_v0 x0 x1 k_v1 y0 y1 h0 n0) := by
  refine own_body (plainFor_of_name pn_String564) (ef_r_eq_22ee o0 o1) (by decide) (by decide) ?_
  intro p e s m below meth c s₁ hx hby hml hown hnm hret hZ hh e0 X0
  have N0 := Fr.nil n0
  obtain ⟨T1, X1, e1, st1⟩ := instY X0 hx hZ hown (w53 hw) e0 (Ins.self E_o1) (g := (mkF m 8 #[vr o0, vr o1, .unset] [(.ref o1)])) rfl rfl (hb hby d209)
  obtain ⟨T2, X2, e2, st2⟩ := castY X1 hx hZ hown (w53 hw) e1 (Ins.self E_o1) (g := (mkF m 15 #[vr o0, vr o1, .unset] [(.ref o1)])) rfl rfl (hb hby d212)
  obtain ⟨T3, X3, e3, st3⟩ := getS2 X2 hx hZ hown (host := "") (Or.inl (w35 hw)) Via.refl e2 (Sta.ext O0.2 S_COMPACT_STRINGS) (g := (mkF m 19 #[vr o0, vr o1, vr o1] [])) rfl (hb hby d214)
  obtain ⟨T4, X4, e4, st4⟩ := getF X3 hx hZ hown (host := "") (Or.inl (w28 hw)) Via.refl e3 F_o0_coder (g := (mkF m 26 #[vr o0, vr o1, vr o1] [(.ref o0)])) rfl rfl (hb hby d217)
  obtain ⟨T5, X5, e5, st5⟩ := getF X4 hx hZ hown (host := "") (Or.inl (w28 hw)) Via.refl e4 F_o1_coder (g := (mkF m 30 #[vr o0, vr o1, vr o1] [(.ref o1), z0])) rfl rfl (hb hby d219)
  obtain ⟨T6, X6, e6, st6⟩ := getF X5 hx hZ hown (host := "") (Or.inl (w27 hw)) Via.refl e5 F_o0_value (g := (mkF m 37 #[vr o0, vr o1, vr o1] [(.ref o0)])) rfl rfl (hb hby d222)
  obtain ⟨T7, X7, e7, st7⟩ := getF X6 hx hZ hown (host := "") (Or.inl (w27 hw)) Via.refl e6 F_o1_value (g := (mkF m 41 #[vr o0, vr o1, vr o1] [(.ref o1), (.ref v0)])) rfl rfl (hb hby d224)
  obtain ⟨_, T8, L8, X8, hQ8, st8⟩ := own_static X7 hx hZ hown (w97 hw) (w98 hw) (w51 hw) (w99 hw) (by decide) (r24_equals l Z a0 hw [] v0 v1 x0 x1 k_v0 y0 y1 k_v1 h0 n0 Z0 V_v0 V_v1 hb0 hb1) e7 (W := 0) (by decide) (g := (mkF m 44 #[vr o0, vr o1, vr o1] [(.ref v1), (.ref v0)])) rfl (by rw [hml]; rfl) (argsL := [(.ref v0), (.ref v1)]) (rest := []) (lenOf pd_11 rfl) rfl rfl (own_wr rfl rfl) (hb hby d225)
  obtain ⟨rfl, N8q, e8⟩ := hQ8
  have N8 := Fr.app N0 N8q
  refine ⟨T8, _, some (.int 1), X8, (fun h => by cases h <;> rfl), ?_, fun fs hr => ?_⟩
  · show Q_r_eq_22ee Z o0 o1 v0 v1 cs k_v0 x0 x1 k_v1 y0 y1 h0 n0 _ T8.heap _
    rw [e8]
    exact ⟨rfl, N8, rfl⟩
  · refine t_aloadN 1 X0.here hx (hb hby d205) rfl rfl rfl ?_
    refine t_aloadN 2 X0.here hx (hb hby d206) rfl rfl rfl ?_
    refine Jvm.RoadKit.acmp (g := (mkF m 2 #[vr o0, vr o1, .unset] [(.ref o1), (.ref o0)])) X0 hx rfl rfl rfl (pc0 := 2) (pc' := 7) (same := false) rfl (hb hby d207) rfl (decide_eq_false fun q => absurd (Value.ref.inj q) ne_o0_o1) (by decide) (by decide) ?_
    refine t_aloadN 8 X0.here hx (hb hby d208) rfl rfl rfl ?_
    refine st1 _ ?_
    refine t_ifNo 14 X1.here hx (hb hby d210) (by decide) rfl ?_
    refine t_aloadN 15 X1.here hx (hb hby d211) rfl rfl rfl ?_
    refine st2 _ ?_
    refine t_astoreN (pc' := 19) (L' := #[vr o0, vr o1, vr o1]) X2.here hx (hb hby d213) rfl rfl rfl ?_
    refine st3 _ ?_
    refine t_ifNo 25 X3.here hx (hb hby d215) ((if0 _ _).trans (feq hcs).1) rfl ?_
    refine t_aloadN 26 X3.here hx (hb hby d216) rfl rfl rfl ?_
    refine st4 _ ?_
    refine t_aloadN 30 X4.here hx (hb hby d218) rfl rfl rfl ?_
    refine st5 _ ?_
    refine t_icmpNo 36 X5.here hx (hb hby d220) (by decide) rfl ?_
    refine t_aloadN 37 X5.here hx (hb hby d221) rfl rfl rfl ?_
    refine st6 _ ?_
    refine t_aloadN 41 X6.here hx (hb hby d223) rfl rfl rfl ?_
    refine st7 _ ?_
    refine st8 _ ?_
    refine t_ifNo 50 X8.here hx (hb hby d239) (by decide) rfl ?_
    refine t_iconst 51 (r := 1) X8.here hx (hb hby d240) (by decide) rfl ?_
    refine t_goto (pc := 51) 55 X8.here hx (hb hby d241) (by decide) (by decide) ?_
    exact retN X8 hx (t := .boolean) hret (by simp) (hb hby d242) hr
def Q_r25_equals (Z : State) (o0 o1 : Addr) (i_1 i_2 : Int32) (k_o0 : ClassId) (i_3 i_4 : Int32) (k_o1 : ClassId) (h0 : Heap) (n0 : Nat) (v : Option Value) (h : Heap) (L : List Loc) : Prop := v = some z0 ∧ Fr n0 L ∧ h = h0
theorem ef_r25_equals (o0 o1 : Addr) (m : MethodId) : entryFrame m #[(.ref o0), (.ref o1)] 3 = mkF m 0 #[.val (.ref o0), .val (.ref o1), .unset] [] := by first | (simp [entryFrame, mkF, argsToLocals, Value.category]; done) | rfl
set_option maxRecDepth 65536 in
set_option maxHeartbeats 40000000 in
theorem r25_equals (l : Launch) (Z : State) (a0 : Array Value) (hw : HW Z a0) (ws : List Jvm.Cond) (o0 o1 : Addr) (i_1 i_2 : Int32) (k_o0 : ClassId) (i_3 i_4 : Int32) (k_o1 : ClassId) (h0 : Heap) (n0 : Nat) (Z0 : n0 ≤ h0.size) (V_o0 : Arv Z h0 o0 k_o0 .byte 2 [(.int i_1), (.int i_2)] z0) (V_o1 : Arv Z h0 o1 k_o1 .byte 2 [(.int i_3), (.int i_4)] z0) (hp0 : i_1 = i_3) (hp1 : ¬ (i_2 = i_4)) :
    MF l Z y14_equals b15_ 3 (some .boolean) ws ⟨0, 0, 0, 0⟩ #[(.ref o0), (.ref o1)] h0 (Q_r25_equals Z o0 o1 i_1 i_2 k_o0 i_3 i_4 k_o1 h0 n0) := by
  refine own_body (plainFor_of_name pn_StringLatin1120) (ef_r25_equals o0 o1) (by decide) (by decide) ?_
  intro p e s m below meth c s₁ hx hby hml hown hnm hret hZ hh e0 X0
  have N0 := Fr.nil n0
  refine ⟨s₁, _, some z0, X0, (fun h => by cases h <;> rfl), ?_, fun fs hr => ?_⟩
  · show Q_r25_equals Z o0 o1 i_1 i_2 k_o0 i_3 i_4 k_o1 h0 n0 _ s₁.heap _
    rw [e0]
    exact ⟨rfl, N0, rfl⟩
  · refine t_aloadN 1 X0.here hx (hb hby d226) rfl rfl rfl ?_
    refine own_arlen (pc' := 2) X0 hx hZ e0 V_o0 (hb hby d227) rfl ?_
    refine t_aloadN 3 X0.here hx (hb hby d228) rfl rfl rfl ?_
    refine own_arlen (pc' := 4) X0 hx hZ e0 V_o1 (hb hby d229) rfl ?_
    refine t_icmpNo 7 X0.here hx (hb hby d230) (by decide) rfl ?_
    refine t_iconst 8 (r := 0) X0.here hx (hb hby d231) (by decide) rfl ?_
    refine t_istoreN (pc' := 9) (L' := #[vr o0, vr o1, vi 0]) X0.here hx (hb hby d232) rfl rfl ?_
    refine t_iloadN 10 X0.here hx (hb hby d233) rfl rfl ?_
    refine t_aloadN 11 X0.here hx (hb hby d234) rfl rfl rfl ?_
    refine own_arlen (pc' := 12) X0 hx hZ e0 V_o0 (hb hby d235) rfl ?_
    refine t_icmpNo 15 X0.here hx (hb hby d236) (by decide) rfl ?_
    refine t_aloadN 16 X0.here hx (hb hby d246) rfl rfl rfl ?_
    refine t_iloadN 17 X0.here hx (hb hby d247) rfl rfl ?_
    refine own_aldB (pc' := 18) X0 hx hZ e0 V_o0 (j := 0) (v := (.int i_1)) (by decide) rfl (hb hby d248) rfl ?_
    refine t_aloadN 19 X0.here hx (hb hby d249) rfl rfl rfl ?_
    refine t_iloadN 20 X0.here hx (hb hby d250) rfl rfl ?_
    refine own_aldB (pc' := 21) X0 hx hZ e0 V_o1 (j := 0) (v := (.int i_3)) (by decide) rfl (hb hby d251) rfl ?_
    refine t_icmpYes (pc := 21) 26 X0.here hx (hb hby d252) (teq hp0).1 (by decide) (by decide) ?_
    refine t_iinc (pc' := 29) (L' := #[vr o0, vr o1, vi 1]) X0.here hx (hb hby d253) rfl (by first | rfl | decide) rfl ?_
    refine t_goto (pc := 29) 9 X0.here hx (hb hby d254) (by decide) (by decide) ?_
    refine t_iloadN 10 X0.here hx (hb hby d233) rfl rfl ?_
    refine t_aloadN 11 X0.here hx (hb hby d234) rfl rfl rfl ?_
    refine own_arlen (pc' := 12) X0 hx hZ e0 V_o0 (hb hby d235) rfl ?_
    refine t_icmpNo 15 X0.here hx (hb hby d236) (by decide) rfl ?_
    refine t_aloadN 16 X0.here hx (hb hby d246) rfl rfl rfl ?_
    refine t_iloadN 17 X0.here hx (hb hby d247) rfl rfl ?_
    refine own_aldB (pc' := 18) X0 hx hZ e0 V_o0 (j := 1) (v := (.int i_2)) (by decide) rfl (hb hby d248) rfl ?_
    refine t_aloadN 19 X0.here hx (hb hby d249) rfl rfl rfl ?_
    refine t_iloadN 20 X0.here hx (hb hby d250) rfl rfl ?_
    refine own_aldB (pc' := 21) X0 hx hZ e0 V_o1 (j := 1) (v := (.int i_4)) (by decide) rfl (hb hby d251) rfl ?_
    refine t_icmpNo 24 X0.here hx (hb hby d252) (feq hp1).1 rfl ?_
    refine t_iconst 25 (r := 0) X0.here hx (hb hby d255) (by decide) rfl ?_
    exact retN X0 hx (t := .boolean) hret (by simp) (hb hby d256) hr
def Q_r_eq_22en (Z : State) (o0 o1 v0 v1 : Addr) (cs : Int32) (k_v0 : ClassId) (x0 x1 : Int32) (k_v1 : ClassId) (y0 y1 : Int32) (h0 : Heap) (n0 : Nat) (v : Option Value) (h : Heap) (L : List Loc) : Prop := v = some z0 ∧ Fr n0 L ∧ h = h0
theorem ef_r_eq_22en (o0 o1 : Addr) (m : MethodId) : entryFrame m #[(.ref o0), (.ref o1)] 3 = mkF m 0 #[.val (.ref o0), .val (.ref o1), .unset] [] := by first | (simp [entryFrame, mkF, argsToLocals, Value.category]; done) | rfl
set_option maxRecDepth 65536 in
set_option maxHeartbeats 40000000 in
theorem r_eq_22en (l : Launch) (Z : State) (a0 : Array Value) (hw : HW Z a0) (ws : List Jvm.Cond) (o0 o1 v0 v1 : Addr) (cs : Int32) (k_v0 : ClassId) (x0 x1 : Int32) (k_v1 : ClassId) (y0 y1 : Int32) (h0 : Heap) (n0 : Nat) (Z0 : n0 ≤ h0.size) (hb0 : x0 = y0) (hb1 : ¬ (x1 = y1)) (hcs : ¬ (cs = (0 : Int32))) (ne_o0_o1 : o0 ≠ o1) (E_o1 : Ex0 Z h0 o1) (S_COMPACT_STRINGS : SCS Z cs) (O0 : Old Z n0 h0) (F_o0_coder : Fd1 Z h0 o0 z0) (F_o1_coder : Fd1 Z h0 o1 z0) (F_o0_value : Fd0 Z h0 o0 (.ref v0)) (F_o1_value : Fd0 Z h0 o1 (.ref v1)) (V_v0 : Arv Z h0 v0 k_v0 .byte 2 [(.int x0), (.int x1)] z0) (V_v1 : Arv Z h0 v1 k_v1 .byte 2 [(.int y0), (.int y1)] z0) :
    MF l Z y15_equals b14_ 3 (some .boolean) ws ⟨3, 0, 0, 60⟩ #[(.ref o0), (.ref o1)] h0 (Q_r_eq_22en Z o0 o1 v0 v1 cs k_v0 x0 x1 k_v1 y0 y1 h0 n0) := by
  refine own_body (plainFor_of_name pn_String564) (ef_r_eq_22en o0 o1) (by decide) (by decide) ?_
  intro p e s m below meth c s₁ hx hby hml hown hnm hret hZ hh e0 X0
  have N0 := Fr.nil n0
  obtain ⟨T1, X1, e1, st1⟩ := instY X0 hx hZ hown (w53 hw) e0 (Ins.self E_o1) (g := (mkF m 8 #[vr o0, vr o1, .unset] [(.ref o1)])) rfl rfl (hb hby d209)
  obtain ⟨T2, X2, e2, st2⟩ := castY X1 hx hZ hown (w53 hw) e1 (Ins.self E_o1) (g := (mkF m 15 #[vr o0, vr o1, .unset] [(.ref o1)])) rfl rfl (hb hby d212)
  obtain ⟨T3, X3, e3, st3⟩ := getS2 X2 hx hZ hown (host := "") (Or.inl (w35 hw)) Via.refl e2 (Sta.ext O0.2 S_COMPACT_STRINGS) (g := (mkF m 19 #[vr o0, vr o1, vr o1] [])) rfl (hb hby d214)
  obtain ⟨T4, X4, e4, st4⟩ := getF X3 hx hZ hown (host := "") (Or.inl (w28 hw)) Via.refl e3 F_o0_coder (g := (mkF m 26 #[vr o0, vr o1, vr o1] [(.ref o0)])) rfl rfl (hb hby d217)
  obtain ⟨T5, X5, e5, st5⟩ := getF X4 hx hZ hown (host := "") (Or.inl (w28 hw)) Via.refl e4 F_o1_coder (g := (mkF m 30 #[vr o0, vr o1, vr o1] [(.ref o1), z0])) rfl rfl (hb hby d219)
  obtain ⟨T6, X6, e6, st6⟩ := getF X5 hx hZ hown (host := "") (Or.inl (w27 hw)) Via.refl e5 F_o0_value (g := (mkF m 37 #[vr o0, vr o1, vr o1] [(.ref o0)])) rfl rfl (hb hby d222)
  obtain ⟨T7, X7, e7, st7⟩ := getF X6 hx hZ hown (host := "") (Or.inl (w27 hw)) Via.refl e6 F_o1_value (g := (mkF m 41 #[vr o0, vr o1, vr o1] [(.ref o1), (.ref v0)])) rfl rfl (hb hby d224)
  obtain ⟨_, T8, L8, X8, hQ8, st8⟩ := own_static X7 hx hZ hown (w97 hw) (w98 hw) (w51 hw) (w99 hw) (by decide) (r25_equals l Z a0 hw [] v0 v1 x0 x1 k_v0 y0 y1 k_v1 h0 n0 Z0 V_v0 V_v1 hb0 hb1) e7 (W := 0) (by decide) (g := (mkF m 44 #[vr o0, vr o1, vr o1] [(.ref v1), (.ref v0)])) rfl (by rw [hml]; rfl) (argsL := [(.ref v0), (.ref v1)]) (rest := []) (lenOf pd_11 rfl) rfl rfl (own_wr rfl rfl) (hb hby d225)
  obtain ⟨rfl, N8q, e8⟩ := hQ8
  have N8 := Fr.app N0 N8q
  refine ⟨T8, _, some z0, X8, (fun h => by cases h <;> rfl), ?_, fun fs hr => ?_⟩
  · show Q_r_eq_22en Z o0 o1 v0 v1 cs k_v0 x0 x1 k_v1 y0 y1 h0 n0 _ T8.heap _
    rw [e8]
    exact ⟨rfl, N8, rfl⟩
  · refine t_aloadN 1 X0.here hx (hb hby d205) rfl rfl rfl ?_
    refine t_aloadN 2 X0.here hx (hb hby d206) rfl rfl rfl ?_
    refine Jvm.RoadKit.acmp (g := (mkF m 2 #[vr o0, vr o1, .unset] [(.ref o1), (.ref o0)])) X0 hx rfl rfl rfl (pc0 := 2) (pc' := 7) (same := false) rfl (hb hby d207) rfl (decide_eq_false fun q => absurd (Value.ref.inj q) ne_o0_o1) (by decide) (by decide) ?_
    refine t_aloadN 8 X0.here hx (hb hby d208) rfl rfl rfl ?_
    refine st1 _ ?_
    refine t_ifNo 14 X1.here hx (hb hby d210) (by decide) rfl ?_
    refine t_aloadN 15 X1.here hx (hb hby d211) rfl rfl rfl ?_
    refine st2 _ ?_
    refine t_astoreN (pc' := 19) (L' := #[vr o0, vr o1, vr o1]) X2.here hx (hb hby d213) rfl rfl rfl ?_
    refine st3 _ ?_
    refine t_ifNo 25 X3.here hx (hb hby d215) ((if0 _ _).trans (feq hcs).1) rfl ?_
    refine t_aloadN 26 X3.here hx (hb hby d216) rfl rfl rfl ?_
    refine st4 _ ?_
    refine t_aloadN 30 X4.here hx (hb hby d218) rfl rfl rfl ?_
    refine st5 _ ?_
    refine t_icmpNo 36 X5.here hx (hb hby d220) (by decide) rfl ?_
    refine t_aloadN 37 X5.here hx (hb hby d221) rfl rfl rfl ?_
    refine st6 _ ?_
    refine t_aloadN 41 X6.here hx (hb hby d223) rfl rfl rfl ?_
    refine st7 _ ?_
    refine st8 _ ?_
    refine t_ifYes (pc := 47) 54 X8.here hx (hb hby d239) (by decide) (by decide) (by decide) ?_
    refine t_iconst 55 (r := 0) X8.here hx (hb hby d245) (by decide) rfl ?_
    exact retN X8 hx (t := .boolean) hret (by simp) (hb hby d242) hr
def Q_r26_equals (Z : State) (o0 o1 : Addr) (i_1 i_2 : Int32) (k_o0 : ClassId) (i_3 i_4 : Int32) (k_o1 : ClassId) (h0 : Heap) (n0 : Nat) (v : Option Value) (h : Heap) (L : List Loc) : Prop := v = some z0 ∧ Fr n0 L ∧ h = h0
theorem ef_r26_equals (o0 o1 : Addr) (m : MethodId) : entryFrame m #[(.ref o0), (.ref o1)] 3 = mkF m 0 #[.val (.ref o0), .val (.ref o1), .unset] [] := by first | (simp [entryFrame, mkF, argsToLocals, Value.category]; done) | rfl
set_option maxRecDepth 65536 in
set_option maxHeartbeats 40000000 in
theorem r26_equals (l : Launch) (Z : State) (a0 : Array Value) (hw : HW Z a0) (ws : List Jvm.Cond) (o0 o1 : Addr) (i_1 i_2 : Int32) (k_o0 : ClassId) (i_3 i_4 : Int32) (k_o1 : ClassId) (h0 : Heap) (n0 : Nat) (Z0 : n0 ≤ h0.size) (V_o0 : Arv Z h0 o0 k_o0 .byte 2 [(.int i_1), (.int i_2)] z0) (V_o1 : Arv Z h0 o1 k_o1 .byte 2 [(.int i_3), (.int i_4)] z0) (hp0 : ¬ (i_1 = i_3)) :
    MF l Z y14_equals b15_ 3 (some .boolean) ws ⟨0, 0, 0, 0⟩ #[(.ref o0), (.ref o1)] h0 (Q_r26_equals Z o0 o1 i_1 i_2 k_o0 i_3 i_4 k_o1 h0 n0) := by
  refine own_body (plainFor_of_name pn_StringLatin1120) (ef_r26_equals o0 o1) (by decide) (by decide) ?_
  intro p e s m below meth c s₁ hx hby hml hown hnm hret hZ hh e0 X0
  have N0 := Fr.nil n0
  refine ⟨s₁, _, some z0, X0, (fun h => by cases h <;> rfl), ?_, fun fs hr => ?_⟩
  · show Q_r26_equals Z o0 o1 i_1 i_2 k_o0 i_3 i_4 k_o1 h0 n0 _ s₁.heap _
    rw [e0]
    exact ⟨rfl, N0, rfl⟩
  · refine t_aloadN 1 X0.here hx (hb hby d226) rfl rfl rfl ?_
    refine own_arlen (pc' := 2) X0 hx hZ e0 V_o0 (hb hby d227) rfl ?_
    refine t_aloadN 3 X0.here hx (hb hby d228) rfl rfl rfl ?_
    refine own_arlen (pc' := 4) X0 hx hZ e0 V_o1 (hb hby d229) rfl ?_
    refine t_icmpNo 7 X0.here hx (hb hby d230) (by decide) rfl ?_
    refine t_iconst 8 (r := 0) X0.here hx (hb hby d231) (by decide) rfl ?_
    refine t_istoreN (pc' := 9) (L' := #[vr o0, vr o1, vi 0]) X0.here hx (hb hby d232) rfl rfl ?_
    refine t_iloadN 10 X0.here hx (hb hby d233) rfl rfl ?_
    refine t_aloadN 11 X0.here hx (hb hby d234) rfl rfl rfl ?_
    refine own_arlen (pc' := 12) X0 hx hZ e0 V_o0 (hb hby d235) rfl ?_
    refine t_icmpNo 15 X0.here hx (hb hby d236) (by decide) rfl ?_
    refine t_aloadN 16 X0.here hx (hb hby d246) rfl rfl rfl ?_
    refine t_iloadN 17 X0.here hx (hb hby d247) rfl rfl ?_
    refine own_aldB (pc' := 18) X0 hx hZ e0 V_o0 (j := 0) (v := (.int i_1)) (by decide) rfl (hb hby d248) rfl ?_
    refine t_aloadN 19 X0.here hx (hb hby d249) rfl rfl rfl ?_
    refine t_iloadN 20 X0.here hx (hb hby d250) rfl rfl ?_
    refine own_aldB (pc' := 21) X0 hx hZ e0 V_o1 (j := 0) (v := (.int i_3)) (by decide) rfl (hb hby d251) rfl ?_
    refine t_icmpNo 24 X0.here hx (hb hby d252) (feq hp0).1 rfl ?_
    refine t_iconst 25 (r := 0) X0.here hx (hb hby d255) (by decide) rfl ?_
    exact retN X0 hx (t := .boolean) hret (by simp) (hb hby d256) hr
def Q_r_eq_22n (Z : State) (o0 o1 v0 v1 : Addr) (cs : Int32) (k_v0 : ClassId) (x0 x1 : Int32) (k_v1 : ClassId) (y0 y1 : Int32) (h0 : Heap) (n0 : Nat) (v : Option Value) (h : Heap) (L : List Loc) : Prop := v = some z0 ∧ Fr n0 L ∧ h = h0
theorem ef_r_eq_22n (o0 o1 : Addr) (m : MethodId) : entryFrame m #[(.ref o0), (.ref o1)] 3 = mkF m 0 #[.val (.ref o0), .val (.ref o1), .unset] [] := by first | (simp [entryFrame, mkF, argsToLocals, Value.category]; done) | rfl
set_option maxRecDepth 65536 in
set_option maxHeartbeats 40000000 in
theorem r_eq_22n (l : Launch) (Z : State) (a0 : Array Value) (hw : HW Z a0) (ws : List Jvm.Cond) (o0 o1 v0 v1 : Addr) (cs : Int32) (k_v0 : ClassId) (x0 x1 : Int32) (k_v1 : ClassId) (y0 y1 : Int32) (h0 : Heap) (n0 : Nat) (Z0 : n0 ≤ h0.size) (hb0 : ¬ (x0 = y0)) (hcs : ¬ (cs = (0 : Int32))) (ne_o0_o1 : o0 ≠ o1) (E_o1 : Ex0 Z h0 o1) (S_COMPACT_STRINGS : SCS Z cs) (O0 : Old Z n0 h0) (F_o0_coder : Fd1 Z h0 o0 z0) (F_o1_coder : Fd1 Z h0 o1 z0) (F_o0_value : Fd0 Z h0 o0 (.ref v0)) (F_o1_value : Fd0 Z h0 o1 (.ref v1)) (V_v0 : Arv Z h0 v0 k_v0 .byte 2 [(.int x0), (.int x1)] z0) (V_v1 : Arv Z h0 v1 k_v1 .byte 2 [(.int y0), (.int y1)] z0) :
    MF l Z y15_equals b14_ 3 (some .boolean) ws ⟨3, 0, 0, 60⟩ #[(.ref o0), (.ref o1)] h0 (Q_r_eq_22n Z o0 o1 v0 v1 cs k_v0 x0 x1 k_v1 y0 y1 h0 n0) := by
  refine own_body (plainFor_of_name pn_String564) (ef_r_eq_22n o0 o1) (by decide) (by decide) ?_
  intro p e s m below meth c s₁ hx hby hml hown hnm hret hZ hh e0 X0
  have N0 := Fr.nil n0
  obtain ⟨T1, X1, e1, st1⟩ := instY X0 hx hZ hown (w53 hw) e0 (Ins.self E_o1) (g := (mkF m 8 #[vr o0, vr o1, .unset] [(.ref o1)])) rfl rfl (hb hby d209)
  obtain ⟨T2, X2, e2, st2⟩ := castY X1 hx hZ hown (w53 hw) e1 (Ins.self E_o1) (g := (mkF m 15 #[vr o0, vr o1, .unset] [(.ref o1)])) rfl rfl (hb hby d212)
  obtain ⟨T3, X3, e3, st3⟩ := getS2 X2 hx hZ hown (host := "") (Or.inl (w35 hw)) Via.refl e2 (Sta.ext O0.2 S_COMPACT_STRINGS) (g := (mkF m 19 #[vr o0, vr o1, vr o1] [])) rfl (hb hby d214)
  obtain ⟨T4, X4, e4, st4⟩ := getF X3 hx hZ hown (host := "") (Or.inl (w28 hw)) Via.refl e3 F_o0_coder (g := (mkF m 26 #[vr o0, vr o1, vr o1] [(.ref o0)])) rfl rfl (hb hby d217)
  obtain ⟨T5, X5, e5, st5⟩ := getF X4 hx hZ hown (host := "") (Or.inl (w28 hw)) Via.refl e4 F_o1_coder (g := (mkF m 30 #[vr o0, vr o1, vr o1] [(.ref o1), z0])) rfl rfl (hb hby d219)
  obtain ⟨T6, X6, e6, st6⟩ := getF X5 hx hZ hown (host := "") (Or.inl (w27 hw)) Via.refl e5 F_o0_value (g := (mkF m 37 #[vr o0, vr o1, vr o1] [(.ref o0)])) rfl rfl (hb hby d222)
  obtain ⟨T7, X7, e7, st7⟩ := getF X6 hx hZ hown (host := "") (Or.inl (w27 hw)) Via.refl e6 F_o1_value (g := (mkF m 41 #[vr o0, vr o1, vr o1] [(.ref o1), (.ref v0)])) rfl rfl (hb hby d224)
  obtain ⟨_, T8, L8, X8, hQ8, st8⟩ := own_static X7 hx hZ hown (w97 hw) (w98 hw) (w51 hw) (w99 hw) (by decide) (r26_equals l Z a0 hw [] v0 v1 x0 x1 k_v0 y0 y1 k_v1 h0 n0 Z0 V_v0 V_v1 hb0) e7 (W := 0) (by decide) (g := (mkF m 44 #[vr o0, vr o1, vr o1] [(.ref v1), (.ref v0)])) rfl (by rw [hml]; rfl) (argsL := [(.ref v0), (.ref v1)]) (rest := []) (lenOf pd_11 rfl) rfl rfl (own_wr rfl rfl) (hb hby d225)
  obtain ⟨rfl, N8q, e8⟩ := hQ8
  have N8 := Fr.app N0 N8q
  refine ⟨T8, _, some z0, X8, (fun h => by cases h <;> rfl), ?_, fun fs hr => ?_⟩
  · show Q_r_eq_22n Z o0 o1 v0 v1 cs k_v0 x0 x1 k_v1 y0 y1 h0 n0 _ T8.heap _
    rw [e8]
    exact ⟨rfl, N8, rfl⟩
  · refine t_aloadN 1 X0.here hx (hb hby d205) rfl rfl rfl ?_
    refine t_aloadN 2 X0.here hx (hb hby d206) rfl rfl rfl ?_
    refine Jvm.RoadKit.acmp (g := (mkF m 2 #[vr o0, vr o1, .unset] [(.ref o1), (.ref o0)])) X0 hx rfl rfl rfl (pc0 := 2) (pc' := 7) (same := false) rfl (hb hby d207) rfl (decide_eq_false fun q => absurd (Value.ref.inj q) ne_o0_o1) (by decide) (by decide) ?_
    refine t_aloadN 8 X0.here hx (hb hby d208) rfl rfl rfl ?_
    refine st1 _ ?_
    refine t_ifNo 14 X1.here hx (hb hby d210) (by decide) rfl ?_
    refine t_aloadN 15 X1.here hx (hb hby d211) rfl rfl rfl ?_
    refine st2 _ ?_
    refine t_astoreN (pc' := 19) (L' := #[vr o0, vr o1, vr o1]) X2.here hx (hb hby d213) rfl rfl rfl ?_
    refine st3 _ ?_
    refine t_ifNo 25 X3.here hx (hb hby d215) ((if0 _ _).trans (feq hcs).1) rfl ?_
    refine t_aloadN 26 X3.here hx (hb hby d216) rfl rfl rfl ?_
    refine st4 _ ?_
    refine t_aloadN 30 X4.here hx (hb hby d218) rfl rfl rfl ?_
    refine st5 _ ?_
    refine t_icmpNo 36 X5.here hx (hb hby d220) (by decide) rfl ?_
    refine t_aloadN 37 X5.here hx (hb hby d221) rfl rfl rfl ?_
    refine st6 _ ?_
    refine t_aloadN 41 X6.here hx (hb hby d223) rfl rfl rfl ?_
    refine st7 _ ?_
    refine st8 _ ?_
    refine t_ifYes (pc := 47) 54 X8.here hx (hb hby d239) (by decide) (by decide) (by decide) ?_
    refine t_iconst 55 (r := 0) X8.here hx (hb hby d245) (by decide) rfl ?_
    exact retN X8 hx (t := .boolean) hret (by simp) (hb hby d242) hr
def Q_r_seq (Z : State) (e f : Int32) (h0 : Heap) (n0 : Nat) (v : Option Value) (h : Heap) (L : List Loc) : Prop := v = some (.int (own_same e f)) ∧ Fr n0 L ∧ h = h0
theorem r_seq (l : Launch) (Z : State) (a0 : Array Value) (hw : HW Z a0) (ws : List Jvm.Cond) (o0 o1 v0 v1 : Addr) (cs : Int32) (k_v0 k_v1 : ClassId) (e f : Int32) (h0 : Heap) (n0 : Nat) (Z0 : n0 ≤ h0.size) (hcs : ¬ (cs = (0 : Int32))) (ne_o0_o1 : o0 ≠ o1) (E_o1 : Ex0 Z h0 o1) (S_COMPACT_STRINGS : SCS Z cs) (O0 : Old Z n0 h0) (F_o0_coder : Fd1 Z h0 o0 z0) (F_o1_coder : Fd1 Z h0 o1 z0) (F_o0_value : Fd0 Z h0 o0 (.ref v0)) (F_o1_value : Fd0 Z h0 o1 (.ref v1)) (V_v0 : Arv Z h0 v0 k_v0 .byte (own_ln e) (own_vs e) z0) (V_v1 : Arv Z h0 v1 k_v1 .byte (own_ln f) (own_vs f) z0) :
    MF l Z y15_equals b14_ 3 (some .boolean) ws ⟨3, 0, 0, 60⟩ #[(.ref o0), (.ref o1)] h0 (Q_r_seq Z e f h0 n0) := by
  rcases own_ln3 e with he | he | he <;> rcases own_ln3 f with hf | hf | hf <;> rw [he] at V_v0 <;> rw [hf] at V_v1
  · rw [own_vs0 he] at V_v0; rw [own_vs0 hf] at V_v1
    exact own_impP (r_eq_00 l Z a0 hw ws o0 o1 v0 v1 cs k_v0 k_v1 h0 n0 Z0 hcs ne_o0_o1 E_o1 S_COMPACT_STRINGS O0 F_o0_coder F_o1_coder F_o0_value F_o1_value V_v0 V_v1) fun v h L ⟨q1, q2, q3⟩ => ⟨q1.trans (congrArg (fun z => some (Value.int z)) (own_s0 he hf).symm), q2, q3⟩
  · rw [own_vs0 he] at V_v0; rw [own_vs1 hf] at V_v1
    exact own_impP (r_eq_01 l Z a0 hw ws o0 o1 v0 v1 cs k_v0 k_v1 (((own_u2 f) &&& (255 : Int32)).toInt8.toInt32) h0 n0 Z0 hcs ne_o0_o1 E_o1 S_COMPACT_STRINGS O0 F_o0_coder F_o1_coder F_o0_value F_o1_value V_v0 V_v1) fun v h L ⟨q1, q2, q3⟩ => ⟨q1.trans (congrArg (fun z => some (Value.int z)) (own_sne (by rw [he, hf]; decide)).symm), q2, q3⟩
  · rw [own_vs0 he] at V_v0; rw [own_vs2 hf] at V_v1
    exact own_impP (r_eq_02 l Z a0 hw ws o0 o1 v0 v1 cs k_v0 k_v1 (((own_u2 f) &&& (255 : Int32)).toInt8.toInt32) (((own_u10 f) &&& (255 : Int32)).toInt8.toInt32) h0 n0 Z0 hcs ne_o0_o1 E_o1 S_COMPACT_STRINGS O0 F_o0_coder F_o1_coder F_o0_value F_o1_value V_v0 V_v1) fun v h L ⟨q1, q2, q3⟩ => ⟨q1.trans (congrArg (fun z => some (Value.int z)) (own_sne (by rw [he, hf]; decide)).symm), q2, q3⟩
  · rw [own_vs1 he] at V_v0; rw [own_vs0 hf] at V_v1
    exact own_impP (r_eq_10 l Z a0 hw ws o0 o1 v0 v1 cs k_v0 (((own_u2 e) &&& (255 : Int32)).toInt8.toInt32) k_v1 h0 n0 Z0 hcs ne_o0_o1 E_o1 S_COMPACT_STRINGS O0 F_o0_coder F_o1_coder F_o0_value F_o1_value V_v0 V_v1) fun v h L ⟨q1, q2, q3⟩ => ⟨q1.trans (congrArg (fun z => some (Value.int z)) (own_sne (by rw [he, hf]; decide)).symm), q2, q3⟩
  · rw [own_vs1 he] at V_v0; rw [own_vs1 hf] at V_v1
    by_cases hb0 : (((own_u2 e) &&& (255 : Int32)).toInt8.toInt32) = (((own_u2 f) &&& (255 : Int32)).toInt8.toInt32)
    · exact own_impP (r_eq_11e l Z a0 hw ws o0 o1 v0 v1 cs k_v0 (((own_u2 e) &&& (255 : Int32)).toInt8.toInt32) k_v1 (((own_u2 f) &&& (255 : Int32)).toInt8.toInt32) h0 n0 Z0 hb0 hcs ne_o0_o1 E_o1 S_COMPACT_STRINGS O0 F_o0_coder F_o1_coder F_o0_value F_o1_value V_v0 V_v1) fun v h L ⟨q1, q2, q3⟩ => ⟨q1.trans (congrArg (fun z => some (Value.int z)) (own_s1e he hf hb0).symm), q2, q3⟩
    · exact own_impP (r_eq_11n l Z a0 hw ws o0 o1 v0 v1 cs k_v0 (((own_u2 e) &&& (255 : Int32)).toInt8.toInt32) k_v1 (((own_u2 f) &&& (255 : Int32)).toInt8.toInt32) h0 n0 Z0 hb0 hcs ne_o0_o1 E_o1 S_COMPACT_STRINGS O0 F_o0_coder F_o1_coder F_o0_value F_o1_value V_v0 V_v1) fun v h L ⟨q1, q2, q3⟩ => ⟨q1.trans (congrArg (fun z => some (Value.int z)) (own_s1n he hf hb0).symm), q2, q3⟩
  · rw [own_vs1 he] at V_v0; rw [own_vs2 hf] at V_v1
    exact own_impP (r_eq_12 l Z a0 hw ws o0 o1 v0 v1 cs k_v0 (((own_u2 e) &&& (255 : Int32)).toInt8.toInt32) k_v1 (((own_u2 f) &&& (255 : Int32)).toInt8.toInt32) (((own_u10 f) &&& (255 : Int32)).toInt8.toInt32) h0 n0 Z0 hcs ne_o0_o1 E_o1 S_COMPACT_STRINGS O0 F_o0_coder F_o1_coder F_o0_value F_o1_value V_v0 V_v1) fun v h L ⟨q1, q2, q3⟩ => ⟨q1.trans (congrArg (fun z => some (Value.int z)) (own_sne (by rw [he, hf]; decide)).symm), q2, q3⟩
  · rw [own_vs2 he] at V_v0; rw [own_vs0 hf] at V_v1
    exact own_impP (r_eq_20 l Z a0 hw ws o0 o1 v0 v1 cs k_v0 (((own_u2 e) &&& (255 : Int32)).toInt8.toInt32) (((own_u10 e) &&& (255 : Int32)).toInt8.toInt32) k_v1 h0 n0 Z0 hcs ne_o0_o1 E_o1 S_COMPACT_STRINGS O0 F_o0_coder F_o1_coder F_o0_value F_o1_value V_v0 V_v1) fun v h L ⟨q1, q2, q3⟩ => ⟨q1.trans (congrArg (fun z => some (Value.int z)) (own_sne (by rw [he, hf]; decide)).symm), q2, q3⟩
  · rw [own_vs2 he] at V_v0; rw [own_vs1 hf] at V_v1
    exact own_impP (r_eq_21 l Z a0 hw ws o0 o1 v0 v1 cs k_v0 (((own_u2 e) &&& (255 : Int32)).toInt8.toInt32) (((own_u10 e) &&& (255 : Int32)).toInt8.toInt32) k_v1 (((own_u2 f) &&& (255 : Int32)).toInt8.toInt32) h0 n0 Z0 hcs ne_o0_o1 E_o1 S_COMPACT_STRINGS O0 F_o0_coder F_o1_coder F_o0_value F_o1_value V_v0 V_v1) fun v h L ⟨q1, q2, q3⟩ => ⟨q1.trans (congrArg (fun z => some (Value.int z)) (own_sne (by rw [he, hf]; decide)).symm), q2, q3⟩
  · rw [own_vs2 he] at V_v0; rw [own_vs2 hf] at V_v1
    by_cases hb0 : (((own_u2 e) &&& (255 : Int32)).toInt8.toInt32) = (((own_u2 f) &&& (255 : Int32)).toInt8.toInt32)
    · by_cases hb1 : (((own_u10 e) &&& (255 : Int32)).toInt8.toInt32) = (((own_u10 f) &&& (255 : Int32)).toInt8.toInt32)
      · exact own_impP (r_eq_22ee l Z a0 hw ws o0 o1 v0 v1 cs k_v0 (((own_u2 e) &&& (255 : Int32)).toInt8.toInt32) (((own_u10 e) &&& (255 : Int32)).toInt8.toInt32) k_v1 (((own_u2 f) &&& (255 : Int32)).toInt8.toInt32) (((own_u10 f) &&& (255 : Int32)).toInt8.toInt32) h0 n0 Z0 hb0 hb1 hcs ne_o0_o1 E_o1 S_COMPACT_STRINGS O0 F_o0_coder F_o1_coder F_o0_value F_o1_value V_v0 V_v1) fun v h L ⟨q1, q2, q3⟩ => ⟨q1.trans (congrArg (fun z => some (Value.int z)) (own_s2ee he hf hb0 hb1).symm), q2, q3⟩
      · exact own_impP (r_eq_22en l Z a0 hw ws o0 o1 v0 v1 cs k_v0 (((own_u2 e) &&& (255 : Int32)).toInt8.toInt32) (((own_u10 e) &&& (255 : Int32)).toInt8.toInt32) k_v1 (((own_u2 f) &&& (255 : Int32)).toInt8.toInt32) (((own_u10 f) &&& (255 : Int32)).toInt8.toInt32) h0 n0 Z0 hb0 hb1 hcs ne_o0_o1 E_o1 S_COMPACT_STRINGS O0 F_o0_coder F_o1_coder F_o0_value F_o1_value V_v0 V_v1) fun v h L ⟨q1, q2, q3⟩ => ⟨q1.trans (congrArg (fun z => some (Value.int z)) (own_s2en he hf hb0 hb1).symm), q2, q3⟩
    · exact own_impP (r_eq_22n l Z a0 hw ws o0 o1 v0 v1 cs k_v0 (((own_u2 e) &&& (255 : Int32)).toInt8.toInt32) (((own_u10 e) &&& (255 : Int32)).toInt8.toInt32) k_v1 (((own_u2 f) &&& (255 : Int32)).toInt8.toInt32) (((own_u10 f) &&& (255 : Int32)).toInt8.toInt32) h0 n0 Z0 hb0 hcs ne_o0_o1 E_o1 S_COMPACT_STRINGS O0 F_o0_coder F_o1_coder F_o0_value F_o1_value V_v0 V_v1) fun v h L ⟨q1, q2, q3⟩ => ⟨q1.trans (congrArg (fun z => some (Value.int z)) (own_s2n he hf hb0).symm), q2, q3⟩
def w0 (hw : HW Z a0) := ow 0 hw rfl
def w3 (hw : HW Z a0) := ow 3 hw rfl
theorem pd_12 : parseMethodDescriptor "(I)Ljava/lang/String;" = some ⟨[.int], some (.object "java/lang/String")⟩ := by decide +kernel
def w1 (hw : HW Z a0) := ow 1 hw rfl
def w60 (hw : HW Z a0) := ow 60 hw rfl
def w61 (hw : HW Z a0) := ow 61 hw rfl
def w62 (hw : HW Z a0) := ow 62 hw rfl
def w74 (hw : HW Z a0) := ow 74 hw rfl
abbrev Fd2 (Z : State) (h : Heap) (a : Addr) (v : Value) : Prop := Fld Z h a "com/example/unearth/unearth/eval/Judgment" "request" "Ljava/lang/String;" v
abbrev sl2 (Z : State) : Nat := Jvm.RoadKit.slotOf Z "com/example/unearth/unearth/eval/Judgment" "request" "Ljava/lang/String;"
def w77 (hw : HW Z a0) := ow 77 hw rfl
abbrev Fd3 (Z : State) (h : Heap) (a : Addr) (v : Value) : Prop := Fld Z h a "com/example/unearth/unearth/eval/Judgment" "record" "Ljava/lang/String;" v
abbrev sl3 (Z : State) : Nat := Jvm.RoadKit.slotOf Z "com/example/unearth/unearth/eval/Judgment" "record" "Ljava/lang/String;"
def w79 (hw : HW Z a0) := ow 79 hw rfl
abbrev Fd4 (Z : State) (h : Heap) (a : Addr) (v : Value) : Prop := Fld Z h a "com/example/unearth/unearth/eval/Judgment" "relevance" "I" v
abbrev sl4 (Z : State) : Nat := Jvm.RoadKit.slotOf Z "com/example/unearth/unearth/eval/Judgment" "relevance" "I"
def w63 (hw : HW Z a0) := ow 63 hw rfl
abbrev b16_ := prog_11_method_1_code
theorem d257 : decode b16_ 0 = .ok (.aload_n 0, 1) := by decide +kernel
theorem d258 : decode b16_ 1 = .ok (.invokespecial 1, 3) := by decide +kernel
def w66 (hw : HW Z a0) := ow 66 hw rfl
theorem d259 : decode b16_ 4 = .ok (.aload_n 0, 1) := by decide +kernel
theorem d260 : decode b16_ 5 = .ok (.aload_n 1, 1) := by decide +kernel
theorem d261 : decode b16_ 6 = .ok (.ldc 7, 2) := by decide +kernel
theorem d262 : decode b16_ 8 = .ok (.invokestatic 9, 3) := by decide +kernel
def w68 (hw : HW Z a0) := ow 68 hw rfl
abbrev b17_ := jdk_31_method_11_code
theorem d263 : decode b17_ 0 = .ok (.aload_n 0, 1) := by decide +kernel
theorem d264 : decode b17_ 1 = .ok (.ifnonnull 12, 3) := by decide +kernel
theorem d265 : decode b17_ 13 = .ok (.aload_n 0, 1) := by decide +kernel
theorem d266 : decode b17_ 14 = .ok (.areturn, 1) := by decide +kernel
theorem pn_Objects675 : plainName "java/util/Objects" = true := by first | (simp [plainName, overriddenIn]; done) | decide +kernel
abbrev y16_requireNonNull : MethodName := ⟨"java/util/Objects", "requireNonNull", "(Ljava/lang/Object;Ljava/lang/String;)Ljava/lang/Object;"⟩
def Q_r28_requireNonNull (Z : State) (o0 o1 : Addr) (h0 : Heap) (n0 : Nat) (v : Option Value) (h : Heap) (L : List Loc) : Prop := v = some (.ref o0) ∧ Fr n0 L ∧ h = h0
theorem ef_r28_requireNonNull (o0 o1 : Addr) (m : MethodId) : entryFrame m #[(.ref o0), (.ref o1)] 2 = mkF m 0 #[.val (.ref o0), .val (.ref o1)] [] := by first | (simp [entryFrame, mkF, argsToLocals, Value.category]; done) | rfl
set_option maxRecDepth 65536 in
set_option maxHeartbeats 40000000 in
theorem r28_requireNonNull (l : Launch) (Z : State) (a0 : Array Value) (hw : HW Z a0) (ws : List Jvm.Cond) (o0 o1 : Addr) (h0 : Heap) (n0 : Nat) (Z0 : n0 ≤ h0.size) :
    MF l Z y16_requireNonNull b17_ 2 (some (.object "java/lang/Object")) ws ⟨0, 0, 0, 0⟩ #[(.ref o0), (.ref o1)] h0 (Q_r28_requireNonNull Z o0 o1 h0 n0) := by
  refine own_body (plainFor_of_name pn_Objects675) (ef_r28_requireNonNull o0 o1) (by decide) (by decide) ?_
  intro p e s m below meth c s₁ hx hby hml hown hnm hret hZ hh e0 X0
  have N0 := Fr.nil n0
  refine ⟨s₁, _, some (.ref o0), X0, (fun h => by cases h <;> rfl), ?_, fun fs hr => ?_⟩
  · show Q_r28_requireNonNull Z o0 o1 h0 n0 _ s₁.heap _
    rw [e0]
    exact ⟨rfl, N0, rfl⟩
  · refine t_aloadN 1 X0.here hx (hb hby d263) rfl rfl rfl ?_
    refine t_ifnonnullYes (pc := 1) 13 X0.here hx (hb hby d264) (by decide) (by decide) ?_
    refine t_aloadN 14 X0.here hx (hb hby d265) rfl rfl rfl ?_
    jvm_step X0.here [X0.here.top, hx, (hb hby d266), X0.method', hret, Value.isRef, FieldType.isReference]
    first | (intro acts; rw [hr _ acts rfl rfl rfl]) | rw [hr _ _ rfl rfl rfl]
    exact Steps.refl _
def w71 (hw : HW Z a0) := ow 71 hw rfl
def w70 (hw : HW Z a0) := ow 70 hw rfl
theorem pd_13 : parseMethodDescriptor "(Ljava/lang/Object;Ljava/lang/String;)Ljava/lang/Object;" = some ⟨[(.object "java/lang/Object"), (.object "java/lang/String")], some (.object "java/lang/Object")⟩ := by decide +kernel
def w69 (hw : HW Z a0) := ow 69 hw rfl
theorem d267 : decode b16_ 11 = .ok (.checkcast 15, 3) := by decide +kernel
def w72 (hw : HW Z a0) := ow 72 hw rfl
theorem d268 : decode b16_ 14 = .ok (.putfield 17, 3) := by decide +kernel
def w73 (hw : HW Z a0) := ow 73 hw rfl
abbrev Ex1 (Z : State) (h : Heap) (a : Addr) : Prop := Exa Z h a "com/example/unearth/unearth/eval/Judgment"
theorem d269 : decode b16_ 17 = .ok (.aload_n 0, 1) := by decide +kernel
theorem d270 : decode b16_ 18 = .ok (.aload_n 2, 1) := by decide +kernel
theorem d271 : decode b16_ 19 = .ok (.ldc 22, 2) := by decide +kernel
theorem d272 : decode b16_ 21 = .ok (.invokestatic 9, 3) := by decide +kernel
theorem d273 : decode b16_ 24 = .ok (.checkcast 15, 3) := by decide +kernel
theorem d274 : decode b16_ 27 = .ok (.putfield 24, 3) := by decide +kernel
def w76 (hw : HW Z a0) := ow 76 hw rfl
theorem sn_2 {Z : State} {a0 : Array Value} (hw : HW Z a0) : Jvm.RoadKit.slotOf Z "com/example/unearth/unearth/eval/Judgment" "record" "Ljava/lang/String;" ≠ Jvm.RoadKit.slotOf Z "com/example/unearth/unearth/eval/Judgment" "request" "Ljava/lang/String;" := slot_ne (C := "com/example/unearth/unearth/eval/Judgment") (a0 := a0) (Or.inr (w77 hw)) (Or.inr (w74 hw)) (by decide) (t := (.object "java/lang/String")) (t' := (.object "java/lang/String")) (by decide) (by decide)
theorem d275 : decode b16_ 30 = .ok (.aload_n 0, 1) := by decide +kernel
theorem d276 : decode b16_ 31 = .ok (.iload_n 3, 1) := by decide +kernel
theorem d277 : decode b16_ 32 = .ok (.putfield 26, 3) := by decide +kernel
def w78 (hw : HW Z a0) := ow 78 hw rfl
theorem sn_3 {Z : State} {a0 : Array Value} (hw : HW Z a0) : Jvm.RoadKit.slotOf Z "com/example/unearth/unearth/eval/Judgment" "relevance" "I" ≠ Jvm.RoadKit.slotOf Z "com/example/unearth/unearth/eval/Judgment" "request" "Ljava/lang/String;" := slot_ne (C := "com/example/unearth/unearth/eval/Judgment") (a0 := a0) (Or.inr (w79 hw)) (Or.inr (w74 hw)) (by decide) (t := .int) (t' := (.object "java/lang/String")) (by decide) (by decide)
theorem sn_4 {Z : State} {a0 : Array Value} (hw : HW Z a0) : Jvm.RoadKit.slotOf Z "com/example/unearth/unearth/eval/Judgment" "relevance" "I" ≠ Jvm.RoadKit.slotOf Z "com/example/unearth/unearth/eval/Judgment" "record" "Ljava/lang/String;" := slot_ne (C := "com/example/unearth/unearth/eval/Judgment") (a0 := a0) (Or.inr (w79 hw)) (Or.inr (w77 hw)) (by decide) (t := .int) (t' := (.object "java/lang/String")) (by decide) (by decide)
theorem d278 : decode b16_ 35 = .ok (.return_, 1) := by decide +kernel
theorem sn_5 {Z : State} {a0 : Array Value} (hw : HW Z a0) : Jvm.RoadKit.slotOf Z "com/example/unearth/unearth/eval/Judgment" "request" "Ljava/lang/String;" ≠ Jvm.RoadKit.slotOf Z "com/example/unearth/unearth/eval/Judgment" "record" "Ljava/lang/String;" := slot_ne (C := "com/example/unearth/unearth/eval/Judgment") (a0 := a0) (Or.inr (w74 hw)) (Or.inr (w77 hw)) (by decide) (t := (.object "java/lang/String")) (t' := (.object "java/lang/String")) (by decide) (by decide)
theorem sn_6 {Z : State} {a0 : Array Value} (hw : HW Z a0) : Jvm.RoadKit.slotOf Z "com/example/unearth/unearth/eval/Judgment" "request" "Ljava/lang/String;" ≠ Jvm.RoadKit.slotOf Z "com/example/unearth/unearth/eval/Judgment" "relevance" "I" := slot_ne (C := "com/example/unearth/unearth/eval/Judgment") (a0 := a0) (Or.inr (w74 hw)) (Or.inr (w79 hw)) (by decide) (t := (.object "java/lang/String")) (t' := .int) (by decide) (by decide)
theorem sn_7 {Z : State} {a0 : Array Value} (hw : HW Z a0) : Jvm.RoadKit.slotOf Z "com/example/unearth/unearth/eval/Judgment" "record" "Ljava/lang/String;" ≠ Jvm.RoadKit.slotOf Z "com/example/unearth/unearth/eval/Judgment" "relevance" "I" := slot_ne (C := "com/example/unearth/unearth/eval/Judgment") (a0 := a0) (Or.inr (w77 hw)) (Or.inr (w79 hw)) (by decide) (t := (.object "java/lang/String")) (t' := .int) (by decide) (by decide)
theorem pn_Judgment86 : plainName "com/example/unearth/unearth/eval/Judgment" = true := by first | (simp [plainName, overriddenIn]; done) | decide +kernel
abbrev y17__init_ : MethodName := ⟨"com/example/unearth/unearth/eval/Judgment", "<init>", "(Ljava/lang/String;Ljava/lang/String;I)V"⟩
def WS_r27__init_ (Z : State) (o0 : Addr) : List (Addr × Nat) := [(o0, (sl2 Z)), (o0, (sl3 Z)), (o0, (sl4 Z))]
def Q_r27__init_ (Z : State) (o0 o1 o2 : Addr) (i_1 : Int32) (h0 : Heap) (n0 : Nat) (v : Option Value) (h : Heap) (L : List Loc) : Prop := v = none ∧ Fr n0 L ∧ KL h0 h (WS_r27__init_ Z o0) ∧ Fd2 Z h o0 (.ref o1) ∧ Fd3 Z h o0 (.ref o2) ∧ Fd4 Z h o0 (.int i_1)
theorem ef_r27__init_ (o0 o1 o2 : Addr) (i_1 : Int32) (m : MethodId) : entryFrame m #[(.ref o0), (.ref o1), (.ref o2), (.int i_1)] 4 = mkF m 0 #[.val (.ref o0), .val (.ref o1), .val (.ref o2), .val (.int i_1)] [] := by first | (simp [entryFrame, mkF, argsToLocals, Value.category]; done) | rfl
set_option maxRecDepth 65536 in
set_option maxHeartbeats 40000000 in
theorem r27__init_ (l : Launch) (Z : State) (a0 : Array Value) (hw : HW Z a0) (ws : List Jvm.Cond) (o0 o1 o2 : Addr) (i_1 : Int32) (h0 : Heap) (n0 : Nat) (Z0 : n0 ≤ h0.size) (E_o1 : Ex0 Z h0 o1) (F_o0_request : Fd2 Z h0 o0 .null) (E_o0 : Ex1 Z h0 o0) (g_o0 : n0 ≤ o0) (E_o2 : Ex0 Z h0 o2) (F_o0_record : Fd3 Z h0 o0 .null) (F_o0_relevance : Fd4 Z h0 o0 z0) :
    OMH l Z consts_1 [] y17__init_ b16_ 4 none ws ⟨1, 4, 60, 14⟩ #[(.ref o0), (.ref o1), (.ref o2), (.int i_1)] h0 (Q_r27__init_ Z o0 o1 o2 i_1 h0 n0) := by
  refine own_bodyH (k := 4) (n := 60) (own_EW hw) (plainFor_of_name pn_Judgment86) (ef_r27__init_ o0 o1 o2 i_1) (by decide) (by decide) ?_
  intro p e s m below meth c s₁ hx hby hml hown hnm hret hZ e0 hS0 hk0 X0 hC0 hSF0
  have N0 := Fr.nil n0
  obtain ⟨T2, X2, e2, st2⟩ := initO X0 hx hZ hown (w66 hw) (w19 hw) (w20 hw) e0 (g := (mkF m 1 #[vr o0, vr o1, vr o2, vi i_1] [(.ref o0)])) rfl (by rw [hml]; rfl) rfl (hb hby d258) (by decide) (W := 0) (by show 2 * 0 + _ ≤ _; exact Nat.le_of_eq rfl) (by decide)
  obtain ⟨c3, T3, h3, k3, b3, kb3, X3, e3, E3, hS3, hk3, hZ3, hown3, Ex3, Fc3, Fv3, Ar3, lta3, ltb3, hC3, Lt3, hne3, st3⟩ := ldcCH X2 hx hZ hown (w67 hw) (own_wS hw) e2 hS0 hk0 (own_EW hw) (by decide) (CHr.refl hC0).1 (vs := [(.int 114), (.int 101), (.int 113), (.int 117), (.int 101), (.int 115), (.int 116)]) (z := 7) ⟨by decide, rfl⟩ (by decide) rfl (g := (mkF m 6 #[vr o0, vr o1, vr o2, vi i_1] [(.ref o1), (.ref o0)])) rfl (hb hby d261) (n := 28) (by decide) (by decide) (by decide) (by decide)
  have K3 := KL.ofE E3
  have Ah1 := (CHr.refl hC0).trans hC3
  obtain ⟨_, T4, L4, X4, hQ4, st4⟩ := own_static X3 hx hZ3 hown3 (w68 hw) (w69 hw) (w70 hw) (w71 hw) (by decide) (r28_requireNonNull l Z a0 hw [] o1 c3 h3 n0 (Nat.le_trans Z0 K3.1)) e3 (W := 1) (by decide) (g := (mkF m 8 #[vr o0, vr o1, vr o2, vi i_1] [(.ref c3), (.ref o1), (.ref o0)])) rfl (by rw [hml]; rfl) (argsL := [(.ref o1), (.ref c3)]) (rest := [(.ref o0)]) (lenOf pd_13 rfl) rfl rfl (own_wr rfl rfl) (hb hby d262)
  obtain ⟨rfl, N4q, e4⟩ := hQ4
  have N4 := Fr.app N0 N4q
  have f5 := (kExa K3 E_o1)
  obtain ⟨T6, X6, e6, st6⟩ := castY X4 hx hZ3 hown3 (w72 hw) e4 (Ins.self f5) (g := (mkF m 11 #[vr o0, vr o1, vr o2, vi i_1] [(.ref o1), (.ref o0)])) rfl rfl (hb hby d267)
  have f7 := (kFld K3 F_o0_request nw0)
  have f8 := (kExa K3 E_o0)
  obtain ⟨T9, h9, X9, e9, W9, st9⟩ := putF X6 hx hZ3 hown3 (host := "") (Or.inl (w73 hw)) Via.refl e6 f7 f8 (Or.inr ⟨(w74 hw), rfl, hnm⟩) (w61 hw) (ty := (.object "java/lang/String")) (by decide) rfl rfl (g := (mkF m 14 #[vr o0, vr o1, vr o2, vi i_1] [(.ref o1), (.ref o0)])) rfl rfl (hb hby d268)
  have K9 := KL.ofW W9
  have Ck1 := own_chK K9 (naF (Safe.exa hZ3.alike f8 (by decide) (by decide)) na0) Ah1.1
  have Ah2 := Ah1.trans Ck1.1
  have Fw9 : Fd2 Z h9 o0 (.ref o1) := Fld.same W9 f7
  have N9 := Fr.snoc X9 N4 g_o0
  obtain ⟨c10, T10, h10, k10, b10, kb10, X10, e10, E10, hS10, hk10, hZ10, hown10, Ex10, Fc10, Fv10, Ar10, lta10, ltb10, hC10, Lt10, hne10, st10⟩ := ldcCH X9 hx hZ3 hown3 (w75 hw) (own_wS hw) e9 hS3 (Nat.le_trans hk3 K9.1) (own_EW hw) (by decide) Ah2.1 (vs := [(.int 114), (.int 101), (.int 99), (.int 111), (.int 114), (.int 100)]) (z := 6) ⟨by decide, rfl⟩ (by decide) rfl (g := (mkF m 19 #[vr o0, vr o1, vr o2, vi i_1] [(.ref o2), (.ref o0)])) rfl (hb hby d271) (n := 24) (by decide) (by decide) (by decide) (by decide)
  have K10 := KL.ofE E10
  have Ah3 := Ah2.trans hC10
  have sz_0_2 := (Nat.le_trans K3.1 K9.1)
  have sz_0_3 := (Nat.le_trans sz_0_2 K10.1)
  obtain ⟨_, T11, L11, X11, hQ11, st11⟩ := own_static X10 hx hZ10 hown10 (w68 hw) (w69 hw) (w70 hw) (w71 hw) (by decide) (r28_requireNonNull l Z a0 hw [] o2 c10 h10 n0 (Nat.le_trans Z0 sz_0_3)) e10 (W := 1) (by decide) (g := (mkF m 21 #[vr o0, vr o1, vr o2, vi i_1] [(.ref c10), (.ref o2), (.ref o0)])) rfl (by rw [hml]; rfl) (argsL := [(.ref o2), (.ref c10)]) (rest := [(.ref o0)]) (lenOf pd_13 rfl) rfl rfl (own_wr rfl rfl) (hb hby d272)
  obtain ⟨rfl, N11q, e11⟩ := hQ11
  have N11 := Fr.app N9 N11q
  have f12 := (kExa K10 (kExa K9 (kExa K3 E_o2)))
  obtain ⟨T13, X13, e13, st13⟩ := castY X11 hx hZ10 hown10 (w72 hw) e11 (Ins.self f12) (g := (mkF m 24 #[vr o0, vr o1, vr o2, vi i_1] [(.ref o2), (.ref o0)])) rfl rfl (hb hby d273)
  have f14 := (kFld K10 (kFld K9 (kFld K3 F_o0_record nw0) (nwS (Or.inr (sn_2 hw)) nw0)) nw0)
  have f15 := (kExa K10 (kExa K9 f8))
  obtain ⟨T16, h16, X16, e16, W16, st16⟩ := putF X13 hx hZ10 hown10 (host := "") (Or.inl (w76 hw)) Via.refl e13 f14 f15 (Or.inr ⟨(w77 hw), rfl, hnm⟩) (w61 hw) (ty := (.object "java/lang/String")) (by decide) rfl rfl (g := (mkF m 27 #[vr o0, vr o1, vr o2, vi i_1] [(.ref o2), (.ref o0)])) rfl rfl (hb hby d274)
  have K16 := KL.ofW W16
  have Ck3 := own_chK K16 (naF (Safe.exa hZ10.alike f15 (by decide) (by decide)) na0) Ah3.1
  have Ah4 := Ah3.trans Ck3.1
  have Fw16 : Fd3 Z h16 o0 (.ref o2) := Fld.same W16 f14
  have N16 := Fr.snoc X16 N11 g_o0
  have f17 := (kFld K16 (kFld K10 (kFld K9 (kFld K3 F_o0_relevance nw0) (nwS (Or.inr (sn_3 hw)) nw0)) nw0) (nwS (Or.inr (sn_4 hw)) nw0))
  have f18 := (kExa K16 f15)
  obtain ⟨T19, h19, X19, e19, W19, st19⟩ := putF X16 hx hZ10 hown10 (host := "") (Or.inl (w78 hw)) Via.refl e16 f17 f18 (Or.inr ⟨(w79 hw), rfl, hnm⟩) (w61 hw) (ty := .int) (by decide) rfl rfl (g := (mkF m 32 #[vr o0, vr o1, vr o2, vi i_1] [(.int i_1), (.ref o0)])) rfl rfl (hb hby d277)
  have K19 := KL.ofW W19
  have Ck4 := own_chK K19 (naF (Safe.exa hZ10.alike f18 (by decide) (by decide)) na0) Ah4.1
  have Ah5 := Ah4.trans Ck4.1
  have Fw19 : Fd4 Z h19 o0 (.int i_1) := Fld.same W19 f17
  have N19 := Fr.snoc X19 N16 g_o0
  -- what was kept, from the start on
  have C0 := (KL.refl h0 (WS_r27__init_ Z o0)).trans K3 na0
  have C1 := C0.trans K9 (naO (own_mi 0 rfl) na0)
  have C2 := C1.trans K10 na0
  have C3 := C2.trans K16 (naO (own_mi 1 rfl) na0)
  have C4 := C3.trans K19 (naO (own_mi 2 rfl) na0)
  have f20 := (kFld K19 (kFld K16 (kFld K10 Fw9 nw0) (nwS (Or.inr (sn_5 hw)) nw0)) (nwS (Or.inr (sn_6 hw)) nw0))
  have f21 := (kFld K19 Fw16 (nwS (Or.inr (sn_7 hw)) nw0))
  have sz_3_5 := (Nat.le_trans K16.1 K19.1)
  refine ⟨T19, _, none, _, _, X19, hS10, (by rw [e19]; exact (Nat.le_trans hk10 sz_3_5)), (fun h => by cases h <;> rfl), ?_, (by rw [e19]; exact Ah5), hZ10, fun fs hr => ?_⟩
  · show Q_r27__init_ Z o0 o1 o2 i_1 h0 n0 _ T19.heap _
    rw [e19]
    exact ⟨rfl, N19, C4, f20, f21, Fw19⟩
  · refine t_aloadN 1 X0.here hx (hb hby d257) rfl rfl rfl ?_
    refine st2 _ ?_
    refine t_aloadN 5 X2.here hx (hb hby d259) rfl rfl rfl ?_
    refine t_aloadN 6 X2.here hx (hb hby d260) rfl rfl rfl ?_
    refine st3 _ ?_
    refine st4 _ ?_
    refine st6 _ ?_
    refine st9 _ ?_
    refine t_aloadN 18 X9.here hx (hb hby d269) rfl rfl rfl ?_
    refine t_aloadN 19 X9.here hx (hb hby d270) rfl rfl rfl ?_
    refine st10 _ ?_
    refine st11 _ ?_
    refine st13 _ ?_
    refine st16 _ ?_
    refine t_aloadN 31 X16.here hx (hb hby d275) rfl rfl rfl ?_
    refine t_iloadN 32 X16.here hx (hb hby d276) rfl rfl ?_
    refine st19 _ ?_
    exact X19.returnOut hx hret (hb hby d278) hr
def w65 (hw : HW Z a0) := ow 65 hw rfl
theorem pd_14 : parseMethodDescriptor "(Ljava/lang/String;Ljava/lang/String;I)V" = some ⟨[(.object "java/lang/String"), (.object "java/lang/String"), .int], none⟩ := by decide +kernel
def w64 (hw : HW Z a0) := ow 64 hw rfl
def w80 (hw : HW Z a0) := ow 80 hw rfl
def w83 (hw : HW Z a0) := ow 83 hw rfl
abbrev b18_ := prog_11_method_6_code
theorem d279 : decode b18_ 0 = .ok (.aload_n 1, 1) := by decide +kernel
theorem d280 : decode b18_ 1 = .ok (.instanceof 18, 3) := by decide +kernel
theorem d281 : decode b18_ 4 = .ok (.ifCond .eq 11, 3) := by decide +kernel
theorem d282 : decode b18_ 15 = .ok (.iconst 0, 1) := by decide +kernel
theorem d283 : decode b18_ 16 = .ok (.ireturn, 1) := by decide +kernel
abbrev y18_equals : MethodName := ⟨"com/example/unearth/unearth/eval/Judgment", "equals", "(Ljava/lang/Object;)Z"⟩
def Q_r29_equals (Z : State) (o0 : Addr) (h0 : Heap) (n0 : Nat) (v : Option Value) (h : Heap) (L : List Loc) : Prop := v = some z0 ∧ Fr n0 L ∧ h = h0
theorem ef_r29_equals (o0 : Addr) (m : MethodId) : entryFrame m #[(.ref o0), .null] 3 = mkF m 0 #[.val (.ref o0), .val .null, .unset] [] := by first | (simp [entryFrame, mkF, argsToLocals, Value.category]; done) | rfl
set_option maxRecDepth 65536 in
set_option maxHeartbeats 40000000 in
theorem r29_equals (l : Launch) (Z : State) (a0 : Array Value) (hw : HW Z a0) (ws : List Jvm.Cond) (o0 : Addr) (h0 : Heap) (n0 : Nat) (Z0 : n0 ≤ h0.size) :
    MF l Z y18_equals b18_ 3 (some .boolean) ws ⟨0, 0, 0, 0⟩ #[(.ref o0), .null] h0 (Q_r29_equals Z o0 h0 n0) := by
  refine own_body (plainFor_of_name pn_Judgment86) (ef_r29_equals o0) (by decide) (by decide) ?_
  intro p e s m below meth c s₁ hx hby hml hown hnm hret hZ hh e0 X0
  have N0 := Fr.nil n0
  refine ⟨s₁, _, some z0, X0, (fun h => by cases h <;> rfl), ?_, fun fs hr => ?_⟩
  · show Q_r29_equals Z o0 h0 n0 _ s₁.heap _
    rw [e0]
    exact ⟨rfl, N0, rfl⟩
  · refine t_aloadN 1 X0.here hx (hb hby d279) rfl rfl rfl ?_
    refine X0.instanceofNull hx (g := (mkF m 1 #[vr o0, .val .null, .unset] [.null])) rfl rfl (hb hby d280) _ ?_
    refine t_ifYes (pc := 4) 15 X0.here hx (hb hby d281) (by decide) (by decide) (by decide) ?_
    refine t_iconst 16 (r := 0) X0.here hx (hb hby d282) (by decide) rfl ?_
    exact retN X0 hx (t := .boolean) hret (by simp) (hb hby d283) hr
def w84 (hw : HW Z a0) := ow 84 hw rfl
theorem pd_15 : parseMethodDescriptor "(Ljava/lang/Object;)Z" = some ⟨[(.object "java/lang/Object")], some .boolean⟩ := by decide +kernel
def w81 (hw : HW Z a0) := ow 81 hw rfl
def w82 (hw : HW Z a0) := ow 82 hw rfl
def Q_law (n0 : Nat) (v : Option Value) (L : List Loc) : Prop := v = some (.int 1) ∧ Fr n0 L
theorem ef_law_m1 (p0 p1 p2 p3 p4 p5 : Int32) (m : MethodId) : entryFrame m #[(.int p0), (.int p1), (.int p2), (.int p3), (.int p4), (.int p5)] maxLocals = mkF m 0 #[.val (.int p0), .val (.int p1), .val (.int p2), .val (.int p3), .val (.int p4), .val (.int p5), .unset, .unset, .unset, .unset, .unset, .unset, .unset, .unset] [] := by first | (simp [entryFrame, mkF, argsToLocals, Value.category, maxLocals]; done) | rfl
set_option maxRecDepth 65536 in
set_option maxHeartbeats 40000000 in
theorem law_m1 (l : Launch) (Z : State) (a0 : Array Value) (hw : HW Z a0) (ws : List Jvm.Cond) (p0 p1 p2 p3 p4 p5 cs : Int32) (h0 : Heap) (n0 : Nat) (Z0 : n0 ≤ h0.size) (hcs : ¬ (cs = (0 : Int32))) (hm : ((own_u28 p0) &&& (3 : Int32)) = (1 : Int32)) (S_COMPACT_STRINGS : SCS Z cs) (O0 : Old Z n0 h0) :
    MetFree l x (head1 (Jvm.Cond.code x code maxLocals ret :: ws) room_1) (fun a U => a = #[(.int p0), (.int p1), (.int p2), (.int p3), (.int p4), (.int p5)] ∧ Z.Warmed39 U.vm ∧ U.heap = h0 ∧ CHv Z consts_1 U.vm h0 ∧ ∀ x ∈ ([] : List Addr), Safe Z consts_1 U.vm h0 x) (fun _ _ _ _ _ => True) (fun _ U o U' => ∃ v L, o = .returned v ∧ Q_law n0 v L ∧ CHr Z consts_1 U.vm U.heap U'.vm U'.heap ∧ ReturnedEndW U o U' L 48 3264) := by
  refine own_bodyH (k := 34) (n := 174) (y := x) (Q := fun v _ L => Q_law n0 v L) (own_EW hw) (plainFor_of_name pn_JudgmentEqualsPinLaw295) (ef_law_m1 p0 p1 p2 p3 p4 p5) (by decide) (by decide) ?_
  intro p e s m below meth c s₁ hx hby hml hown hnm hret hZ e0 hS0 hk0 X0 hC0 hSF0
  have N0 := Fr.nil n0
  obtain ⟨_, T1, L1, X1, hS1, hk1, hZ1, hown1, hQ1, hC1, st1⟩ := own_Hstatic X0 hx hZ hown (w0 hw) (w1 hw) (w2 hw) (w3 hw) (by decide) (r_str l Z a0 hw [] p0 cs h0 n0 Z0 hcs S_COMPACT_STRINGS O0) e0 (W := 0) (by decide) (g := (mkF m 1 #[vi p0, vi p1, vi p2, vi p3, vi p4, vi p5, .unset, .unset, .unset, .unset, .unset, .unset, .unset, .unset] [(.int p0)])) rfl (by rw [hml]; rfl) (argsL := [(.int p0)]) (rest := []) (lenOf pd_12 rfl) rfl rfl (own_wr rfl rfl) (hb hby at_1) hS0 hk0 (own_EW hw) (CHr.refl hC0).1 sf0
  obtain ⟨s1_1, b1_1, k1_1, rfl, N1q, K1, Q1_0, Q1_1, Q1_2, Q1_3, Q1_4, Q1_5⟩ := hQ1
  have N1 := Fr.app N0 N1q
  have Ah1 := (CHr.refl hC0).trans hC1
  have f4 := (kOld K1 O0 na0)
  obtain ⟨_, T3, L3, X3, hS3, hk3, hZ3, hown3, hQ3, hC3, st3⟩ := own_Hstatic X1 hx hZ1 hown1 (w0 hw) (w1 hw) (w2 hw) (w3 hw) (by decide) (r_str l Z a0 hw [] p1 cs T1.heap n0 (Nat.le_trans Z0 K1.1) hcs S_COMPACT_STRINGS f4) rfl (W := 0) (by decide) (g := (mkF m 7 #[vi p0, vi p1, vi p2, vi p3, vi p4, vi p5, vr s1_1, .unset, .unset, .unset, .unset, .unset, .unset, .unset] [(.int p1)])) rfl (by rw [hml]; rfl) (argsL := [(.int p1)]) (rest := []) (lenOf pd_12 rfl) rfl rfl (own_wr rfl rfl) (hb hby at_7) hS1 hk1 (own_EW hw) Ah1.1 sf0
  obtain ⟨s1_3, b1_3, k1_3, rfl, N3q, K3, Q3_0, Q3_1, Q3_2, Q3_3, Q3_4, Q3_5⟩ := hQ3
  have N3 := Fr.app N1 N3q
  have Ah2 := Ah1.trans hC3
  have f7 := (kOld K3 f4 na0)
  have sz_0_2 := (Nat.le_trans K1.1 K3.1)
  obtain ⟨_, T6, L6, X6, hS6, hk6, hZ6, hown6, hQ6, hC6, st6⟩ := own_Hstatic X3 hx hZ3 hown3 (w0 hw) (w1 hw) (w2 hw) (w3 hw) (by decide) (r_str l Z a0 hw [] p2 cs T3.heap n0 (Nat.le_trans Z0 sz_0_2) hcs S_COMPACT_STRINGS f7) rfl (W := 0) (by decide) (g := (mkF m 13 #[vi p0, vi p1, vi p2, vi p3, vi p4, vi p5, vr s1_1, vr s1_3, .unset, .unset, .unset, .unset, .unset, .unset] [(.int p2)])) rfl (by rw [hml]; rfl) (argsL := [(.int p2)]) (rest := []) (lenOf pd_12 rfl) rfl rfl (own_wr rfl rfl) (hb hby at_13) hS3 hk3 (own_EW hw) Ah2.1 sf0
  obtain ⟨s1_6, b1_6, k1_6, rfl, N6q, K6, Q6_0, Q6_1, Q6_2, Q6_3, Q6_4, Q6_5⟩ := hQ6
  have N6 := Fr.app N3 N6q
  have Ah3 := Ah2.trans hC6
  have f10 := (kOld K6 f7 na0)
  have sz_0_3 := (Nat.le_trans sz_0_2 K6.1)
  obtain ⟨_, T9, L9, X9, hS9, hk9, hZ9, hown9, hQ9, hC9, st9⟩ := own_Hstatic X6 hx hZ6 hown6 (w0 hw) (w1 hw) (w2 hw) (w3 hw) (by decide) (r_str l Z a0 hw [] p3 cs T6.heap n0 (Nat.le_trans Z0 sz_0_3) hcs S_COMPACT_STRINGS f10) rfl (W := 0) (by decide) (g := (mkF m 19 #[vi p0, vi p1, vi p2, vi p3, vi p4, vi p5, vr s1_1, vr s1_3, vr s1_6, .unset, .unset, .unset, .unset, .unset] [(.int p3)])) rfl (by rw [hml]; rfl) (argsL := [(.int p3)]) (rest := []) (lenOf pd_12 rfl) rfl rfl (own_wr rfl rfl) (hb hby at_19) hS6 hk6 (own_EW hw) Ah3.1 sf0
  obtain ⟨s1_9, b1_9, k1_9, rfl, N9q, K9, Q9_0, Q9_1, Q9_2, Q9_3, Q9_4, Q9_5⟩ := hQ9
  have N9 := Fr.app N6 N9q
  have Ah4 := Ah3.trans hC9
  obtain ⟨T12, h12, X12, e12, E12, A12, D12, -, st12⟩ := newO X9 hx hZ9 hown9 (w60 hw) (w61 hw) (w62 hw) rfl (g := (mkF m 24 #[vi p0, vi p1, vi p2, vi p3, vi p4, vi p5, vr s1_1, vr s1_3, vr s1_6, vr s1_9, .unset, .unset, .unset, .unset] [])) rfl (hb hby at_24) (by decide) (by decide)
  obtain ⟨b12, g12⟩ : ∃ z, z = T9.heap.size := ⟨_, rfl⟩
  rw [← g12] at A12 D12 st12
  have ge_b12 : T9.heap.size ≤ b12 := Nat.le_of_eq g12.symm
  have K12 := KL.ofE E12
  have Ck4 := own_chK K12 na0 Ah4.1
  have Ah5 := Ah4.trans Ck4.1
  have F_b12_request : Fd2 Z h12 b12 .null := D12 (Or.inr (w74 hw)) (ty := (.object "java/lang/String")) (by decide)
  have F_b12_record : Fd3 Z h12 b12 .null := D12 (Or.inr (w77 hw)) (ty := (.object "java/lang/String")) (by decide)
  have F_b12_relevance : Fd4 Z h12 b12 z0 := D12 (Or.inr (w79 hw)) (ty := .int) (by decide)
  have f14 := (kExa K12 (kExa K9 (kExa K6 (kExa K3 Q1_2))))
  have sz_0_4 := (Nat.le_trans sz_0_3 K9.1)
  have f15 := (kExa K12 (kExa K9 Q6_2))
  have sz_0_5 := (Nat.le_trans sz_0_4 K12.1)
  obtain ⟨_, T13, L13, X13, hS13, hk13, hZ13, hown13, hQ13, hC13, st13⟩ := own_Hinit X12 hx hZ9 rfl hown9 (w63 hw) (w64 hw) (w62 hw) (w65 hw) (by decide) (r27__init_ l Z a0 hw [] b12 s1_1 s1_6 p4 h12 n0 (Nat.le_trans Z0 sz_0_5) f14 F_b12_request A12 (Nat.le_trans Z0 (Nat.le_trans sz_0_4 ge_b12)) f15 F_b12_record F_b12_relevance) e12 (W := 1) (by decide) (g := (mkF m 34 #[vi p0, vi p1, vi p2, vi p3, vi p4, vi p5, vr s1_1, vr s1_3, vr s1_6, vr s1_9, .unset, .unset, .unset, .unset] [(.int p4), (.ref s1_6), (.ref s1_1), (.ref b12), (.ref b12)])) rfl (by rw [hml]; rfl) (argsL := [(.ref s1_1), (.ref s1_6), (.int p4)]) (rest := [(.ref b12)]) (lenOf pd_14 rfl) rfl rfl (own_wr rfl rfl) (hb hby at_34) hS9 (Nat.le_trans hk9 K12.1) (own_EW hw) Ah5.1 sf0
  obtain ⟨rfl, N13q, K13, Q13_0, Q13_1, Q13_2⟩ := hQ13
  have N13 := Fr.app N9 N13q
  have Ah6 := Ah5.trans hC13
  obtain ⟨T16, h16, X16, e16, E16, A16, D16, -, st16⟩ := newO X13 hx hZ13 hown13 (w60 hw) (w61 hw) (w62 hw) rfl (g := (mkF m 39 #[vi p0, vi p1, vi p2, vi p3, vi p4, vi p5, vr s1_1, vr s1_3, vr s1_6, vr s1_9, vr b12, .unset, .unset, .unset] [])) rfl (hb hby at_39) (by decide) (by decide)
  obtain ⟨b16, g16⟩ : ∃ z, z = T13.heap.size := ⟨_, rfl⟩
  rw [← g16] at A16 D16 st16
  have ge_b16 : T13.heap.size ≤ b16 := Nat.le_of_eq g16.symm
  have K16 := KL.ofE E16
  have Ck6 := own_chK K16 na0 Ah6.1
  have Ah7 := Ah6.trans Ck6.1
  have F_b16_request : Fd2 Z h16 b16 .null := D16 (Or.inr (w74 hw)) (ty := (.object "java/lang/String")) (by decide)
  have F_b16_record : Fd3 Z h16 b16 .null := D16 (Or.inr (w77 hw)) (ty := (.object "java/lang/String")) (by decide)
  have F_b16_relevance : Fd4 Z h16 b16 z0 := D16 (Or.inr (w79 hw)) (ty := .int) (by decide)
  have f18 := (kExa K16 (kExa K13 (kExa K12 (kExa K9 (kExa K6 Q3_2)))))
  have sz_0_6 := (Nat.le_trans sz_0_5 K13.1)
  have f19 := (kExa K16 (kExa K13 (kExa K12 Q9_2)))
  have sz_0_7 := (Nat.le_trans sz_0_6 K16.1)
  obtain ⟨_, T17, L17, X17, hS17, hk17, hZ17, hown17, hQ17, hC17, st17⟩ := own_Hinit X16 hx hZ13 rfl hown13 (w63 hw) (w64 hw) (w62 hw) (w65 hw) (by decide) (r27__init_ l Z a0 hw [] b16 s1_3 s1_9 p5 h16 n0 (Nat.le_trans Z0 sz_0_7) f18 F_b16_request A16 (Nat.le_trans Z0 (Nat.le_trans sz_0_6 ge_b16)) f19 F_b16_record F_b16_relevance) e16 (W := 1) (by decide) (g := (mkF m 49 #[vi p0, vi p1, vi p2, vi p3, vi p4, vi p5, vr s1_1, vr s1_3, vr s1_6, vr s1_9, vr b12, .unset, .unset, .unset] [(.int p5), (.ref s1_9), (.ref s1_3), (.ref b16), (.ref b16)])) rfl (by rw [hml]; rfl) (argsL := [(.ref s1_3), (.ref s1_9), (.int p5)]) (rest := [(.ref b16)]) (lenOf pd_14 rfl) rfl rfl (own_wr rfl rfl) (hb hby at_49) hS13 (Nat.le_trans hk13 K16.1) (own_EW hw) Ah7.1 sf0
  obtain ⟨rfl, N17q, K17, Q17_0, Q17_1, Q17_2⟩ := hQ17
  have N17 := Fr.app N13 N17q
  have Ah8 := Ah7.trans hC17
  have sz_0_8 := (Nat.le_trans sz_0_7 K17.1)
  have f21 := (kExa K17 (kExa K16 (kExa K13 A12)))
  obtain ⟨_, T20, L20, X20, hQ20, st20⟩ := own_virtual X17 hx hZ17 hown17 (w80 hw) (w81 hw) (notFace_of_selects (args := #[]) (mvT hZ17 (w83 hw))) (w83 hw) (w82 hw) (w62 hw) (w84 hw) (by decide) (r29_equals l Z a0 hw [] b12 T17.heap n0 (Nat.le_trans Z0 sz_0_8)) rfl f21 (W := 0) (by decide) (g := (mkF m 71 #[vi p0, vi p1, vi p2, vi p3, vi p4, vi p5, vr s1_1, vr s1_3, vr s1_6, vr s1_9, vr b12, vr b16, vi 1, .unset] [.null, (.ref b12)])) rfl (by rw [hml]; rfl) (argsL := [.null]) (rest := []) (lenOf pd_15 rfl) rfl rfl (own_wr rfl rfl) (hb hby at_71)
  obtain ⟨rfl, N20q, e20⟩ := hQ20
  have N20 := Fr.app N17 N20q
  refine ⟨T20, _, some (.int 1), _, _, X20, hS17, (by rw [e20]; exact hk17), (fun h => by cases h <;> rfl), ?_, (by rw [e20]; exact Ah8), hZ17, fun fs hr => ?_⟩
  · show Q_law n0 _ _
    exact ⟨rfl, N20⟩
  · refine t_iloadN 1 X0.here hx (hb hby at_0) rfl rfl ?_
    refine st1 _ ?_
    refine t_astore (pc' := 6) (L' := #[vi p0, vi p1, vi p2, vi p3, vi p4, vi p5, vr s1_1, .unset, .unset, .unset, .unset, .unset, .unset, .unset]) X1.here hx (hb hby at_4) rfl rfl rfl ?_
    refine t_iloadN 7 X1.here hx (hb hby at_6) rfl rfl ?_
    refine st3 _ ?_
    refine t_astore (pc' := 12) (L' := #[vi p0, vi p1, vi p2, vi p3, vi p4, vi p5, vr s1_1, vr s1_3, .unset, .unset, .unset, .unset, .unset, .unset]) X3.here hx (hb hby at_10) rfl rfl rfl ?_
    refine t_iloadN 13 X3.here hx (hb hby at_12) rfl rfl ?_
    refine st6 _ ?_
    refine t_astore (pc' := 18) (L' := #[vi p0, vi p1, vi p2, vi p3, vi p4, vi p5, vr s1_1, vr s1_3, vr s1_6, .unset, .unset, .unset, .unset, .unset]) X6.here hx (hb hby at_16) rfl rfl rfl ?_
    refine t_iloadN 19 X6.here hx (hb hby at_18) rfl rfl ?_
    refine st9 _ ?_
    refine t_astore (pc' := 24) (L' := #[vi p0, vi p1, vi p2, vi p3, vi p4, vi p5, vr s1_1, vr s1_3, vr s1_6, vr s1_9, .unset, .unset, .unset, .unset]) X9.here hx (hb hby at_22) rfl rfl rfl ?_
    refine st12 _ ?_
    refine t_dup 28 X12.here hx (hb hby at_27) rfl rfl ?_
    refine t_aload 30 X12.here hx (hb hby at_28) rfl rfl rfl ?_
    refine t_aload 32 X12.here hx (hb hby at_30) rfl rfl rfl ?_
    refine t_iload 34 X12.here hx (hb hby at_32) rfl rfl ?_
    refine st13 _ ?_
    refine t_astore (pc' := 39) (L' := #[vi p0, vi p1, vi p2, vi p3, vi p4, vi p5, vr s1_1, vr s1_3, vr s1_6, vr s1_9, vr b12, .unset, .unset, .unset]) X13.here hx (hb hby at_37) rfl rfl rfl ?_
    refine st16 _ ?_
    refine t_dup 43 X16.here hx (hb hby at_42) rfl rfl ?_
    refine t_aload 45 X16.here hx (hb hby at_43) rfl rfl rfl ?_
    refine t_aload 47 X16.here hx (hb hby at_45) rfl rfl rfl ?_
    refine t_iload 49 X16.here hx (hb hby at_47) rfl rfl ?_
    refine st17 _ ?_
    refine t_astore (pc' := 54) (L' := #[vi p0, vi p1, vi p2, vi p3, vi p4, vi p5, vr s1_1, vr s1_3, vr s1_6, vr s1_9, vr b12, vr b16, .unset, .unset]) X17.here hx (hb hby at_52) rfl rfl rfl ?_
    refine t_iloadN 55 X17.here hx (hb hby at_54) rfl rfl ?_
    refine t_bipush 57 (r := 28) X17.here hx (hb hby at_55) (by decide) rfl ?_
    refine t_iushr 58 (r := (own_u28 p0)) X17.here hx (hb hby at_57) (Eq.refl (own_u28 p0)) rfl ?_
    refine t_iconst 59 (r := 3) X17.here hx (hb hby at_58) (by decide) rfl ?_
    refine t_iand 60 (r := 1) X17.here hx (hb hby at_59) hm rfl ?_
    refine t_istore (pc' := 62) (L' := #[vi p0, vi p1, vi p2, vi p3, vi p4, vi p5, vr s1_1, vr s1_3, vr s1_6, vr s1_9, vr b12, vr b16, vi 1, .unset]) X17.here hx (hb hby at_60) rfl rfl ?_
    refine t_iload 64 X17.here hx (hb hby at_62) rfl rfl ?_
    refine t_iconst 65 (r := 1) X17.here hx (hb hby at_64) (by decide) rfl ?_
    refine t_icmpNo 68 X17.here hx (hb hby at_65) (by decide) rfl ?_
    refine t_aload 70 X17.here hx (hb hby at_68) rfl rfl rfl ?_
    refine t_aconst_null 71 X17.here hx (hb hby at_70) rfl ?_
    refine st20 _ ?_
    refine t_ifNo 77 X20.here hx (hb hby at_74) (by decide) rfl ?_
    refine t_iconst 78 (r := 1) X20.here hx (hb hby at_77) (by decide) rfl ?_
    refine t_goto (pc := 78) 82 X20.here hx (hb hby at_78) (by decide) (by decide) ?_
    exact retN X20 hx (t := .boolean) hret (by simp) (hb hby at_82) hr
def w85 (hw : HW Z a0) := ow 85 hw rfl
def w92 (hw : HW Z a0) := ow 92 hw rfl
def w93 (hw : HW Z a0) := ow 93 hw rfl
def Q_r30_equals (Z : State) (o0 o1 : Addr) (h0 : Heap) (n0 : Nat) (v : Option Value) (h : Heap) (L : List Loc) : Prop := v = some z0 ∧ Fr n0 L ∧ h = h0
theorem ef_r30_equals (o0 o1 : Addr) (m : MethodId) : entryFrame m #[(.ref o0), (.ref o1)] 3 = mkF m 0 #[.val (.ref o0), .val (.ref o1), .unset] [] := by first | (simp [entryFrame, mkF, argsToLocals, Value.category]; done) | rfl
set_option maxRecDepth 65536 in
set_option maxHeartbeats 40000000 in
theorem r30_equals (l : Launch) (Z : State) (a0 : Array Value) (hw : HW Z a0) (ws : List Jvm.Cond) (o0 o1 : Addr) (h0 : Heap) (n0 : Nat) (Z0 : n0 ≤ h0.size) (E_o1 : Ex0 Z h0 o1) :
    MF l Z y18_equals b18_ 3 (some .boolean) ws ⟨0, 0, 0, 0⟩ #[(.ref o0), (.ref o1)] h0 (Q_r30_equals Z o0 o1 h0 n0) := by
  refine own_body (plainFor_of_name pn_Judgment86) (ef_r30_equals o0 o1) (by decide) (by decide) ?_
  intro p e s m below meth c s₁ hx hby hml hown hnm hret hZ hh e0 X0
  have N0 := Fr.nil n0
  obtain ⟨T1, X1, e1, st1⟩ := instNo X0 hx hZ hown (w85 hw) e0 E_o1 (own_nsN (w92 hw) (w61 hw) (NS.step (w92 hw) (own_nsR (w93 hw) (w61 hw) (by decide)) (by decide)) (by decide)) (g := (mkF m 1 #[vr o0, vr o1, .unset] [(.ref o1)])) rfl rfl (hb hby d280)
  refine ⟨T1, _, some z0, X1, (fun h => by cases h <;> rfl), ?_, fun fs hr => ?_⟩
  · show Q_r30_equals Z o0 o1 h0 n0 _ T1.heap _
    rw [e1]
    exact ⟨rfl, N0, rfl⟩
  · refine t_aloadN 1 X0.here hx (hb hby d279) rfl rfl rfl ?_
    refine st1 _ ?_
    refine t_ifYes (pc := 4) 15 X1.here hx (hb hby d281) (by decide) (by decide) (by decide) ?_
    refine t_iconst 16 (r := 0) X1.here hx (hb hby d282) (by decide) rfl ?_
    exact retN X1 hx (t := .boolean) hret (by simp) (hb hby d283) hr
theorem ef_law_m2 (p0 p1 p2 p3 p4 p5 : Int32) (m : MethodId) : entryFrame m #[(.int p0), (.int p1), (.int p2), (.int p3), (.int p4), (.int p5)] maxLocals = mkF m 0 #[.val (.int p0), .val (.int p1), .val (.int p2), .val (.int p3), .val (.int p4), .val (.int p5), .unset, .unset, .unset, .unset, .unset, .unset, .unset, .unset] [] := by first | (simp [entryFrame, mkF, argsToLocals, Value.category, maxLocals]; done) | rfl
set_option maxRecDepth 65536 in
set_option maxHeartbeats 40000000 in
theorem law_m2 (l : Launch) (Z : State) (a0 : Array Value) (hw : HW Z a0) (ws : List Jvm.Cond) (p0 p1 p2 p3 p4 p5 cs : Int32) (h0 : Heap) (n0 : Nat) (Z0 : n0 ≤ h0.size) (hcs : ¬ (cs = (0 : Int32))) (hm : ((own_u28 p0) &&& (3 : Int32)) = (2 : Int32)) (S_COMPACT_STRINGS : SCS Z cs) (O0 : Old Z n0 h0) :
    MetFree l x (head1 (Jvm.Cond.code x code maxLocals ret :: ws) room_1) (fun a U => a = #[(.int p0), (.int p1), (.int p2), (.int p3), (.int p4), (.int p5)] ∧ Z.Warmed39 U.vm ∧ U.heap = h0 ∧ CHv Z consts_1 U.vm h0 ∧ ∀ x ∈ ([] : List Addr), Safe Z consts_1 U.vm h0 x) (fun _ _ _ _ _ => True) (fun _ U o U' => ∃ v L, o = .returned v ∧ Q_law n0 v L ∧ CHr Z consts_1 U.vm U.heap U'.vm U'.heap ∧ ReturnedEndW U o U' L 48 3264) := by
  refine own_bodyH (k := 34) (n := 174) (y := x) (Q := fun v _ L => Q_law n0 v L) (own_EW hw) (plainFor_of_name pn_JudgmentEqualsPinLaw295) (ef_law_m2 p0 p1 p2 p3 p4 p5) (by decide) (by decide) ?_
  intro p e s m below meth c s₁ hx hby hml hown hnm hret hZ e0 hS0 hk0 X0 hC0 hSF0
  have N0 := Fr.nil n0
  obtain ⟨_, T1, L1, X1, hS1, hk1, hZ1, hown1, hQ1, hC1, st1⟩ := own_Hstatic X0 hx hZ hown (w0 hw) (w1 hw) (w2 hw) (w3 hw) (by decide) (r_str l Z a0 hw [] p0 cs h0 n0 Z0 hcs S_COMPACT_STRINGS O0) e0 (W := 0) (by decide) (g := (mkF m 1 #[vi p0, vi p1, vi p2, vi p3, vi p4, vi p5, .unset, .unset, .unset, .unset, .unset, .unset, .unset, .unset] [(.int p0)])) rfl (by rw [hml]; rfl) (argsL := [(.int p0)]) (rest := []) (lenOf pd_12 rfl) rfl rfl (own_wr rfl rfl) (hb hby at_1) hS0 hk0 (own_EW hw) (CHr.refl hC0).1 sf0
  obtain ⟨s1_1, b1_1, k1_1, rfl, N1q, K1, Q1_0, Q1_1, Q1_2, Q1_3, Q1_4, Q1_5⟩ := hQ1
  have N1 := Fr.app N0 N1q
  have Ah1 := (CHr.refl hC0).trans hC1
  have f4 := (kOld K1 O0 na0)
  obtain ⟨_, T3, L3, X3, hS3, hk3, hZ3, hown3, hQ3, hC3, st3⟩ := own_Hstatic X1 hx hZ1 hown1 (w0 hw) (w1 hw) (w2 hw) (w3 hw) (by decide) (r_str l Z a0 hw [] p1 cs T1.heap n0 (Nat.le_trans Z0 K1.1) hcs S_COMPACT_STRINGS f4) rfl (W := 0) (by decide) (g := (mkF m 7 #[vi p0, vi p1, vi p2, vi p3, vi p4, vi p5, vr s1_1, .unset, .unset, .unset, .unset, .unset, .unset, .unset] [(.int p1)])) rfl (by rw [hml]; rfl) (argsL := [(.int p1)]) (rest := []) (lenOf pd_12 rfl) rfl rfl (own_wr rfl rfl) (hb hby at_7) hS1 hk1 (own_EW hw) Ah1.1 sf0
  obtain ⟨s1_3, b1_3, k1_3, rfl, N3q, K3, Q3_0, Q3_1, Q3_2, Q3_3, Q3_4, Q3_5⟩ := hQ3
  have N3 := Fr.app N1 N3q
  have Ah2 := Ah1.trans hC3
  have f7 := (kOld K3 f4 na0)
  have sz_0_2 := (Nat.le_trans K1.1 K3.1)
  obtain ⟨_, T6, L6, X6, hS6, hk6, hZ6, hown6, hQ6, hC6, st6⟩ := own_Hstatic X3 hx hZ3 hown3 (w0 hw) (w1 hw) (w2 hw) (w3 hw) (by decide) (r_str l Z a0 hw [] p2 cs T3.heap n0 (Nat.le_trans Z0 sz_0_2) hcs S_COMPACT_STRINGS f7) rfl (W := 0) (by decide) (g := (mkF m 13 #[vi p0, vi p1, vi p2, vi p3, vi p4, vi p5, vr s1_1, vr s1_3, .unset, .unset, .unset, .unset, .unset, .unset] [(.int p2)])) rfl (by rw [hml]; rfl) (argsL := [(.int p2)]) (rest := []) (lenOf pd_12 rfl) rfl rfl (own_wr rfl rfl) (hb hby at_13) hS3 hk3 (own_EW hw) Ah2.1 sf0
  obtain ⟨s1_6, b1_6, k1_6, rfl, N6q, K6, Q6_0, Q6_1, Q6_2, Q6_3, Q6_4, Q6_5⟩ := hQ6
  have N6 := Fr.app N3 N6q
  have Ah3 := Ah2.trans hC6
  have f10 := (kOld K6 f7 na0)
  have sz_0_3 := (Nat.le_trans sz_0_2 K6.1)
  obtain ⟨_, T9, L9, X9, hS9, hk9, hZ9, hown9, hQ9, hC9, st9⟩ := own_Hstatic X6 hx hZ6 hown6 (w0 hw) (w1 hw) (w2 hw) (w3 hw) (by decide) (r_str l Z a0 hw [] p3 cs T6.heap n0 (Nat.le_trans Z0 sz_0_3) hcs S_COMPACT_STRINGS f10) rfl (W := 0) (by decide) (g := (mkF m 19 #[vi p0, vi p1, vi p2, vi p3, vi p4, vi p5, vr s1_1, vr s1_3, vr s1_6, .unset, .unset, .unset, .unset, .unset] [(.int p3)])) rfl (by rw [hml]; rfl) (argsL := [(.int p3)]) (rest := []) (lenOf pd_12 rfl) rfl rfl (own_wr rfl rfl) (hb hby at_19) hS6 hk6 (own_EW hw) Ah3.1 sf0
  obtain ⟨s1_9, b1_9, k1_9, rfl, N9q, K9, Q9_0, Q9_1, Q9_2, Q9_3, Q9_4, Q9_5⟩ := hQ9
  have N9 := Fr.app N6 N9q
  have Ah4 := Ah3.trans hC9
  obtain ⟨T12, h12, X12, e12, E12, A12, D12, -, st12⟩ := newO X9 hx hZ9 hown9 (w60 hw) (w61 hw) (w62 hw) rfl (g := (mkF m 24 #[vi p0, vi p1, vi p2, vi p3, vi p4, vi p5, vr s1_1, vr s1_3, vr s1_6, vr s1_9, .unset, .unset, .unset, .unset] [])) rfl (hb hby at_24) (by decide) (by decide)
  obtain ⟨b12, g12⟩ : ∃ z, z = T9.heap.size := ⟨_, rfl⟩
  rw [← g12] at A12 D12 st12
  have ge_b12 : T9.heap.size ≤ b12 := Nat.le_of_eq g12.symm
  have K12 := KL.ofE E12
  have Ck4 := own_chK K12 na0 Ah4.1
  have Ah5 := Ah4.trans Ck4.1
  have F_b12_request : Fd2 Z h12 b12 .null := D12 (Or.inr (w74 hw)) (ty := (.object "java/lang/String")) (by decide)
  have F_b12_record : Fd3 Z h12 b12 .null := D12 (Or.inr (w77 hw)) (ty := (.object "java/lang/String")) (by decide)
  have F_b12_relevance : Fd4 Z h12 b12 z0 := D12 (Or.inr (w79 hw)) (ty := .int) (by decide)
  have f14 := (kExa K12 (kExa K9 (kExa K6 (kExa K3 Q1_2))))
  have sz_0_4 := (Nat.le_trans sz_0_3 K9.1)
  have f15 := (kExa K12 (kExa K9 Q6_2))
  have sz_0_5 := (Nat.le_trans sz_0_4 K12.1)
  obtain ⟨_, T13, L13, X13, hS13, hk13, hZ13, hown13, hQ13, hC13, st13⟩ := own_Hinit X12 hx hZ9 rfl hown9 (w63 hw) (w64 hw) (w62 hw) (w65 hw) (by decide) (r27__init_ l Z a0 hw [] b12 s1_1 s1_6 p4 h12 n0 (Nat.le_trans Z0 sz_0_5) f14 F_b12_request A12 (Nat.le_trans Z0 (Nat.le_trans sz_0_4 ge_b12)) f15 F_b12_record F_b12_relevance) e12 (W := 1) (by decide) (g := (mkF m 34 #[vi p0, vi p1, vi p2, vi p3, vi p4, vi p5, vr s1_1, vr s1_3, vr s1_6, vr s1_9, .unset, .unset, .unset, .unset] [(.int p4), (.ref s1_6), (.ref s1_1), (.ref b12), (.ref b12)])) rfl (by rw [hml]; rfl) (argsL := [(.ref s1_1), (.ref s1_6), (.int p4)]) (rest := [(.ref b12)]) (lenOf pd_14 rfl) rfl rfl (own_wr rfl rfl) (hb hby at_34) hS9 (Nat.le_trans hk9 K12.1) (own_EW hw) Ah5.1 sf0
  obtain ⟨rfl, N13q, K13, Q13_0, Q13_1, Q13_2⟩ := hQ13
  have N13 := Fr.app N9 N13q
  have Ah6 := Ah5.trans hC13
  obtain ⟨T16, h16, X16, e16, E16, A16, D16, -, st16⟩ := newO X13 hx hZ13 hown13 (w60 hw) (w61 hw) (w62 hw) rfl (g := (mkF m 39 #[vi p0, vi p1, vi p2, vi p3, vi p4, vi p5, vr s1_1, vr s1_3, vr s1_6, vr s1_9, vr b12, .unset, .unset, .unset] [])) rfl (hb hby at_39) (by decide) (by decide)
  obtain ⟨b16, g16⟩ : ∃ z, z = T13.heap.size := ⟨_, rfl⟩
  rw [← g16] at A16 D16 st16
  have ge_b16 : T13.heap.size ≤ b16 := Nat.le_of_eq g16.symm
  have K16 := KL.ofE E16
  have Ck6 := own_chK K16 na0 Ah6.1
  have Ah7 := Ah6.trans Ck6.1
  have F_b16_request : Fd2 Z h16 b16 .null := D16 (Or.inr (w74 hw)) (ty := (.object "java/lang/String")) (by decide)
  have F_b16_record : Fd3 Z h16 b16 .null := D16 (Or.inr (w77 hw)) (ty := (.object "java/lang/String")) (by decide)
  have F_b16_relevance : Fd4 Z h16 b16 z0 := D16 (Or.inr (w79 hw)) (ty := .int) (by decide)
  have f18 := (kExa K16 (kExa K13 (kExa K12 (kExa K9 (kExa K6 Q3_2)))))
  have sz_0_6 := (Nat.le_trans sz_0_5 K13.1)
  have f19 := (kExa K16 (kExa K13 (kExa K12 Q9_2)))
  have sz_0_7 := (Nat.le_trans sz_0_6 K16.1)
  obtain ⟨_, T17, L17, X17, hS17, hk17, hZ17, hown17, hQ17, hC17, st17⟩ := own_Hinit X16 hx hZ13 rfl hown13 (w63 hw) (w64 hw) (w62 hw) (w65 hw) (by decide) (r27__init_ l Z a0 hw [] b16 s1_3 s1_9 p5 h16 n0 (Nat.le_trans Z0 sz_0_7) f18 F_b16_request A16 (Nat.le_trans Z0 (Nat.le_trans sz_0_6 ge_b16)) f19 F_b16_record F_b16_relevance) e16 (W := 1) (by decide) (g := (mkF m 49 #[vi p0, vi p1, vi p2, vi p3, vi p4, vi p5, vr s1_1, vr s1_3, vr s1_6, vr s1_9, vr b12, .unset, .unset, .unset] [(.int p5), (.ref s1_9), (.ref s1_3), (.ref b16), (.ref b16)])) rfl (by rw [hml]; rfl) (argsL := [(.ref s1_3), (.ref s1_9), (.int p5)]) (rest := [(.ref b16)]) (lenOf pd_14 rfl) rfl rfl (own_wr rfl rfl) (hb hby at_49) hS13 (Nat.le_trans hk13 K16.1) (own_EW hw) Ah7.1 sf0
  obtain ⟨rfl, N17q, K17, Q17_0, Q17_1, Q17_2⟩ := hQ17
  have N17 := Fr.app N13 N17q
  have Ah8 := Ah7.trans hC17
  have f21 := (kExa K17 (kExa K16 (kExa K13 f14)))
  have sz_0_8 := (Nat.le_trans sz_0_7 K17.1)
  have f22 := (kExa K17 (kExa K16 (kExa K13 A12)))
  obtain ⟨_, T20, L20, X20, hQ20, st20⟩ := own_virtual X17 hx hZ17 hown17 (w80 hw) (w81 hw) (notFace_of_selects (args := #[]) (mvT hZ17 (w83 hw))) (w83 hw) (w82 hw) (w62 hw) (w84 hw) (by decide) (r30_equals l Z a0 hw [] b12 s1_1 T17.heap n0 (Nat.le_trans Z0 sz_0_8) f21) rfl f22 (W := 0) (by decide) (g := (mkF m 93 #[vi p0, vi p1, vi p2, vi p3, vi p4, vi p5, vr s1_1, vr s1_3, vr s1_6, vr s1_9, vr b12, vr b16, vi 2, .unset] [(.ref s1_1), (.ref b12)])) rfl (by rw [hml]; rfl) (argsL := [(.ref s1_1)]) (rest := []) (lenOf pd_15 rfl) rfl rfl (own_wr rfl rfl) (hb hby at_93)
  obtain ⟨rfl, N20q, e20⟩ := hQ20
  have N20 := Fr.app N17 N20q
  refine ⟨T20, _, some (.int 1), _, _, X20, hS17, (by rw [e20]; exact hk17), (fun h => by cases h <;> rfl), ?_, (by rw [e20]; exact Ah8), hZ17, fun fs hr => ?_⟩
  · show Q_law n0 _ _
    exact ⟨rfl, N20⟩
  · refine t_iloadN 1 X0.here hx (hb hby at_0) rfl rfl ?_
    refine st1 _ ?_
    refine t_astore (pc' := 6) (L' := #[vi p0, vi p1, vi p2, vi p3, vi p4, vi p5, vr s1_1, .unset, .unset, .unset, .unset, .unset, .unset, .unset]) X1.here hx (hb hby at_4) rfl rfl rfl ?_
    refine t_iloadN 7 X1.here hx (hb hby at_6) rfl rfl ?_
    refine st3 _ ?_
    refine t_astore (pc' := 12) (L' := #[vi p0, vi p1, vi p2, vi p3, vi p4, vi p5, vr s1_1, vr s1_3, .unset, .unset, .unset, .unset, .unset, .unset]) X3.here hx (hb hby at_10) rfl rfl rfl ?_
    refine t_iloadN 13 X3.here hx (hb hby at_12) rfl rfl ?_
    refine st6 _ ?_
    refine t_astore (pc' := 18) (L' := #[vi p0, vi p1, vi p2, vi p3, vi p4, vi p5, vr s1_1, vr s1_3, vr s1_6, .unset, .unset, .unset, .unset, .unset]) X6.here hx (hb hby at_16) rfl rfl rfl ?_
    refine t_iloadN 19 X6.here hx (hb hby at_18) rfl rfl ?_
    refine st9 _ ?_
    refine t_astore (pc' := 24) (L' := #[vi p0, vi p1, vi p2, vi p3, vi p4, vi p5, vr s1_1, vr s1_3, vr s1_6, vr s1_9, .unset, .unset, .unset, .unset]) X9.here hx (hb hby at_22) rfl rfl rfl ?_
    refine st12 _ ?_
    refine t_dup 28 X12.here hx (hb hby at_27) rfl rfl ?_
    refine t_aload 30 X12.here hx (hb hby at_28) rfl rfl rfl ?_
    refine t_aload 32 X12.here hx (hb hby at_30) rfl rfl rfl ?_
    refine t_iload 34 X12.here hx (hb hby at_32) rfl rfl ?_
    refine st13 _ ?_
    refine t_astore (pc' := 39) (L' := #[vi p0, vi p1, vi p2, vi p3, vi p4, vi p5, vr s1_1, vr s1_3, vr s1_6, vr s1_9, vr b12, .unset, .unset, .unset]) X13.here hx (hb hby at_37) rfl rfl rfl ?_
    refine st16 _ ?_
    refine t_dup 43 X16.here hx (hb hby at_42) rfl rfl ?_
    refine t_aload 45 X16.here hx (hb hby at_43) rfl rfl rfl ?_
    refine t_aload 47 X16.here hx (hb hby at_45) rfl rfl rfl ?_
    refine t_iload 49 X16.here hx (hb hby at_47) rfl rfl ?_
    refine st17 _ ?_
    refine t_astore (pc' := 54) (L' := #[vi p0, vi p1, vi p2, vi p3, vi p4, vi p5, vr s1_1, vr s1_3, vr s1_6, vr s1_9, vr b12, vr b16, .unset, .unset]) X17.here hx (hb hby at_52) rfl rfl rfl ?_
    refine t_iloadN 55 X17.here hx (hb hby at_54) rfl rfl ?_
    refine t_bipush 57 (r := 28) X17.here hx (hb hby at_55) (by decide) rfl ?_
    refine t_iushr 58 (r := (own_u28 p0)) X17.here hx (hb hby at_57) (Eq.refl (own_u28 p0)) rfl ?_
    refine t_iconst 59 (r := 3) X17.here hx (hb hby at_58) (by decide) rfl ?_
    refine t_iand 60 (r := 2) X17.here hx (hb hby at_59) hm rfl ?_
    refine t_istore (pc' := 62) (L' := #[vi p0, vi p1, vi p2, vi p3, vi p4, vi p5, vr s1_1, vr s1_3, vr s1_6, vr s1_9, vr b12, vr b16, vi 2, .unset]) X17.here hx (hb hby at_60) rfl rfl ?_
    refine t_iload 64 X17.here hx (hb hby at_62) rfl rfl ?_
    refine t_iconst 65 (r := 1) X17.here hx (hb hby at_64) (by decide) rfl ?_
    refine t_icmpYes (pc := 65) 83 X17.here hx (hb hby at_65) (by decide) (by decide) (by decide) ?_
    refine t_iload 85 X17.here hx (hb hby at_83) rfl rfl ?_
    refine t_iconst 86 (r := 2) X17.here hx (hb hby at_85) (by decide) rfl ?_
    refine t_icmpNo 89 X17.here hx (hb hby at_86) (by decide) rfl ?_
    refine t_aload 91 X17.here hx (hb hby at_89) rfl rfl rfl ?_
    refine t_aload 93 X17.here hx (hb hby at_91) rfl rfl rfl ?_
    refine st20 _ ?_
    refine t_ifNo 99 X20.here hx (hb hby at_96) (by decide) rfl ?_
    refine t_iconst 100 (r := 1) X20.here hx (hb hby at_99) (by decide) rfl ?_
    refine t_goto (pc := 100) 104 X20.here hx (hb hby at_100) (by decide) (by decide) ?_
    exact retN X20 hx (t := .boolean) hret (by simp) (hb hby at_104) hr
theorem d284 : decode b18_ 7 = .ok (.aload_n 1, 1) := by decide +kernel
theorem d285 : decode b18_ 8 = .ok (.checkcast 18, 3) := by decide +kernel
theorem d286 : decode b18_ 11 = .ok (.astore_n 2, 1) := by decide +kernel
theorem d287 : decode b18_ 12 = .ok (.goto 5, 3) := by decide +kernel
theorem d288 : decode b18_ 17 = .ok (.aload_n 0, 1) := by decide +kernel
theorem d289 : decode b18_ 18 = .ok (.getfield 26, 3) := by decide +kernel
theorem d290 : decode b18_ 21 = .ok (.aload_n 2, 1) := by decide +kernel
theorem d291 : decode b18_ 22 = .ok (.getfield 26, 3) := by decide +kernel
theorem d292 : decode b18_ 25 = .ok (.if_icmp .ne 35, 3) := by decide +kernel
theorem d293 : decode b18_ 28 = .ok (.aload_n 0, 1) := by decide +kernel
theorem d294 : decode b18_ 29 = .ok (.getfield 17, 3) := by decide +kernel
theorem d295 : decode b18_ 32 = .ok (.aload_n 2, 1) := by decide +kernel
theorem d296 : decode b18_ 33 = .ok (.getfield 17, 3) := by decide +kernel
theorem d297 : decode b18_ 36 = .ok (.invokevirtual 64, 3) := by decide +kernel
def w87 (hw : HW Z a0) := ow 87 hw rfl
def w90 (hw : HW Z a0) := ow 90 hw rfl
theorem d298 : decode b14_ 5 = .ok (.iconst 1, 1) := by decide +kernel
theorem d299 : decode b14_ 6 = .ok (.ireturn, 1) := by decide +kernel
def Q_r32_equals (Z : State) (o0 : Addr) (h0 : Heap) (n0 : Nat) (v : Option Value) (h : Heap) (L : List Loc) : Prop := v = some (.int 1) ∧ Fr n0 L ∧ h = h0
theorem ef_r32_equals (o0 : Addr) (m : MethodId) : entryFrame m #[(.ref o0), (.ref o0)] 3 = mkF m 0 #[.val (.ref o0), .val (.ref o0), .unset] [] := by first | (simp [entryFrame, mkF, argsToLocals, Value.category]; done) | rfl
set_option maxRecDepth 65536 in
set_option maxHeartbeats 40000000 in
theorem r32_equals (l : Launch) (Z : State) (a0 : Array Value) (hw : HW Z a0) (ws : List Jvm.Cond) (o0 : Addr) (h0 : Heap) (n0 : Nat) (Z0 : n0 ≤ h0.size) :
    MF l Z y15_equals b14_ 3 (some .boolean) ws ⟨0, 0, 0, 0⟩ #[(.ref o0), (.ref o0)] h0 (Q_r32_equals Z o0 h0 n0) := by
  refine own_body (plainFor_of_name pn_String564) (ef_r32_equals o0) (by decide) (by decide) ?_
  intro p e s m below meth c s₁ hx hby hml hown hnm hret hZ hh e0 X0
  have N0 := Fr.nil n0
  refine ⟨s₁, _, some (.int 1), X0, (fun h => by cases h <;> rfl), ?_, fun fs hr => ?_⟩
  · show Q_r32_equals Z o0 h0 n0 _ s₁.heap _
    rw [e0]
    exact ⟨rfl, N0, rfl⟩
  · refine t_aloadN 1 X0.here hx (hb hby d205) rfl rfl rfl ?_
    refine t_aloadN 2 X0.here hx (hb hby d206) rfl rfl rfl ?_
    refine Jvm.RoadKit.acmp (g := (mkF m 2 #[vr o0, vr o0, .unset] [(.ref o0), (.ref o0)])) X0 hx rfl rfl rfl (pc0 := 2) (pc' := 5) (same := true) rfl (hb hby d207) rfl (decide_eq_true rfl) (by decide) (by decide) ?_
    refine t_iconst 6 (r := 1) X0.here hx (hb hby d298) (by decide) rfl ?_
    exact retN X0 hx (t := .boolean) hret (by simp) (hb hby d299) hr
def w91 (hw : HW Z a0) := ow 91 hw rfl
def w88 (hw : HW Z a0) := ow 88 hw rfl
def w89 (hw : HW Z a0) := ow 89 hw rfl
theorem d300 : decode b18_ 39 = .ok (.ifCond .eq 21, 3) := by decide +kernel
theorem d301 : decode b18_ 42 = .ok (.aload_n 0, 1) := by decide +kernel
theorem d302 : decode b18_ 43 = .ok (.getfield 24, 3) := by decide +kernel
theorem d303 : decode b18_ 46 = .ok (.aload_n 2, 1) := by decide +kernel
theorem d304 : decode b18_ 47 = .ok (.getfield 24, 3) := by decide +kernel
theorem d305 : decode b18_ 50 = .ok (.invokevirtual 64, 3) := by decide +kernel
theorem d306 : decode b18_ 53 = .ok (.ifCond .eq 7, 3) := by decide +kernel
theorem d307 : decode b18_ 56 = .ok (.iconst 1, 1) := by decide +kernel
theorem d308 : decode b18_ 57 = .ok (.goto 4, 3) := by decide +kernel
theorem d309 : decode b18_ 61 = .ok (.ireturn, 1) := by decide +kernel
def Q_r31_equals (Z : State) (o0 : Addr) (i_3 : Int32) (o_6 o_10 : Addr) (h0 : Heap) (n0 : Nat) (v : Option Value) (h : Heap) (L : List Loc) : Prop := v = some (.int 1) ∧ Fr n0 L ∧ h = h0
theorem ef_r31_equals (o0 : Addr) (m : MethodId) : entryFrame m #[(.ref o0), (.ref o0)] 3 = mkF m 0 #[.val (.ref o0), .val (.ref o0), .unset] [] := by first | (simp [entryFrame, mkF, argsToLocals, Value.category]; done) | rfl
set_option maxRecDepth 65536 in
set_option maxHeartbeats 40000000 in
theorem r31_equals (l : Launch) (Z : State) (a0 : Array Value) (hw : HW Z a0) (ws : List Jvm.Cond) (o0 : Addr) (i_3 : Int32) (o_6 o_10 : Addr) (h0 : Heap) (n0 : Nat) (Z0 : n0 ≤ h0.size) (E_o0 : Ex1 Z h0 o0) (F_o0_relevance : Fd4 Z h0 o0 (.int i_3)) (F_o0_request : Fd2 Z h0 o0 (.ref o_6)) (E_o_6 : Ex0 Z h0 o_6) (F_o0_record : Fd3 Z h0 o0 (.ref o_10)) (E_o_10 : Ex0 Z h0 o_10) :
    MF l Z y18_equals b18_ 3 (some .boolean) ws ⟨1, 0, 0, 14⟩ #[(.ref o0), (.ref o0)] h0 (Q_r31_equals Z o0 i_3 o_6 o_10 h0 n0) := by
  refine own_body (plainFor_of_name pn_Judgment86) (ef_r31_equals o0) (by decide) (by decide) ?_
  intro p e s m below meth c s₁ hx hby hml hown hnm hret hZ hh e0 X0
  have N0 := Fr.nil n0
  obtain ⟨T1, X1, e1, st1⟩ := instY X0 hx hZ hown (w85 hw) e0 (Ins.self E_o0) (g := (mkF m 1 #[vr o0, vr o0, .unset] [(.ref o0)])) rfl rfl (hb hby d280)
  obtain ⟨T2, X2, e2, st2⟩ := castY X1 hx hZ hown (w85 hw) e1 (Ins.self E_o0) (g := (mkF m 8 #[vr o0, vr o0, .unset] [(.ref o0)])) rfl rfl (hb hby d285)
  obtain ⟨T4, X4, e4, st4⟩ := getF X2 hx hZ hown (host := "") (Or.inl (w78 hw)) Via.refl e2 F_o0_relevance (g := (mkF m 18 #[vr o0, vr o0, vr o0] [(.ref o0)])) rfl rfl (hb hby d289)
  obtain ⟨T5, X5, e5, st5⟩ := getF X4 hx hZ hown (host := "") (Or.inl (w78 hw)) Via.refl e4 F_o0_relevance (g := (mkF m 22 #[vr o0, vr o0, vr o0] [(.ref o0), (.int i_3)])) rfl rfl (hb hby d291)
  obtain ⟨T7, X7, e7, st7⟩ := getF X5 hx hZ hown (host := "") (Or.inl (w73 hw)) Via.refl e5 F_o0_request (g := (mkF m 29 #[vr o0, vr o0, vr o0] [(.ref o0)])) rfl rfl (hb hby d294)
  obtain ⟨T8, X8, e8, st8⟩ := getF X7 hx hZ hown (host := "") (Or.inl (w73 hw)) Via.refl e7 F_o0_request (g := (mkF m 33 #[vr o0, vr o0, vr o0] [(.ref o0), (.ref o_6)])) rfl rfl (hb hby d296)
  obtain ⟨_, T9, L9, X9, hQ9, st9⟩ := own_virtual X8 hx hZ hown (w87 hw) (w88 hw) (notFace_of_selects (args := #[]) (mvT hZ (w90 hw))) (w90 hw) (w89 hw) (w9 hw) (w91 hw) (by decide) (r32_equals l Z a0 hw [] o_6 h0 n0 Z0) e8 E_o_6 (W := 0) (by decide) (g := (mkF m 36 #[vr o0, vr o0, vr o0] [(.ref o_6), (.ref o_6)])) rfl (by rw [hml]; rfl) (argsL := [(.ref o_6)]) (rest := []) (lenOf pd_15 rfl) rfl rfl (own_wr rfl rfl) (hb hby d297)
  obtain ⟨rfl, N9q, e9⟩ := hQ9
  have N9 := Fr.app N0 N9q
  obtain ⟨T11, X11, e11, st11⟩ := getF X9 hx hZ hown (host := "") (Or.inl (w76 hw)) Via.refl e9 F_o0_record (g := (mkF m 43 #[vr o0, vr o0, vr o0] [(.ref o0)])) rfl rfl (hb hby d302)
  obtain ⟨T12, X12, e12, st12⟩ := getF X11 hx hZ hown (host := "") (Or.inl (w76 hw)) Via.refl e11 F_o0_record (g := (mkF m 47 #[vr o0, vr o0, vr o0] [(.ref o0), (.ref o_10)])) rfl rfl (hb hby d304)
  obtain ⟨_, T13, L13, X13, hQ13, st13⟩ := own_virtual X12 hx hZ hown (w87 hw) (w88 hw) (notFace_of_selects (args := #[]) (mvT hZ (w90 hw))) (w90 hw) (w89 hw) (w9 hw) (w91 hw) (by decide) (r32_equals l Z a0 hw [] o_10 h0 n0 Z0) e12 E_o_10 (W := 0) (by decide) (g := (mkF m 50 #[vr o0, vr o0, vr o0] [(.ref o_10), (.ref o_10)])) rfl (by rw [hml]; rfl) (argsL := [(.ref o_10)]) (rest := []) (lenOf pd_15 rfl) rfl rfl (own_wr rfl rfl) (hb hby d305)
  obtain ⟨rfl, N13q, e13⟩ := hQ13
  have N13 := Fr.app N9 N13q
  refine ⟨T13, _, some (.int 1), X13, (fun h => by cases h <;> rfl), ?_, fun fs hr => ?_⟩
  · show Q_r31_equals Z o0 i_3 o_6 o_10 h0 n0 _ T13.heap _
    rw [e13]
    exact ⟨rfl, N13, rfl⟩
  · refine t_aloadN 1 X0.here hx (hb hby d279) rfl rfl rfl ?_
    refine st1 _ ?_
    refine t_ifNo 7 X1.here hx (hb hby d281) (by decide) rfl ?_
    refine t_aloadN 8 X1.here hx (hb hby d284) rfl rfl rfl ?_
    refine st2 _ ?_
    refine t_astoreN (pc' := 12) (L' := #[vr o0, vr o0, vr o0]) X2.here hx (hb hby d286) rfl rfl rfl ?_
    refine t_goto (pc := 12) 17 X2.here hx (hb hby d287) (by decide) (by decide) ?_
    refine t_aloadN 18 X2.here hx (hb hby d288) rfl rfl rfl ?_
    refine st4 _ ?_
    refine t_aloadN 22 X4.here hx (hb hby d290) rfl rfl rfl ?_
    refine st5 _ ?_
    refine t_icmpNo 28 X5.here hx (hb hby d292) (teq (rfl : i_3 = i_3)).2 rfl ?_
    refine t_aloadN 29 X5.here hx (hb hby d293) rfl rfl rfl ?_
    refine st7 _ ?_
    refine t_aloadN 33 X7.here hx (hb hby d295) rfl rfl rfl ?_
    refine st8 _ ?_
    refine st9 _ ?_
    refine t_ifNo 42 X9.here hx (hb hby d300) (by decide) rfl ?_
    refine t_aloadN 43 X9.here hx (hb hby d301) rfl rfl rfl ?_
    refine st11 _ ?_
    refine t_aloadN 47 X11.here hx (hb hby d303) rfl rfl rfl ?_
    refine st12 _ ?_
    refine st13 _ ?_
    refine t_ifNo 56 X13.here hx (hb hby d306) (by decide) rfl ?_
    refine t_iconst 57 (r := 1) X13.here hx (hb hby d307) (by decide) rfl ?_
    refine t_goto (pc := 57) 61 X13.here hx (hb hby d308) (by decide) (by decide) ?_
    exact retN X13 hx (t := .boolean) hret (by simp) (hb hby d309) hr
theorem ef_law_m3 (p0 p1 p2 p3 p4 p5 : Int32) (m : MethodId) : entryFrame m #[(.int p0), (.int p1), (.int p2), (.int p3), (.int p4), (.int p5)] maxLocals = mkF m 0 #[.val (.int p0), .val (.int p1), .val (.int p2), .val (.int p3), .val (.int p4), .val (.int p5), .unset, .unset, .unset, .unset, .unset, .unset, .unset, .unset] [] := by first | (simp [entryFrame, mkF, argsToLocals, Value.category, maxLocals]; done) | rfl
set_option maxRecDepth 65536 in
set_option maxHeartbeats 40000000 in
theorem law_m3 (l : Launch) (Z : State) (a0 : Array Value) (hw : HW Z a0) (ws : List Jvm.Cond) (p0 p1 p2 p3 p4 p5 cs : Int32) (h0 : Heap) (n0 : Nat) (Z0 : n0 ≤ h0.size) (hcs : ¬ (cs = (0 : Int32))) (hm : ((own_u28 p0) &&& (3 : Int32)) = (3 : Int32)) (S_COMPACT_STRINGS : SCS Z cs) (O0 : Old Z n0 h0) :
    MetFree l x (head1 (Jvm.Cond.code x code maxLocals ret :: ws) room_1) (fun a U => a = #[(.int p0), (.int p1), (.int p2), (.int p3), (.int p4), (.int p5)] ∧ Z.Warmed39 U.vm ∧ U.heap = h0 ∧ CHv Z consts_1 U.vm h0 ∧ ∀ x ∈ ([] : List Addr), Safe Z consts_1 U.vm h0 x) (fun _ _ _ _ _ => True) (fun _ U o U' => ∃ v L, o = .returned v ∧ Q_law n0 v L ∧ CHr Z consts_1 U.vm U.heap U'.vm U'.heap ∧ ReturnedEndW U o U' L 48 3264) := by
  refine own_bodyH (k := 34) (n := 174) (y := x) (Q := fun v _ L => Q_law n0 v L) (own_EW hw) (plainFor_of_name pn_JudgmentEqualsPinLaw295) (ef_law_m3 p0 p1 p2 p3 p4 p5) (by decide) (by decide) ?_
  intro p e s m below meth c s₁ hx hby hml hown hnm hret hZ e0 hS0 hk0 X0 hC0 hSF0
  have N0 := Fr.nil n0
  obtain ⟨_, T1, L1, X1, hS1, hk1, hZ1, hown1, hQ1, hC1, st1⟩ := own_Hstatic X0 hx hZ hown (w0 hw) (w1 hw) (w2 hw) (w3 hw) (by decide) (r_str l Z a0 hw [] p0 cs h0 n0 Z0 hcs S_COMPACT_STRINGS O0) e0 (W := 0) (by decide) (g := (mkF m 1 #[vi p0, vi p1, vi p2, vi p3, vi p4, vi p5, .unset, .unset, .unset, .unset, .unset, .unset, .unset, .unset] [(.int p0)])) rfl (by rw [hml]; rfl) (argsL := [(.int p0)]) (rest := []) (lenOf pd_12 rfl) rfl rfl (own_wr rfl rfl) (hb hby at_1) hS0 hk0 (own_EW hw) (CHr.refl hC0).1 sf0
  obtain ⟨s1_1, b1_1, k1_1, rfl, N1q, K1, Q1_0, Q1_1, Q1_2, Q1_3, Q1_4, Q1_5⟩ := hQ1
  have N1 := Fr.app N0 N1q
  have Ah1 := (CHr.refl hC0).trans hC1
  have f4 := (kOld K1 O0 na0)
  obtain ⟨_, T3, L3, X3, hS3, hk3, hZ3, hown3, hQ3, hC3, st3⟩ := own_Hstatic X1 hx hZ1 hown1 (w0 hw) (w1 hw) (w2 hw) (w3 hw) (by decide) (r_str l Z a0 hw [] p1 cs T1.heap n0 (Nat.le_trans Z0 K1.1) hcs S_COMPACT_STRINGS f4) rfl (W := 0) (by decide) (g := (mkF m 7 #[vi p0, vi p1, vi p2, vi p3, vi p4, vi p5, vr s1_1, .unset, .unset, .unset, .unset, .unset, .unset, .unset] [(.int p1)])) rfl (by rw [hml]; rfl) (argsL := [(.int p1)]) (rest := []) (lenOf pd_12 rfl) rfl rfl (own_wr rfl rfl) (hb hby at_7) hS1 hk1 (own_EW hw) Ah1.1 sf0
  obtain ⟨s1_3, b1_3, k1_3, rfl, N3q, K3, Q3_0, Q3_1, Q3_2, Q3_3, Q3_4, Q3_5⟩ := hQ3
  have N3 := Fr.app N1 N3q
  have Ah2 := Ah1.trans hC3
  have f7 := (kOld K3 f4 na0)
  have sz_0_2 := (Nat.le_trans K1.1 K3.1)
  obtain ⟨_, T6, L6, X6, hS6, hk6, hZ6, hown6, hQ6, hC6, st6⟩ := own_Hstatic X3 hx hZ3 hown3 (w0 hw) (w1 hw) (w2 hw) (w3 hw) (by decide) (r_str l Z a0 hw [] p2 cs T3.heap n0 (Nat.le_trans Z0 sz_0_2) hcs S_COMPACT_STRINGS f7) rfl (W := 0) (by decide) (g := (mkF m 13 #[vi p0, vi p1, vi p2, vi p3, vi p4, vi p5, vr s1_1, vr s1_3, .unset, .unset, .unset, .unset, .unset, .unset] [(.int p2)])) rfl (by rw [hml]; rfl) (argsL := [(.int p2)]) (rest := []) (lenOf pd_12 rfl) rfl rfl (own_wr rfl rfl) (hb hby at_13) hS3 hk3 (own_EW hw) Ah2.1 sf0
  obtain ⟨s1_6, b1_6, k1_6, rfl, N6q, K6, Q6_0, Q6_1, Q6_2, Q6_3, Q6_4, Q6_5⟩ := hQ6
  have N6 := Fr.app N3 N6q
  have Ah3 := Ah2.trans hC6
  have f10 := (kOld K6 f7 na0)
  have sz_0_3 := (Nat.le_trans sz_0_2 K6.1)
  obtain ⟨_, T9, L9, X9, hS9, hk9, hZ9, hown9, hQ9, hC9, st9⟩ := own_Hstatic X6 hx hZ6 hown6 (w0 hw) (w1 hw) (w2 hw) (w3 hw) (by decide) (r_str l Z a0 hw [] p3 cs T6.heap n0 (Nat.le_trans Z0 sz_0_3) hcs S_COMPACT_STRINGS f10) rfl (W := 0) (by decide) (g := (mkF m 19 #[vi p0, vi p1, vi p2, vi p3, vi p4, vi p5, vr s1_1, vr s1_3, vr s1_6, .unset, .unset, .unset, .unset, .unset] [(.int p3)])) rfl (by rw [hml]; rfl) (argsL := [(.int p3)]) (rest := []) (lenOf pd_12 rfl) rfl rfl (own_wr rfl rfl) (hb hby at_19) hS6 hk6 (own_EW hw) Ah3.1 sf0
  obtain ⟨s1_9, b1_9, k1_9, rfl, N9q, K9, Q9_0, Q9_1, Q9_2, Q9_3, Q9_4, Q9_5⟩ := hQ9
  have N9 := Fr.app N6 N9q
  have Ah4 := Ah3.trans hC9
  obtain ⟨T12, h12, X12, e12, E12, A12, D12, -, st12⟩ := newO X9 hx hZ9 hown9 (w60 hw) (w61 hw) (w62 hw) rfl (g := (mkF m 24 #[vi p0, vi p1, vi p2, vi p3, vi p4, vi p5, vr s1_1, vr s1_3, vr s1_6, vr s1_9, .unset, .unset, .unset, .unset] [])) rfl (hb hby at_24) (by decide) (by decide)
  obtain ⟨b12, g12⟩ : ∃ z, z = T9.heap.size := ⟨_, rfl⟩
  rw [← g12] at A12 D12 st12
  have ge_b12 : T9.heap.size ≤ b12 := Nat.le_of_eq g12.symm
  have K12 := KL.ofE E12
  have Ck4 := own_chK K12 na0 Ah4.1
  have Ah5 := Ah4.trans Ck4.1
  have F_b12_request : Fd2 Z h12 b12 .null := D12 (Or.inr (w74 hw)) (ty := (.object "java/lang/String")) (by decide)
  have F_b12_record : Fd3 Z h12 b12 .null := D12 (Or.inr (w77 hw)) (ty := (.object "java/lang/String")) (by decide)
  have F_b12_relevance : Fd4 Z h12 b12 z0 := D12 (Or.inr (w79 hw)) (ty := .int) (by decide)
  have f14 := (kExa K12 (kExa K9 (kExa K6 (kExa K3 Q1_2))))
  have sz_0_4 := (Nat.le_trans sz_0_3 K9.1)
  have f15 := (kExa K12 (kExa K9 Q6_2))
  have sz_0_5 := (Nat.le_trans sz_0_4 K12.1)
  obtain ⟨_, T13, L13, X13, hS13, hk13, hZ13, hown13, hQ13, hC13, st13⟩ := own_Hinit X12 hx hZ9 rfl hown9 (w63 hw) (w64 hw) (w62 hw) (w65 hw) (by decide) (r27__init_ l Z a0 hw [] b12 s1_1 s1_6 p4 h12 n0 (Nat.le_trans Z0 sz_0_5) f14 F_b12_request A12 (Nat.le_trans Z0 (Nat.le_trans sz_0_4 ge_b12)) f15 F_b12_record F_b12_relevance) e12 (W := 1) (by decide) (g := (mkF m 34 #[vi p0, vi p1, vi p2, vi p3, vi p4, vi p5, vr s1_1, vr s1_3, vr s1_6, vr s1_9, .unset, .unset, .unset, .unset] [(.int p4), (.ref s1_6), (.ref s1_1), (.ref b12), (.ref b12)])) rfl (by rw [hml]; rfl) (argsL := [(.ref s1_1), (.ref s1_6), (.int p4)]) (rest := [(.ref b12)]) (lenOf pd_14 rfl) rfl rfl (own_wr rfl rfl) (hb hby at_34) hS9 (Nat.le_trans hk9 K12.1) (own_EW hw) Ah5.1 sf0
  obtain ⟨rfl, N13q, K13, Q13_0, Q13_1, Q13_2⟩ := hQ13
  have N13 := Fr.app N9 N13q
  have Ah6 := Ah5.trans hC13
  obtain ⟨T16, h16, X16, e16, E16, A16, D16, -, st16⟩ := newO X13 hx hZ13 hown13 (w60 hw) (w61 hw) (w62 hw) rfl (g := (mkF m 39 #[vi p0, vi p1, vi p2, vi p3, vi p4, vi p5, vr s1_1, vr s1_3, vr s1_6, vr s1_9, vr b12, .unset, .unset, .unset] [])) rfl (hb hby at_39) (by decide) (by decide)
  obtain ⟨b16, g16⟩ : ∃ z, z = T13.heap.size := ⟨_, rfl⟩
  rw [← g16] at A16 D16 st16
  have ge_b16 : T13.heap.size ≤ b16 := Nat.le_of_eq g16.symm
  have K16 := KL.ofE E16
  have Ck6 := own_chK K16 na0 Ah6.1
  have Ah7 := Ah6.trans Ck6.1
  have F_b16_request : Fd2 Z h16 b16 .null := D16 (Or.inr (w74 hw)) (ty := (.object "java/lang/String")) (by decide)
  have F_b16_record : Fd3 Z h16 b16 .null := D16 (Or.inr (w77 hw)) (ty := (.object "java/lang/String")) (by decide)
  have F_b16_relevance : Fd4 Z h16 b16 z0 := D16 (Or.inr (w79 hw)) (ty := .int) (by decide)
  have f18 := (kExa K16 (kExa K13 (kExa K12 (kExa K9 (kExa K6 Q3_2)))))
  have sz_0_6 := (Nat.le_trans sz_0_5 K13.1)
  have f19 := (kExa K16 (kExa K13 (kExa K12 Q9_2)))
  have sz_0_7 := (Nat.le_trans sz_0_6 K16.1)
  obtain ⟨_, T17, L17, X17, hS17, hk17, hZ17, hown17, hQ17, hC17, st17⟩ := own_Hinit X16 hx hZ13 rfl hown13 (w63 hw) (w64 hw) (w62 hw) (w65 hw) (by decide) (r27__init_ l Z a0 hw [] b16 s1_3 s1_9 p5 h16 n0 (Nat.le_trans Z0 sz_0_7) f18 F_b16_request A16 (Nat.le_trans Z0 (Nat.le_trans sz_0_6 ge_b16)) f19 F_b16_record F_b16_relevance) e16 (W := 1) (by decide) (g := (mkF m 49 #[vi p0, vi p1, vi p2, vi p3, vi p4, vi p5, vr s1_1, vr s1_3, vr s1_6, vr s1_9, vr b12, .unset, .unset, .unset] [(.int p5), (.ref s1_9), (.ref s1_3), (.ref b16), (.ref b16)])) rfl (by rw [hml]; rfl) (argsL := [(.ref s1_3), (.ref s1_9), (.int p5)]) (rest := [(.ref b16)]) (lenOf pd_14 rfl) rfl rfl (own_wr rfl rfl) (hb hby at_49) hS13 (Nat.le_trans hk13 K16.1) (own_EW hw) Ah7.1 sf0
  obtain ⟨rfl, N17q, K17, Q17_0, Q17_1, Q17_2⟩ := hQ17
  have N17 := Fr.app N13 N17q
  have Ah8 := Ah7.trans hC17
  have f21 := (kExa K17 (kExa K16 (kExa K13 A12)))
  have lt_b12 : b12 < h12.size := Exa.lt A12
  have f22 := (kFld K17 (kFld K16 Q13_2 nw0) (nwM 3 rfl (lt_ne (Nat.lt_of_lt_of_le lt_b12 K13.1) ge_b16) nw0))
  have f23 := (kFld K17 (kFld K16 Q13_0 nw0) (nwM 3 rfl (lt_ne (Nat.lt_of_lt_of_le lt_b12 K13.1) ge_b16) nw0))
  have f24 := (kExa K17 (kExa K16 (kExa K13 f14)))
  have f25 := (kFld K17 (kFld K16 Q13_1 nw0) (nwM 3 rfl (lt_ne (Nat.lt_of_lt_of_le lt_b12 K13.1) ge_b16) nw0))
  have f26 := (kExa K17 (kExa K16 (kExa K13 f15)))
  have sz_0_8 := (Nat.le_trans sz_0_7 K17.1)
  obtain ⟨_, T20, L20, X20, hQ20, st20⟩ := own_virtual X17 hx hZ17 hown17 (w80 hw) (w81 hw) (notFace_of_selects (args := #[]) (mvT hZ17 (w83 hw))) (w83 hw) (w82 hw) (w62 hw) (w84 hw) (by decide) (r31_equals l Z a0 hw [] b12 p4 s1_1 s1_6 T17.heap n0 (Nat.le_trans Z0 sz_0_8) f21 f22 f23 f24 f25 f26) rfl f21 (W := 0) (by decide) (g := (mkF m 115 #[vi p0, vi p1, vi p2, vi p3, vi p4, vi p5, vr s1_1, vr s1_3, vr s1_6, vr s1_9, vr b12, vr b16, vi 3, .unset] [(.ref b12), (.ref b12)])) rfl (by rw [hml]; rfl) (argsL := [(.ref b12)]) (rest := []) (lenOf pd_15 rfl) rfl rfl (own_wr rfl rfl) (hb hby at_115)
  obtain ⟨rfl, N20q, e20⟩ := hQ20
  have N20 := Fr.app N17 N20q
  refine ⟨T20, _, some (.int 1), _, _, X20, hS17, (by rw [e20]; exact hk17), (fun h => by cases h <;> rfl), ?_, (by rw [e20]; exact Ah8), hZ17, fun fs hr => ?_⟩
  · show Q_law n0 _ _
    exact ⟨rfl, N20⟩
  · refine t_iloadN 1 X0.here hx (hb hby at_0) rfl rfl ?_
    refine st1 _ ?_
    refine t_astore (pc' := 6) (L' := #[vi p0, vi p1, vi p2, vi p3, vi p4, vi p5, vr s1_1, .unset, .unset, .unset, .unset, .unset, .unset, .unset]) X1.here hx (hb hby at_4) rfl rfl rfl ?_
    refine t_iloadN 7 X1.here hx (hb hby at_6) rfl rfl ?_
    refine st3 _ ?_
    refine t_astore (pc' := 12) (L' := #[vi p0, vi p1, vi p2, vi p3, vi p4, vi p5, vr s1_1, vr s1_3, .unset, .unset, .unset, .unset, .unset, .unset]) X3.here hx (hb hby at_10) rfl rfl rfl ?_
    refine t_iloadN 13 X3.here hx (hb hby at_12) rfl rfl ?_
    refine st6 _ ?_
    refine t_astore (pc' := 18) (L' := #[vi p0, vi p1, vi p2, vi p3, vi p4, vi p5, vr s1_1, vr s1_3, vr s1_6, .unset, .unset, .unset, .unset, .unset]) X6.here hx (hb hby at_16) rfl rfl rfl ?_
    refine t_iloadN 19 X6.here hx (hb hby at_18) rfl rfl ?_
    refine st9 _ ?_
    refine t_astore (pc' := 24) (L' := #[vi p0, vi p1, vi p2, vi p3, vi p4, vi p5, vr s1_1, vr s1_3, vr s1_6, vr s1_9, .unset, .unset, .unset, .unset]) X9.here hx (hb hby at_22) rfl rfl rfl ?_
    refine st12 _ ?_
    refine t_dup 28 X12.here hx (hb hby at_27) rfl rfl ?_
    refine t_aload 30 X12.here hx (hb hby at_28) rfl rfl rfl ?_
    refine t_aload 32 X12.here hx (hb hby at_30) rfl rfl rfl ?_
    refine t_iload 34 X12.here hx (hb hby at_32) rfl rfl ?_
    refine st13 _ ?_
    refine t_astore (pc' := 39) (L' := #[vi p0, vi p1, vi p2, vi p3, vi p4, vi p5, vr s1_1, vr s1_3, vr s1_6, vr s1_9, vr b12, .unset, .unset, .unset]) X13.here hx (hb hby at_37) rfl rfl rfl ?_
    refine st16 _ ?_
    refine t_dup 43 X16.here hx (hb hby at_42) rfl rfl ?_
    refine t_aload 45 X16.here hx (hb hby at_43) rfl rfl rfl ?_
    refine t_aload 47 X16.here hx (hb hby at_45) rfl rfl rfl ?_
    refine t_iload 49 X16.here hx (hb hby at_47) rfl rfl ?_
    refine st17 _ ?_
    refine t_astore (pc' := 54) (L' := #[vi p0, vi p1, vi p2, vi p3, vi p4, vi p5, vr s1_1, vr s1_3, vr s1_6, vr s1_9, vr b12, vr b16, .unset, .unset]) X17.here hx (hb hby at_52) rfl rfl rfl ?_
    refine t_iloadN 55 X17.here hx (hb hby at_54) rfl rfl ?_
    refine t_bipush 57 (r := 28) X17.here hx (hb hby at_55) (by decide) rfl ?_
    refine t_iushr 58 (r := (own_u28 p0)) X17.here hx (hb hby at_57) (Eq.refl (own_u28 p0)) rfl ?_
    refine t_iconst 59 (r := 3) X17.here hx (hb hby at_58) (by decide) rfl ?_
    refine t_iand 60 (r := 3) X17.here hx (hb hby at_59) hm rfl ?_
    refine t_istore (pc' := 62) (L' := #[vi p0, vi p1, vi p2, vi p3, vi p4, vi p5, vr s1_1, vr s1_3, vr s1_6, vr s1_9, vr b12, vr b16, vi 3, .unset]) X17.here hx (hb hby at_60) rfl rfl ?_
    refine t_iload 64 X17.here hx (hb hby at_62) rfl rfl ?_
    refine t_iconst 65 (r := 1) X17.here hx (hb hby at_64) (by decide) rfl ?_
    refine t_icmpYes (pc := 65) 83 X17.here hx (hb hby at_65) (by decide) (by decide) (by decide) ?_
    refine t_iload 85 X17.here hx (hb hby at_83) rfl rfl ?_
    refine t_iconst 86 (r := 2) X17.here hx (hb hby at_85) (by decide) rfl ?_
    refine t_icmpYes (pc := 86) 105 X17.here hx (hb hby at_86) (by decide) (by decide) (by decide) ?_
    refine t_iload 107 X17.here hx (hb hby at_105) rfl rfl ?_
    refine t_iconst 108 (r := 3) X17.here hx (hb hby at_107) (by decide) rfl ?_
    refine t_icmpNo 111 X17.here hx (hb hby at_108) (by decide) rfl ?_
    refine t_aload 113 X17.here hx (hb hby at_111) rfl rfl rfl ?_
    refine t_aload 115 X17.here hx (hb hby at_113) rfl rfl rfl ?_
    refine st20 _ ?_
    exact retN X20 hx (t := .boolean) hret (by simp) (hb hby at_118) hr
theorem d310 : decode b18_ 60 = .ok (.iconst 0, 1) := by decide +kernel
def Q_r33_equals (Z : State) (o0 o1 : Addr) (i_3 i_5 : Int32) (h0 : Heap) (n0 : Nat) (v : Option Value) (h : Heap) (L : List Loc) : Prop := v = some z0 ∧ Fr n0 L ∧ h = h0
theorem ef_r33_equals (o0 o1 : Addr) (m : MethodId) : entryFrame m #[(.ref o0), (.ref o1)] 3 = mkF m 0 #[.val (.ref o0), .val (.ref o1), .unset] [] := by first | (simp [entryFrame, mkF, argsToLocals, Value.category]; done) | rfl
set_option maxRecDepth 65536 in
set_option maxHeartbeats 40000000 in
theorem r33_equals (l : Launch) (Z : State) (a0 : Array Value) (hw : HW Z a0) (ws : List Jvm.Cond) (o0 o1 : Addr) (i_3 i_5 : Int32) (h0 : Heap) (n0 : Nat) (Z0 : n0 ≤ h0.size) (E_o1 : Ex1 Z h0 o1) (F_o0_relevance : Fd4 Z h0 o0 (.int i_3)) (F_o1_relevance : Fd4 Z h0 o1 (.int i_5)) (hp0 : ¬ (i_3 = i_5)) :
    MF l Z y18_equals b18_ 3 (some .boolean) ws ⟨0, 0, 0, 0⟩ #[(.ref o0), (.ref o1)] h0 (Q_r33_equals Z o0 o1 i_3 i_5 h0 n0) := by
  refine own_body (plainFor_of_name pn_Judgment86) (ef_r33_equals o0 o1) (by decide) (by decide) ?_
  intro p e s m below meth c s₁ hx hby hml hown hnm hret hZ hh e0 X0
  have N0 := Fr.nil n0
  obtain ⟨T1, X1, e1, st1⟩ := instY X0 hx hZ hown (w85 hw) e0 (Ins.self E_o1) (g := (mkF m 1 #[vr o0, vr o1, .unset] [(.ref o1)])) rfl rfl (hb hby d280)
  obtain ⟨T2, X2, e2, st2⟩ := castY X1 hx hZ hown (w85 hw) e1 (Ins.self E_o1) (g := (mkF m 8 #[vr o0, vr o1, .unset] [(.ref o1)])) rfl rfl (hb hby d285)
  obtain ⟨T4, X4, e4, st4⟩ := getF X2 hx hZ hown (host := "") (Or.inl (w78 hw)) Via.refl e2 F_o0_relevance (g := (mkF m 18 #[vr o0, vr o1, vr o1] [(.ref o0)])) rfl rfl (hb hby d289)
  obtain ⟨T6, X6, e6, st6⟩ := getF X4 hx hZ hown (host := "") (Or.inl (w78 hw)) Via.refl e4 F_o1_relevance (g := (mkF m 22 #[vr o0, vr o1, vr o1] [(.ref o1), (.int i_3)])) rfl rfl (hb hby d291)
  refine ⟨T6, _, some z0, X6, (fun h => by cases h <;> rfl), ?_, fun fs hr => ?_⟩
  · show Q_r33_equals Z o0 o1 i_3 i_5 h0 n0 _ T6.heap _
    rw [e6]
    exact ⟨rfl, N0, rfl⟩
  · refine t_aloadN 1 X0.here hx (hb hby d279) rfl rfl rfl ?_
    refine st1 _ ?_
    refine t_ifNo 7 X1.here hx (hb hby d281) (by decide) rfl ?_
    refine t_aloadN 8 X1.here hx (hb hby d284) rfl rfl rfl ?_
    refine st2 _ ?_
    refine t_astoreN (pc' := 12) (L' := #[vr o0, vr o1, vr o1]) X2.here hx (hb hby d286) rfl rfl rfl ?_
    refine t_goto (pc := 12) 17 X2.here hx (hb hby d287) (by decide) (by decide) ?_
    refine t_aloadN 18 X2.here hx (hb hby d288) rfl rfl rfl ?_
    refine st4 _ ?_
    refine t_aloadN 22 X4.here hx (hb hby d290) rfl rfl rfl ?_
    refine st6 _ ?_
    refine t_icmpYes (pc := 25) 60 X6.here hx (hb hby d292) (feq hp0).2 (by decide) (by decide) ?_
    refine t_iconst 61 (r := 0) X6.here hx (hb hby d310) (by decide) rfl ?_
    exact retN X6 hx (t := .boolean) hret (by simp) (hb hby d309) hr
theorem ef_law_n (p0 p1 p2 p3 p4 p5 : Int32) (m : MethodId) : entryFrame m #[(.int p0), (.int p1), (.int p2), (.int p3), (.int p4), (.int p5)] maxLocals = mkF m 0 #[.val (.int p0), .val (.int p1), .val (.int p2), .val (.int p3), .val (.int p4), .val (.int p5), .unset, .unset, .unset, .unset, .unset, .unset, .unset, .unset] [] := by first | (simp [entryFrame, mkF, argsToLocals, Value.category, maxLocals]; done) | rfl
set_option maxRecDepth 65536 in
set_option maxHeartbeats 40000000 in
theorem law_n (l : Launch) (Z : State) (a0 : Array Value) (hw : HW Z a0) (ws : List Jvm.Cond) (p0 p1 p2 p3 p4 p5 cs : Int32) (h0 : Heap) (n0 : Nat) (Z0 : n0 ≤ h0.size) (hrel : ¬ (p4 = p5)) (hcs : ¬ (cs = (0 : Int32))) (hm : ((own_u28 p0) &&& (3 : Int32)) = (0 : Int32)) (S_COMPACT_STRINGS : SCS Z cs) (O0 : Old Z n0 h0) :
    MetFree l x (head1 (Jvm.Cond.code x code maxLocals ret :: ws) room_1) (fun a U => a = #[(.int p0), (.int p1), (.int p2), (.int p3), (.int p4), (.int p5)] ∧ Z.Warmed39 U.vm ∧ U.heap = h0 ∧ CHv Z consts_1 U.vm h0 ∧ ∀ x ∈ ([] : List Addr), Safe Z consts_1 U.vm h0 x) (fun _ _ _ _ _ => True) (fun _ U o U' => ∃ v L, o = .returned v ∧ Q_law n0 v L ∧ CHr Z consts_1 U.vm U.heap U'.vm U'.heap ∧ ReturnedEndW U o U' L 48 3264) := by
  refine own_bodyH (k := 34) (n := 174) (y := x) (Q := fun v _ L => Q_law n0 v L) (own_EW hw) (plainFor_of_name pn_JudgmentEqualsPinLaw295) (ef_law_n p0 p1 p2 p3 p4 p5) (by decide) (by decide) ?_
  intro p e s m below meth c s₁ hx hby hml hown hnm hret hZ e0 hS0 hk0 X0 hC0 hSF0
  have N0 := Fr.nil n0
  obtain ⟨_, T1, L1, X1, hS1, hk1, hZ1, hown1, hQ1, hC1, st1⟩ := own_Hstatic X0 hx hZ hown (w0 hw) (w1 hw) (w2 hw) (w3 hw) (by decide) (r_str l Z a0 hw [] p0 cs h0 n0 Z0 hcs S_COMPACT_STRINGS O0) e0 (W := 0) (by decide) (g := (mkF m 1 #[vi p0, vi p1, vi p2, vi p3, vi p4, vi p5, .unset, .unset, .unset, .unset, .unset, .unset, .unset, .unset] [(.int p0)])) rfl (by rw [hml]; rfl) (argsL := [(.int p0)]) (rest := []) (lenOf pd_12 rfl) rfl rfl (own_wr rfl rfl) (hb hby at_1) hS0 hk0 (own_EW hw) (CHr.refl hC0).1 sf0
  obtain ⟨s1_1, b1_1, k1_1, rfl, N1q, K1, Q1_0, Q1_1, Q1_2, Q1_3, Q1_4, Q1_5⟩ := hQ1
  have N1 := Fr.app N0 N1q
  have Ah1 := (CHr.refl hC0).trans hC1
  have f4 := (kOld K1 O0 na0)
  obtain ⟨_, T3, L3, X3, hS3, hk3, hZ3, hown3, hQ3, hC3, st3⟩ := own_Hstatic X1 hx hZ1 hown1 (w0 hw) (w1 hw) (w2 hw) (w3 hw) (by decide) (r_str l Z a0 hw [] p1 cs T1.heap n0 (Nat.le_trans Z0 K1.1) hcs S_COMPACT_STRINGS f4) rfl (W := 0) (by decide) (g := (mkF m 7 #[vi p0, vi p1, vi p2, vi p3, vi p4, vi p5, vr s1_1, .unset, .unset, .unset, .unset, .unset, .unset, .unset] [(.int p1)])) rfl (by rw [hml]; rfl) (argsL := [(.int p1)]) (rest := []) (lenOf pd_12 rfl) rfl rfl (own_wr rfl rfl) (hb hby at_7) hS1 hk1 (own_EW hw) Ah1.1 sf0
  obtain ⟨s1_3, b1_3, k1_3, rfl, N3q, K3, Q3_0, Q3_1, Q3_2, Q3_3, Q3_4, Q3_5⟩ := hQ3
  have N3 := Fr.app N1 N3q
  have Ah2 := Ah1.trans hC3
  have f7 := (kOld K3 f4 na0)
  have sz_0_2 := (Nat.le_trans K1.1 K3.1)
  obtain ⟨_, T6, L6, X6, hS6, hk6, hZ6, hown6, hQ6, hC6, st6⟩ := own_Hstatic X3 hx hZ3 hown3 (w0 hw) (w1 hw) (w2 hw) (w3 hw) (by decide) (r_str l Z a0 hw [] p2 cs T3.heap n0 (Nat.le_trans Z0 sz_0_2) hcs S_COMPACT_STRINGS f7) rfl (W := 0) (by decide) (g := (mkF m 13 #[vi p0, vi p1, vi p2, vi p3, vi p4, vi p5, vr s1_1, vr s1_3, .unset, .unset, .unset, .unset, .unset, .unset] [(.int p2)])) rfl (by rw [hml]; rfl) (argsL := [(.int p2)]) (rest := []) (lenOf pd_12 rfl) rfl rfl (own_wr rfl rfl) (hb hby at_13) hS3 hk3 (own_EW hw) Ah2.1 sf0
  obtain ⟨s1_6, b1_6, k1_6, rfl, N6q, K6, Q6_0, Q6_1, Q6_2, Q6_3, Q6_4, Q6_5⟩ := hQ6
  have N6 := Fr.app N3 N6q
  have Ah3 := Ah2.trans hC6
  have f10 := (kOld K6 f7 na0)
  have sz_0_3 := (Nat.le_trans sz_0_2 K6.1)
  obtain ⟨_, T9, L9, X9, hS9, hk9, hZ9, hown9, hQ9, hC9, st9⟩ := own_Hstatic X6 hx hZ6 hown6 (w0 hw) (w1 hw) (w2 hw) (w3 hw) (by decide) (r_str l Z a0 hw [] p3 cs T6.heap n0 (Nat.le_trans Z0 sz_0_3) hcs S_COMPACT_STRINGS f10) rfl (W := 0) (by decide) (g := (mkF m 19 #[vi p0, vi p1, vi p2, vi p3, vi p4, vi p5, vr s1_1, vr s1_3, vr s1_6, .unset, .unset, .unset, .unset, .unset] [(.int p3)])) rfl (by rw [hml]; rfl) (argsL := [(.int p3)]) (rest := []) (lenOf pd_12 rfl) rfl rfl (own_wr rfl rfl) (hb hby at_19) hS6 hk6 (own_EW hw) Ah3.1 sf0
  obtain ⟨s1_9, b1_9, k1_9, rfl, N9q, K9, Q9_0, Q9_1, Q9_2, Q9_3, Q9_4, Q9_5⟩ := hQ9
  have N9 := Fr.app N6 N9q
  have Ah4 := Ah3.trans hC9
  obtain ⟨T12, h12, X12, e12, E12, A12, D12, -, st12⟩ := newO X9 hx hZ9 hown9 (w60 hw) (w61 hw) (w62 hw) rfl (g := (mkF m 24 #[vi p0, vi p1, vi p2, vi p3, vi p4, vi p5, vr s1_1, vr s1_3, vr s1_6, vr s1_9, .unset, .unset, .unset, .unset] [])) rfl (hb hby at_24) (by decide) (by decide)
  obtain ⟨b12, g12⟩ : ∃ z, z = T9.heap.size := ⟨_, rfl⟩
  rw [← g12] at A12 D12 st12
  have ge_b12 : T9.heap.size ≤ b12 := Nat.le_of_eq g12.symm
  have K12 := KL.ofE E12
  have Ck4 := own_chK K12 na0 Ah4.1
  have Ah5 := Ah4.trans Ck4.1
  have F_b12_request : Fd2 Z h12 b12 .null := D12 (Or.inr (w74 hw)) (ty := (.object "java/lang/String")) (by decide)
  have F_b12_record : Fd3 Z h12 b12 .null := D12 (Or.inr (w77 hw)) (ty := (.object "java/lang/String")) (by decide)
  have F_b12_relevance : Fd4 Z h12 b12 z0 := D12 (Or.inr (w79 hw)) (ty := .int) (by decide)
  have f14 := (kExa K12 (kExa K9 (kExa K6 (kExa K3 Q1_2))))
  have sz_0_4 := (Nat.le_trans sz_0_3 K9.1)
  have f15 := (kExa K12 (kExa K9 Q6_2))
  have sz_0_5 := (Nat.le_trans sz_0_4 K12.1)
  obtain ⟨_, T13, L13, X13, hS13, hk13, hZ13, hown13, hQ13, hC13, st13⟩ := own_Hinit X12 hx hZ9 rfl hown9 (w63 hw) (w64 hw) (w62 hw) (w65 hw) (by decide) (r27__init_ l Z a0 hw [] b12 s1_1 s1_6 p4 h12 n0 (Nat.le_trans Z0 sz_0_5) f14 F_b12_request A12 (Nat.le_trans Z0 (Nat.le_trans sz_0_4 ge_b12)) f15 F_b12_record F_b12_relevance) e12 (W := 1) (by decide) (g := (mkF m 34 #[vi p0, vi p1, vi p2, vi p3, vi p4, vi p5, vr s1_1, vr s1_3, vr s1_6, vr s1_9, .unset, .unset, .unset, .unset] [(.int p4), (.ref s1_6), (.ref s1_1), (.ref b12), (.ref b12)])) rfl (by rw [hml]; rfl) (argsL := [(.ref s1_1), (.ref s1_6), (.int p4)]) (rest := [(.ref b12)]) (lenOf pd_14 rfl) rfl rfl (own_wr rfl rfl) (hb hby at_34) hS9 (Nat.le_trans hk9 K12.1) (own_EW hw) Ah5.1 sf0
  obtain ⟨rfl, N13q, K13, Q13_0, Q13_1, Q13_2⟩ := hQ13
  have N13 := Fr.app N9 N13q
  have Ah6 := Ah5.trans hC13
  obtain ⟨T16, h16, X16, e16, E16, A16, D16, -, st16⟩ := newO X13 hx hZ13 hown13 (w60 hw) (w61 hw) (w62 hw) rfl (g := (mkF m 39 #[vi p0, vi p1, vi p2, vi p3, vi p4, vi p5, vr s1_1, vr s1_3, vr s1_6, vr s1_9, vr b12, .unset, .unset, .unset] [])) rfl (hb hby at_39) (by decide) (by decide)
  obtain ⟨b16, g16⟩ : ∃ z, z = T13.heap.size := ⟨_, rfl⟩
  rw [← g16] at A16 D16 st16
  have ge_b16 : T13.heap.size ≤ b16 := Nat.le_of_eq g16.symm
  have K16 := KL.ofE E16
  have Ck6 := own_chK K16 na0 Ah6.1
  have Ah7 := Ah6.trans Ck6.1
  have F_b16_request : Fd2 Z h16 b16 .null := D16 (Or.inr (w74 hw)) (ty := (.object "java/lang/String")) (by decide)
  have F_b16_record : Fd3 Z h16 b16 .null := D16 (Or.inr (w77 hw)) (ty := (.object "java/lang/String")) (by decide)
  have F_b16_relevance : Fd4 Z h16 b16 z0 := D16 (Or.inr (w79 hw)) (ty := .int) (by decide)
  have f18 := (kExa K16 (kExa K13 (kExa K12 (kExa K9 (kExa K6 Q3_2)))))
  have sz_0_6 := (Nat.le_trans sz_0_5 K13.1)
  have f19 := (kExa K16 (kExa K13 (kExa K12 Q9_2)))
  have sz_0_7 := (Nat.le_trans sz_0_6 K16.1)
  obtain ⟨_, T17, L17, X17, hS17, hk17, hZ17, hown17, hQ17, hC17, st17⟩ := own_Hinit X16 hx hZ13 rfl hown13 (w63 hw) (w64 hw) (w62 hw) (w65 hw) (by decide) (r27__init_ l Z a0 hw [] b16 s1_3 s1_9 p5 h16 n0 (Nat.le_trans Z0 sz_0_7) f18 F_b16_request A16 (Nat.le_trans Z0 (Nat.le_trans sz_0_6 ge_b16)) f19 F_b16_record F_b16_relevance) e16 (W := 1) (by decide) (g := (mkF m 49 #[vi p0, vi p1, vi p2, vi p3, vi p4, vi p5, vr s1_1, vr s1_3, vr s1_6, vr s1_9, vr b12, .unset, .unset, .unset] [(.int p5), (.ref s1_9), (.ref s1_3), (.ref b16), (.ref b16)])) rfl (by rw [hml]; rfl) (argsL := [(.ref s1_3), (.ref s1_9), (.int p5)]) (rest := [(.ref b16)]) (lenOf pd_14 rfl) rfl rfl (own_wr rfl rfl) (hb hby at_49) hS13 (Nat.le_trans hk13 K16.1) (own_EW hw) Ah7.1 sf0
  obtain ⟨rfl, N17q, K17, Q17_0, Q17_1, Q17_2⟩ := hQ17
  have N17 := Fr.app N13 N17q
  have Ah8 := Ah7.trans hC17
  have f21 := (kExa K17 A16)
  have lt_b12 : b12 < h12.size := Exa.lt A12
  have f22 := (kFld K17 (kFld K16 Q13_2 nw0) (nwM 3 rfl (lt_ne (Nat.lt_of_lt_of_le lt_b12 K13.1) ge_b16) nw0))
  have sz_0_8 := (Nat.le_trans sz_0_7 K17.1)
  have f23 := (kExa K17 (kExa K16 (kExa K13 A12)))
  obtain ⟨_, T20, L20, X20, hQ20, st20⟩ := own_virtual X17 hx hZ17 hown17 (w80 hw) (w81 hw) (notFace_of_selects (args := #[]) (mvT hZ17 (w83 hw))) (w83 hw) (w82 hw) (w62 hw) (w84 hw) (by decide) (r33_equals l Z a0 hw [] b12 b16 p4 p5 T17.heap n0 (Nat.le_trans Z0 sz_0_8) f21 f22 Q17_2 hrel) rfl f23 (W := 0) (by decide) (g := (mkF m 153 #[vi p0, vi p1, vi p2, vi p3, vi p4, vi p5, vr s1_1, vr s1_3, vr s1_6, vr s1_9, vr b12, vr b16, vi 0, vi 0] [(.ref b16), (.ref b12)])) rfl (by rw [hml]; rfl) (argsL := [(.ref b16)]) (rest := []) (lenOf pd_15 rfl) rfl rfl (own_wr rfl rfl) (hb hby at_153)
  obtain ⟨rfl, N20q, e20⟩ := hQ20
  have N20 := Fr.app N17 N20q
  obtain ⟨_, T24, L24, X24, hQ24, st24⟩ := own_virtual X20 hx hZ17 hown17 (w80 hw) (w81 hw) (notFace_of_selects (args := #[]) (mvT hZ17 (w83 hw))) (w83 hw) (w82 hw) (w62 hw) (w84 hw) (by decide) (r33_equals l Z a0 hw [] b16 b12 p5 p4 T17.heap n0 (Nat.le_trans Z0 sz_0_8) f23 Q17_2 f22 (Ne.symm hrel)) e20 f21 (W := 0) (by decide) (g := (mkF m 165 #[vi p0, vi p1, vi p2, vi p3, vi p4, vi p5, vr s1_1, vr s1_3, vr s1_6, vr s1_9, vr b12, vr b16, vi 0, vi 0] [(.ref b12), (.ref b16)])) rfl (by rw [hml]; rfl) (argsL := [(.ref b12)]) (rest := []) (lenOf pd_15 rfl) rfl rfl (own_wr rfl rfl) (hb hby at_165)
  obtain ⟨rfl, N24q, e24⟩ := hQ24
  have N24 := Fr.app N20 N24q
  refine ⟨T24, _, some (.int 1), _, _, X24, hS17, (by rw [e24]; exact hk17), (fun h => by cases h <;> rfl), ?_, (by rw [e24]; exact Ah8), hZ17, fun fs hr => ?_⟩
  · show Q_law n0 _ _
    exact ⟨rfl, N24⟩
  · refine t_iloadN 1 X0.here hx (hb hby at_0) rfl rfl ?_
    refine st1 _ ?_
    refine t_astore (pc' := 6) (L' := #[vi p0, vi p1, vi p2, vi p3, vi p4, vi p5, vr s1_1, .unset, .unset, .unset, .unset, .unset, .unset, .unset]) X1.here hx (hb hby at_4) rfl rfl rfl ?_
    refine t_iloadN 7 X1.here hx (hb hby at_6) rfl rfl ?_
    refine st3 _ ?_
    refine t_astore (pc' := 12) (L' := #[vi p0, vi p1, vi p2, vi p3, vi p4, vi p5, vr s1_1, vr s1_3, .unset, .unset, .unset, .unset, .unset, .unset]) X3.here hx (hb hby at_10) rfl rfl rfl ?_
    refine t_iloadN 13 X3.here hx (hb hby at_12) rfl rfl ?_
    refine st6 _ ?_
    refine t_astore (pc' := 18) (L' := #[vi p0, vi p1, vi p2, vi p3, vi p4, vi p5, vr s1_1, vr s1_3, vr s1_6, .unset, .unset, .unset, .unset, .unset]) X6.here hx (hb hby at_16) rfl rfl rfl ?_
    refine t_iloadN 19 X6.here hx (hb hby at_18) rfl rfl ?_
    refine st9 _ ?_
    refine t_astore (pc' := 24) (L' := #[vi p0, vi p1, vi p2, vi p3, vi p4, vi p5, vr s1_1, vr s1_3, vr s1_6, vr s1_9, .unset, .unset, .unset, .unset]) X9.here hx (hb hby at_22) rfl rfl rfl ?_
    refine st12 _ ?_
    refine t_dup 28 X12.here hx (hb hby at_27) rfl rfl ?_
    refine t_aload 30 X12.here hx (hb hby at_28) rfl rfl rfl ?_
    refine t_aload 32 X12.here hx (hb hby at_30) rfl rfl rfl ?_
    refine t_iload 34 X12.here hx (hb hby at_32) rfl rfl ?_
    refine st13 _ ?_
    refine t_astore (pc' := 39) (L' := #[vi p0, vi p1, vi p2, vi p3, vi p4, vi p5, vr s1_1, vr s1_3, vr s1_6, vr s1_9, vr b12, .unset, .unset, .unset]) X13.here hx (hb hby at_37) rfl rfl rfl ?_
    refine st16 _ ?_
    refine t_dup 43 X16.here hx (hb hby at_42) rfl rfl ?_
    refine t_aload 45 X16.here hx (hb hby at_43) rfl rfl rfl ?_
    refine t_aload 47 X16.here hx (hb hby at_45) rfl rfl rfl ?_
    refine t_iload 49 X16.here hx (hb hby at_47) rfl rfl ?_
    refine st17 _ ?_
    refine t_astore (pc' := 54) (L' := #[vi p0, vi p1, vi p2, vi p3, vi p4, vi p5, vr s1_1, vr s1_3, vr s1_6, vr s1_9, vr b12, vr b16, .unset, .unset]) X17.here hx (hb hby at_52) rfl rfl rfl ?_
    refine t_iloadN 55 X17.here hx (hb hby at_54) rfl rfl ?_
    refine t_bipush 57 (r := 28) X17.here hx (hb hby at_55) (by decide) rfl ?_
    refine t_iushr 58 (r := (own_u28 p0)) X17.here hx (hb hby at_57) (Eq.refl (own_u28 p0)) rfl ?_
    refine t_iconst 59 (r := 3) X17.here hx (hb hby at_58) (by decide) rfl ?_
    refine t_iand 60 (r := 0) X17.here hx (hb hby at_59) hm rfl ?_
    refine t_istore (pc' := 62) (L' := #[vi p0, vi p1, vi p2, vi p3, vi p4, vi p5, vr s1_1, vr s1_3, vr s1_6, vr s1_9, vr b12, vr b16, vi 0, .unset]) X17.here hx (hb hby at_60) rfl rfl ?_
    refine t_iload 64 X17.here hx (hb hby at_62) rfl rfl ?_
    refine t_iconst 65 (r := 1) X17.here hx (hb hby at_64) (by decide) rfl ?_
    refine t_icmpYes (pc := 65) 83 X17.here hx (hb hby at_65) (by decide) (by decide) (by decide) ?_
    refine t_iload 85 X17.here hx (hb hby at_83) rfl rfl ?_
    refine t_iconst 86 (r := 2) X17.here hx (hb hby at_85) (by decide) rfl ?_
    refine t_icmpYes (pc := 86) 105 X17.here hx (hb hby at_86) (by decide) (by decide) (by decide) ?_
    refine t_iload 107 X17.here hx (hb hby at_105) rfl rfl ?_
    refine t_iconst 108 (r := 3) X17.here hx (hb hby at_107) (by decide) rfl ?_
    refine t_icmpYes (pc := 108) 119 X17.here hx (hb hby at_108) (by decide) (by decide) (by decide) ?_
    refine t_iload 121 X17.here hx (hb hby at_119) rfl rfl ?_
    refine t_iload 123 X17.here hx (hb hby at_121) rfl rfl ?_
    refine t_icmpYes (pc := 123) 146 X17.here hx (hb hby at_123) (feq hrel).2 (by decide) (by decide) ?_
    refine t_iconst 147 (r := 0) X17.here hx (hb hby at_146) (by decide) rfl ?_
    refine t_istore (pc' := 149) (L' := #[vi p0, vi p1, vi p2, vi p3, vi p4, vi p5, vr s1_1, vr s1_3, vr s1_6, vr s1_9, vr b12, vr b16, vi 0, vi 0]) X17.here hx (hb hby at_147) rfl rfl ?_
    refine t_aload 151 X17.here hx (hb hby at_149) rfl rfl rfl ?_
    refine t_aload 153 X17.here hx (hb hby at_151) rfl rfl rfl ?_
    refine st20 _ ?_
    refine t_iload 158 X20.here hx (hb hby at_156) rfl rfl ?_
    refine t_icmpNo 161 X20.here hx (hb hby at_158) (by decide) rfl ?_
    refine t_aload 163 X20.here hx (hb hby at_161) rfl rfl rfl ?_
    refine t_aload 165 X20.here hx (hb hby at_163) rfl rfl rfl ?_
    refine st24 _ ?_
    refine t_iload 170 X24.here hx (hb hby at_168) rfl rfl ?_
    refine t_icmpNo 173 X24.here hx (hb hby at_170) (by decide) rfl ?_
    refine t_iconst 174 (r := 1) X24.here hx (hb hby at_173) (by decide) rfl ?_
    refine t_goto (pc := 174) 178 X24.here hx (hb hby at_174) (by decide) (by decide) ?_
    exact retN X24 hx (t := .boolean) hret (by simp) (hb hby at_178) hr
def w94 (hw : HW Z a0) := ow 94 hw rfl
def w96 (hw : HW Z a0) := ow 96 hw rfl
theorem pd_16 : parseMethodDescriptor "(II)Z" = some ⟨[.int, .int], some .boolean⟩ := by decide +kernel
def w95 (hw : HW Z a0) := ow 95 hw rfl
def Q_r34_equals (Z : State) (o0 o1 : Addr) (i_3 i_5 : Int32) (o_7 o_9 : Addr) (i_11 : Int32) (o_12 o_13 : Addr) (i_14 : Int32) (k_o_12 : ClassId) (i_15 : Int32) (k_o_13 : ClassId) (h0 : Heap) (n0 : Nat) (v : Option Value) (h : Heap) (L : List Loc) : Prop := v = some z0 ∧ Fr n0 L ∧ h = h0
theorem ef_r34_equals (o0 o1 : Addr) (m : MethodId) : entryFrame m #[(.ref o0), (.ref o1)] 3 = mkF m 0 #[.val (.ref o0), .val (.ref o1), .unset] [] := by first | (simp [entryFrame, mkF, argsToLocals, Value.category]; done) | rfl
set_option maxRecDepth 65536 in
set_option maxHeartbeats 40000000 in
theorem r34_equals (l : Launch) (Z : State) (a0 : Array Value) (hw : HW Z a0) (ws : List Jvm.Cond) (o0 o1 : Addr) (i_3 i_5 : Int32) (o_7 o_9 : Addr) (i_11 : Int32) (o_12 o_13 : Addr) (i_14 : Int32) (k_o_12 : ClassId) (i_15 : Int32) (k_o_13 : ClassId) (h0 : Heap) (n0 : Nat) (Z0 : n0 ≤ h0.size) (E_o1 : Ex1 Z h0 o1) (F_o0_relevance : Fd4 Z h0 o0 (.int i_3)) (F_o1_relevance : Fd4 Z h0 o1 (.int i_5)) (hp0 : i_3 = i_5) (F_o0_request : Fd2 Z h0 o0 (.ref o_7)) (F_o1_request : Fd2 Z h0 o1 (.ref o_9)) (E_o_7 : Ex0 Z h0 o_7) (E_o_9 : Ex0 Z h0 o_9) (S_COMPACT_STRINGS : SCS Z i_11) (F_o_7_coder : Fd1 Z h0 o_7 z0) (F_o_9_coder : Fd1 Z h0 o_9 z0) (F_o_7_value : Fd0 Z h0 o_7 (.ref o_12)) (F_o_9_value : Fd0 Z h0 o_9 (.ref o_13)) (V_o_12 : Arv Z h0 o_12 k_o_12 .byte (own_ln i_14) (own_vs i_14) z0) (V_o_13 : Arv Z h0 o_13 k_o_13 .byte (own_ln i_15) (own_vs i_15) z0) (hp1 : ¬ (i_11 = (0 : Int32))) (ne_o_7_o_9 : o_7 ≠ o_9) (O0 : Old Z n0 h0) (hp2 : (own_same i_14 i_15) = (0 : Int32)) :
    MF l Z y18_equals b18_ 3 (some .boolean) ws ⟨4, 0, 0, 74⟩ #[(.ref o0), (.ref o1)] h0 (Q_r34_equals Z o0 o1 i_3 i_5 o_7 o_9 i_11 o_12 o_13 i_14 k_o_12 i_15 k_o_13 h0 n0) := by
  refine own_body (plainFor_of_name pn_Judgment86) (ef_r34_equals o0 o1) (by decide) (by decide) ?_
  intro p e s m below meth c s₁ hx hby hml hown hnm hret hZ hh e0 X0
  have N0 := Fr.nil n0
  obtain ⟨T1, X1, e1, st1⟩ := instY X0 hx hZ hown (w85 hw) e0 (Ins.self E_o1) (g := (mkF m 1 #[vr o0, vr o1, .unset] [(.ref o1)])) rfl rfl (hb hby d280)
  obtain ⟨T2, X2, e2, st2⟩ := castY X1 hx hZ hown (w85 hw) e1 (Ins.self E_o1) (g := (mkF m 8 #[vr o0, vr o1, .unset] [(.ref o1)])) rfl rfl (hb hby d285)
  obtain ⟨T4, X4, e4, st4⟩ := getF X2 hx hZ hown (host := "") (Or.inl (w78 hw)) Via.refl e2 F_o0_relevance (g := (mkF m 18 #[vr o0, vr o1, vr o1] [(.ref o0)])) rfl rfl (hb hby d289)
  obtain ⟨T6, X6, e6, st6⟩ := getF X4 hx hZ hown (host := "") (Or.inl (w78 hw)) Via.refl e4 F_o1_relevance (g := (mkF m 22 #[vr o0, vr o1, vr o1] [(.ref o1), (.int i_3)])) rfl rfl (hb hby d291)
  obtain ⟨T8, X8, e8, st8⟩ := getF X6 hx hZ hown (host := "") (Or.inl (w73 hw)) Via.refl e6 F_o0_request (g := (mkF m 29 #[vr o0, vr o1, vr o1] [(.ref o0)])) rfl rfl (hb hby d294)
  obtain ⟨T10, X10, e10, st10⟩ := getF X8 hx hZ hown (host := "") (Or.inl (w73 hw)) Via.refl e8 F_o1_request (g := (mkF m 33 #[vr o0, vr o1, vr o1] [(.ref o1), (.ref o_7)])) rfl rfl (hb hby d296)
  obtain ⟨_, T16, L16, X16, hQ16, st16⟩ := own_virtual X10 hx hZ hown (w87 hw) (w88 hw) (notFace_of_selects (args := #[]) (mvT hZ (w90 hw))) (w90 hw) (w89 hw) (w9 hw) (w91 hw) (by decide) (r_seq l Z a0 hw [] o_7 o_9 o_12 o_13 i_11 k_o_12 k_o_13 i_14 i_15 h0 n0 Z0 hp1 ne_o_7_o_9 E_o_9 S_COMPACT_STRINGS O0 F_o_7_coder F_o_9_coder F_o_7_value F_o_9_value V_o_12 V_o_13) e10 E_o_7 (W := 0) (by decide) (g := (mkF m 36 #[vr o0, vr o1, vr o1] [(.ref o_9), (.ref o_7)])) rfl (by rw [hml]; rfl) (argsL := [(.ref o_9)]) (rest := []) (lenOf pd_15 rfl) rfl rfl (own_wr rfl rfl) (hb hby d297)
  obtain ⟨rfl, N16q, e16⟩ := hQ16
  have N16 := Fr.app N0 N16q
  refine ⟨T16, _, some z0, X16, (fun h => by cases h <;> rfl), ?_, fun fs hr => ?_⟩
  · show Q_r34_equals Z o0 o1 i_3 i_5 o_7 o_9 i_11 o_12 o_13 i_14 k_o_12 i_15 k_o_13 h0 n0 _ T16.heap _
    rw [e16]
    exact ⟨rfl, N16, rfl⟩
  · refine t_aloadN 1 X0.here hx (hb hby d279) rfl rfl rfl ?_
    refine st1 _ ?_
    refine t_ifNo 7 X1.here hx (hb hby d281) (by decide) rfl ?_
    refine t_aloadN 8 X1.here hx (hb hby d284) rfl rfl rfl ?_
    refine st2 _ ?_
    refine t_astoreN (pc' := 12) (L' := #[vr o0, vr o1, vr o1]) X2.here hx (hb hby d286) rfl rfl rfl ?_
    refine t_goto (pc := 12) 17 X2.here hx (hb hby d287) (by decide) (by decide) ?_
    refine t_aloadN 18 X2.here hx (hb hby d288) rfl rfl rfl ?_
    refine st4 _ ?_
    refine t_aloadN 22 X4.here hx (hb hby d290) rfl rfl rfl ?_
    refine st6 _ ?_
    refine t_icmpNo 28 X6.here hx (hb hby d292) (teq hp0).2 rfl ?_
    refine t_aloadN 29 X6.here hx (hb hby d293) rfl rfl rfl ?_
    refine st8 _ ?_
    refine t_aloadN 33 X8.here hx (hb hby d295) rfl rfl rfl ?_
    refine st10 _ ?_
    refine st16 _ ?_
    refine t_ifYes (pc := 39) 60 X16.here hx (hb hby d300) ((if0 _ _).trans (teq hp2).1) (by decide) (by decide) ?_
    refine t_iconst 61 (r := 0) X16.here hx (hb hby d310) (by decide) rfl ?_
    exact retN X16 hx (t := .boolean) hret (by simp) (hb hby d309) hr
theorem ef_law_a (p0 p1 p2 p3 p4 p5 : Int32) (m : MethodId) : entryFrame m #[(.int p0), (.int p1), (.int p2), (.int p3), (.int p4), (.int p5)] maxLocals = mkF m 0 #[.val (.int p0), .val (.int p1), .val (.int p2), .val (.int p3), .val (.int p4), .val (.int p5), .unset, .unset, .unset, .unset, .unset, .unset, .unset, .unset] [] := by first | (simp [entryFrame, mkF, argsToLocals, Value.category, maxLocals]; done) | rfl
set_option maxRecDepth 65536 in
set_option maxHeartbeats 40000000 in
theorem law_a (l : Launch) (Z : State) (a0 : Array Value) (hw : HW Z a0) (ws : List Jvm.Cond) (p0 p1 p2 p3 p4 p5 cs : Int32) (h0 : Heap) (n0 : Nat) (Z0 : n0 ≤ h0.size) (hrel : p4 = p5) (hab : (own_same p0 p1) = (0 : Int32)) (hcs : ¬ (cs = (0 : Int32))) (hm : ((own_u28 p0) &&& (3 : Int32)) = (0 : Int32)) (S_COMPACT_STRINGS : SCS Z cs) (O0 : Old Z n0 h0) :
    MetFree l x (head1 (Jvm.Cond.code x code maxLocals ret :: ws) room_1) (fun a U => a = #[(.int p0), (.int p1), (.int p2), (.int p3), (.int p4), (.int p5)] ∧ Z.Warmed39 U.vm ∧ U.heap = h0 ∧ CHv Z consts_1 U.vm h0 ∧ ∀ x ∈ ([] : List Addr), Safe Z consts_1 U.vm h0 x) (fun _ _ _ _ _ => True) (fun _ U o U' => ∃ v L, o = .returned v ∧ Q_law n0 v L ∧ CHr Z consts_1 U.vm U.heap U'.vm U'.heap ∧ ReturnedEndW U o U' L 48 3264) := by
  refine own_bodyH (k := 34) (n := 174) (y := x) (Q := fun v _ L => Q_law n0 v L) (own_EW hw) (plainFor_of_name pn_JudgmentEqualsPinLaw295) (ef_law_a p0 p1 p2 p3 p4 p5) (by decide) (by decide) ?_
  intro p e s m below meth c s₁ hx hby hml hown hnm hret hZ e0 hS0 hk0 X0 hC0 hSF0
  have N0 := Fr.nil n0
  obtain ⟨_, T1, L1, X1, hS1, hk1, hZ1, hown1, hQ1, hC1, st1⟩ := own_Hstatic X0 hx hZ hown (w0 hw) (w1 hw) (w2 hw) (w3 hw) (by decide) (r_str l Z a0 hw [] p0 cs h0 n0 Z0 hcs S_COMPACT_STRINGS O0) e0 (W := 0) (by decide) (g := (mkF m 1 #[vi p0, vi p1, vi p2, vi p3, vi p4, vi p5, .unset, .unset, .unset, .unset, .unset, .unset, .unset, .unset] [(.int p0)])) rfl (by rw [hml]; rfl) (argsL := [(.int p0)]) (rest := []) (lenOf pd_12 rfl) rfl rfl (own_wr rfl rfl) (hb hby at_1) hS0 hk0 (own_EW hw) (CHr.refl hC0).1 sf0
  obtain ⟨s1_1, b1_1, k1_1, rfl, N1q, K1, Q1_0, Q1_1, Q1_2, Q1_3, Q1_4, Q1_5⟩ := hQ1
  have N1 := Fr.app N0 N1q
  have Ah1 := (CHr.refl hC0).trans hC1
  have f4 := (kOld K1 O0 na0)
  obtain ⟨_, T3, L3, X3, hS3, hk3, hZ3, hown3, hQ3, hC3, st3⟩ := own_Hstatic X1 hx hZ1 hown1 (w0 hw) (w1 hw) (w2 hw) (w3 hw) (by decide) (r_str l Z a0 hw [] p1 cs T1.heap n0 (Nat.le_trans Z0 K1.1) hcs S_COMPACT_STRINGS f4) rfl (W := 0) (by decide) (g := (mkF m 7 #[vi p0, vi p1, vi p2, vi p3, vi p4, vi p5, vr s1_1, .unset, .unset, .unset, .unset, .unset, .unset, .unset] [(.int p1)])) rfl (by rw [hml]; rfl) (argsL := [(.int p1)]) (rest := []) (lenOf pd_12 rfl) rfl rfl (own_wr rfl rfl) (hb hby at_7) hS1 hk1 (own_EW hw) Ah1.1 sf0
  obtain ⟨s1_3, b1_3, k1_3, rfl, N3q, K3, Q3_0, Q3_1, Q3_2, Q3_3, Q3_4, Q3_5⟩ := hQ3
  have N3 := Fr.app N1 N3q
  have Ah2 := Ah1.trans hC3
  have f7 := (kOld K3 f4 na0)
  have sz_0_2 := (Nat.le_trans K1.1 K3.1)
  obtain ⟨_, T6, L6, X6, hS6, hk6, hZ6, hown6, hQ6, hC6, st6⟩ := own_Hstatic X3 hx hZ3 hown3 (w0 hw) (w1 hw) (w2 hw) (w3 hw) (by decide) (r_str l Z a0 hw [] p2 cs T3.heap n0 (Nat.le_trans Z0 sz_0_2) hcs S_COMPACT_STRINGS f7) rfl (W := 0) (by decide) (g := (mkF m 13 #[vi p0, vi p1, vi p2, vi p3, vi p4, vi p5, vr s1_1, vr s1_3, .unset, .unset, .unset, .unset, .unset, .unset] [(.int p2)])) rfl (by rw [hml]; rfl) (argsL := [(.int p2)]) (rest := []) (lenOf pd_12 rfl) rfl rfl (own_wr rfl rfl) (hb hby at_13) hS3 hk3 (own_EW hw) Ah2.1 sf0
  obtain ⟨s1_6, b1_6, k1_6, rfl, N6q, K6, Q6_0, Q6_1, Q6_2, Q6_3, Q6_4, Q6_5⟩ := hQ6
  have N6 := Fr.app N3 N6q
  have Ah3 := Ah2.trans hC6
  have f10 := (kOld K6 f7 na0)
  have sz_0_3 := (Nat.le_trans sz_0_2 K6.1)
  obtain ⟨_, T9, L9, X9, hS9, hk9, hZ9, hown9, hQ9, hC9, st9⟩ := own_Hstatic X6 hx hZ6 hown6 (w0 hw) (w1 hw) (w2 hw) (w3 hw) (by decide) (r_str l Z a0 hw [] p3 cs T6.heap n0 (Nat.le_trans Z0 sz_0_3) hcs S_COMPACT_STRINGS f10) rfl (W := 0) (by decide) (g := (mkF m 19 #[vi p0, vi p1, vi p2, vi p3, vi p4, vi p5, vr s1_1, vr s1_3, vr s1_6, .unset, .unset, .unset, .unset, .unset] [(.int p3)])) rfl (by rw [hml]; rfl) (argsL := [(.int p3)]) (rest := []) (lenOf pd_12 rfl) rfl rfl (own_wr rfl rfl) (hb hby at_19) hS6 hk6 (own_EW hw) Ah3.1 sf0
  obtain ⟨s1_9, b1_9, k1_9, rfl, N9q, K9, Q9_0, Q9_1, Q9_2, Q9_3, Q9_4, Q9_5⟩ := hQ9
  have N9 := Fr.app N6 N9q
  have Ah4 := Ah3.trans hC9
  obtain ⟨T12, h12, X12, e12, E12, A12, D12, -, st12⟩ := newO X9 hx hZ9 hown9 (w60 hw) (w61 hw) (w62 hw) rfl (g := (mkF m 24 #[vi p0, vi p1, vi p2, vi p3, vi p4, vi p5, vr s1_1, vr s1_3, vr s1_6, vr s1_9, .unset, .unset, .unset, .unset] [])) rfl (hb hby at_24) (by decide) (by decide)
  obtain ⟨b12, g12⟩ : ∃ z, z = T9.heap.size := ⟨_, rfl⟩
  rw [← g12] at A12 D12 st12
  have ge_b12 : T9.heap.size ≤ b12 := Nat.le_of_eq g12.symm
  have K12 := KL.ofE E12
  have Ck4 := own_chK K12 na0 Ah4.1
  have Ah5 := Ah4.trans Ck4.1
  have F_b12_request : Fd2 Z h12 b12 .null := D12 (Or.inr (w74 hw)) (ty := (.object "java/lang/String")) (by decide)
  have F_b12_record : Fd3 Z h12 b12 .null := D12 (Or.inr (w77 hw)) (ty := (.object "java/lang/String")) (by decide)
  have F_b12_relevance : Fd4 Z h12 b12 z0 := D12 (Or.inr (w79 hw)) (ty := .int) (by decide)
  have f14 := (kExa K12 (kExa K9 (kExa K6 (kExa K3 Q1_2))))
  have sz_0_4 := (Nat.le_trans sz_0_3 K9.1)
  have f15 := (kExa K12 (kExa K9 Q6_2))
  have sz_0_5 := (Nat.le_trans sz_0_4 K12.1)
  obtain ⟨_, T13, L13, X13, hS13, hk13, hZ13, hown13, hQ13, hC13, st13⟩ := own_Hinit X12 hx hZ9 rfl hown9 (w63 hw) (w64 hw) (w62 hw) (w65 hw) (by decide) (r27__init_ l Z a0 hw [] b12 s1_1 s1_6 p4 h12 n0 (Nat.le_trans Z0 sz_0_5) f14 F_b12_request A12 (Nat.le_trans Z0 (Nat.le_trans sz_0_4 ge_b12)) f15 F_b12_record F_b12_relevance) e12 (W := 1) (by decide) (g := (mkF m 34 #[vi p0, vi p1, vi p2, vi p3, vi p4, vi p5, vr s1_1, vr s1_3, vr s1_6, vr s1_9, .unset, .unset, .unset, .unset] [(.int p4), (.ref s1_6), (.ref s1_1), (.ref b12), (.ref b12)])) rfl (by rw [hml]; rfl) (argsL := [(.ref s1_1), (.ref s1_6), (.int p4)]) (rest := [(.ref b12)]) (lenOf pd_14 rfl) rfl rfl (own_wr rfl rfl) (hb hby at_34) hS9 (Nat.le_trans hk9 K12.1) (own_EW hw) Ah5.1 sf0
  obtain ⟨rfl, N13q, K13, Q13_0, Q13_1, Q13_2⟩ := hQ13
  have N13 := Fr.app N9 N13q
  have Ah6 := Ah5.trans hC13
  obtain ⟨T16, h16, X16, e16, E16, A16, D16, -, st16⟩ := newO X13 hx hZ13 hown13 (w60 hw) (w61 hw) (w62 hw) rfl (g := (mkF m 39 #[vi p0, vi p1, vi p2, vi p3, vi p4, vi p5, vr s1_1, vr s1_3, vr s1_6, vr s1_9, vr b12, .unset, .unset, .unset] [])) rfl (hb hby at_39) (by decide) (by decide)
  obtain ⟨b16, g16⟩ : ∃ z, z = T13.heap.size := ⟨_, rfl⟩
  rw [← g16] at A16 D16 st16
  have ge_b16 : T13.heap.size ≤ b16 := Nat.le_of_eq g16.symm
  have K16 := KL.ofE E16
  have Ck6 := own_chK K16 na0 Ah6.1
  have Ah7 := Ah6.trans Ck6.1
  have F_b16_request : Fd2 Z h16 b16 .null := D16 (Or.inr (w74 hw)) (ty := (.object "java/lang/String")) (by decide)
  have F_b16_record : Fd3 Z h16 b16 .null := D16 (Or.inr (w77 hw)) (ty := (.object "java/lang/String")) (by decide)
  have F_b16_relevance : Fd4 Z h16 b16 z0 := D16 (Or.inr (w79 hw)) (ty := .int) (by decide)
  have f18 := (kExa K16 (kExa K13 (kExa K12 (kExa K9 (kExa K6 Q3_2)))))
  have sz_0_6 := (Nat.le_trans sz_0_5 K13.1)
  have f19 := (kExa K16 (kExa K13 (kExa K12 Q9_2)))
  have sz_0_7 := (Nat.le_trans sz_0_6 K16.1)
  obtain ⟨_, T17, L17, X17, hS17, hk17, hZ17, hown17, hQ17, hC17, st17⟩ := own_Hinit X16 hx hZ13 rfl hown13 (w63 hw) (w64 hw) (w62 hw) (w65 hw) (by decide) (r27__init_ l Z a0 hw [] b16 s1_3 s1_9 p5 h16 n0 (Nat.le_trans Z0 sz_0_7) f18 F_b16_request A16 (Nat.le_trans Z0 (Nat.le_trans sz_0_6 ge_b16)) f19 F_b16_record F_b16_relevance) e16 (W := 1) (by decide) (g := (mkF m 49 #[vi p0, vi p1, vi p2, vi p3, vi p4, vi p5, vr s1_1, vr s1_3, vr s1_6, vr s1_9, vr b12, .unset, .unset, .unset] [(.int p5), (.ref s1_9), (.ref s1_3), (.ref b16), (.ref b16)])) rfl (by rw [hml]; rfl) (argsL := [(.ref s1_3), (.ref s1_9), (.int p5)]) (rest := [(.ref b16)]) (lenOf pd_14 rfl) rfl rfl (own_wr rfl rfl) (hb hby at_49) hS13 (Nat.le_trans hk13 K16.1) (own_EW hw) Ah7.1 sf0
  obtain ⟨rfl, N17q, K17, Q17_0, Q17_1, Q17_2⟩ := hQ17
  have N17 := Fr.app N13 N17q
  have Ah8 := Ah7.trans hC17
  have sz_0_8 := (Nat.le_trans sz_0_7 K17.1)
  obtain ⟨_, T20, L20, X20, hQ20, st20⟩ := own_static X17 hx hZ17 hown17 (w94 hw) (w95 hw) (w2 hw) (w96 hw) (by decide) (r_same l Z a0 hw [] p0 p1 T17.heap n0 (Nat.le_trans Z0 sz_0_8)) rfl (W := 0) (by decide) (g := (mkF m 128 #[vi p0, vi p1, vi p2, vi p3, vi p4, vi p5, vr s1_1, vr s1_3, vr s1_6, vr s1_9, vr b12, vr b16, vi 0, .unset] [(.int p1), (.int p0)])) rfl (by rw [hml]; rfl) (argsL := [(.int p0), (.int p1)]) (rest := []) (lenOf pd_16 rfl) rfl rfl (own_wr rfl rfl) (hb hby at_128)
  obtain ⟨rfl, N20q, e20⟩ := hQ20
  have N20 := Fr.app N17 N20q
  have f22 := (kExa K17 A16)
  have lt_b12 : b12 < h12.size := Exa.lt A12
  have f23 := (kFld K17 (kFld K16 Q13_2 nw0) (nwM 3 rfl (lt_ne (Nat.lt_of_lt_of_le lt_b12 K13.1) ge_b16) nw0))
  have f24 := (kFld K17 (kFld K16 Q13_0 nw0) (nwM 3 rfl (lt_ne (Nat.lt_of_lt_of_le lt_b12 K13.1) ge_b16) nw0))
  have f25 := (kExa K17 (kExa K16 (kExa K13 f14)))
  have f26 := (kExa K17 f18)
  have lt_s1_1 : s1_1 < T1.heap.size := Exa.lt Q1_2
  have sz_1_3 := (Nat.le_trans K3.1 K6.1)
  have sz_1_4 := (Nat.le_trans sz_1_3 K9.1)
  have sz_1_5 := (Nat.le_trans sz_1_4 K12.1)
  have sz_1_6 := (Nat.le_trans sz_1_5 K13.1)
  have f27 := (kFld K17 (kFld K16 (kFld K13 (kFld K12 (kFld K9 (kFld K6 (kFld K3 Q1_3 nw0) nw0) nw0) nw0) (nwM 3 rfl (lt_ne (Nat.lt_of_lt_of_le lt_s1_1 sz_1_4) ge_b12) nw0)) nw0) (nwM 3 rfl (lt_ne (Nat.lt_of_lt_of_le lt_s1_1 sz_1_6) ge_b16) nw0))
  have lt_s1_3 : s1_3 < T3.heap.size := Exa.lt Q3_2
  have sz_2_4 := (Nat.le_trans K6.1 K9.1)
  have sz_2_5 := (Nat.le_trans sz_2_4 K12.1)
  have sz_2_6 := (Nat.le_trans sz_2_5 K13.1)
  have f28 := (kFld K17 (kFld K16 (kFld K13 (kFld K12 (kFld K9 (kFld K6 Q3_3 nw0) nw0) nw0) (nwM 3 rfl (lt_ne (Nat.lt_of_lt_of_le lt_s1_3 sz_2_4) ge_b12) nw0)) nw0) (nwM 3 rfl (lt_ne (Nat.lt_of_lt_of_le lt_s1_3 sz_2_6) ge_b16) nw0))
  have f29 := (kFld K17 (kFld K16 (kFld K13 (kFld K12 (kFld K9 (kFld K6 (kFld K3 Q1_4 nw0) nw0) nw0) nw0) (nwM 3 rfl (lt_ne (Nat.lt_of_lt_of_le lt_s1_1 sz_1_4) ge_b12) nw0)) nw0) (nwM 3 rfl (lt_ne (Nat.lt_of_lt_of_le lt_s1_1 sz_1_6) ge_b16) nw0))
  have f30 := (kFld K17 (kFld K16 (kFld K13 (kFld K12 (kFld K9 (kFld K6 Q3_4 nw0) nw0) nw0) (nwM 3 rfl (lt_ne (Nat.lt_of_lt_of_le lt_s1_3 sz_2_4) ge_b12) nw0)) nw0) (nwM 3 rfl (lt_ne (Nat.lt_of_lt_of_le lt_s1_3 sz_2_6) ge_b16) nw0))
  have f31 := (kArv K17 (kArv K16 (kArv K13 (kArv K12 (kArv K9 (kArv K6 (kArv K3 Q1_5 na0) na0) na0) na0) (naNM 3 rfl (Ne.symm (lt_ne (Nat.lt_of_lt_of_le Q1_1 sz_1_4) ge_b12)) na0)) na0) (naNM 3 rfl (Ne.symm (lt_ne (Nat.lt_of_lt_of_le Q1_1 sz_1_6) ge_b16)) na0))
  have f32 := (kArv K17 (kArv K16 (kArv K13 (kArv K12 (kArv K9 (kArv K6 Q3_5 na0) na0) na0) (naNM 3 rfl (Ne.symm (lt_ne (Nat.lt_of_lt_of_le Q3_1 sz_2_4) ge_b12)) na0)) na0) (naNM 3 rfl (Ne.symm (lt_ne (Nat.lt_of_lt_of_le Q3_1 sz_2_6) ge_b16)) na0))
  have f33 := (kOld K17 (kOld K16 (kOld K13 (kOld K12 (kOld K9 f10 na0) na0) (naGM 3 rfl (Nat.le_trans Z0 (Nat.le_trans sz_0_4 ge_b12)) na0)) na0) (naGM 3 rfl (Nat.le_trans Z0 (Nat.le_trans sz_0_6 ge_b16)) na0))
  have f34 := (kExa K17 (kExa K16 (kExa K13 A12)))
  obtain ⟨_, T21, L21, X21, hQ21, st21⟩ := own_virtual X20 hx hZ17 hown17 (w80 hw) (w81 hw) (notFace_of_selects (args := #[]) (mvT hZ17 (w83 hw))) (w83 hw) (w82 hw) (w62 hw) (w84 hw) (by decide) (r34_equals l Z a0 hw [] b12 b16 p4 p5 s1_1 s1_3 cs b1_1 b1_3 p0 k1_1 p1 k1_3 T17.heap n0 (Nat.le_trans Z0 sz_0_8) f22 f23 Q17_2 hrel f24 Q17_0 f25 f26 S_COMPACT_STRINGS f27 f28 f29 f30 f31 f32 hcs (lt_ne lt_s1_1 Q3_0) f33 hab) e20 f34 (W := 0) (by decide) (g := (mkF m 153 #[vi p0, vi p1, vi p2, vi p3, vi p4, vi p5, vr s1_1, vr s1_3, vr s1_6, vr s1_9, vr b12, vr b16, vi 0, vi 0] [(.ref b16), (.ref b12)])) rfl (by rw [hml]; rfl) (argsL := [(.ref b16)]) (rest := []) (lenOf pd_15 rfl) rfl rfl (own_wr rfl rfl) (hb hby at_153)
  obtain ⟨rfl, N21q, e21⟩ := hQ21
  have N21 := Fr.app N20 N21q
  obtain ⟨_, T35, L35, X35, hQ35, st35⟩ := own_virtual X21 hx hZ17 hown17 (w80 hw) (w81 hw) (notFace_of_selects (args := #[]) (mvT hZ17 (w83 hw))) (w83 hw) (w82 hw) (w62 hw) (w84 hw) (by decide) (r34_equals l Z a0 hw [] b16 b12 p5 p4 s1_3 s1_1 cs b1_3 b1_1 p1 k1_3 p0 k1_1 T17.heap n0 (Nat.le_trans Z0 sz_0_8) f34 Q17_2 f23 (Eq.symm hrel) Q17_0 f24 f26 f25 S_COMPACT_STRINGS f28 f27 f30 f29 f32 f31 hcs (Ne.symm (lt_ne lt_s1_1 Q3_0)) f33 (own_cme hab)) e21 f22 (W := 0) (by decide) (g := (mkF m 165 #[vi p0, vi p1, vi p2, vi p3, vi p4, vi p5, vr s1_1, vr s1_3, vr s1_6, vr s1_9, vr b12, vr b16, vi 0, vi 0] [(.ref b12), (.ref b16)])) rfl (by rw [hml]; rfl) (argsL := [(.ref b12)]) (rest := []) (lenOf pd_15 rfl) rfl rfl (own_wr rfl rfl) (hb hby at_165)
  obtain ⟨rfl, N35q, e35⟩ := hQ35
  have N35 := Fr.app N21 N35q
  refine ⟨T35, _, some (.int 1), _, _, X35, hS17, (by rw [e35]; exact hk17), (fun h => by cases h <;> rfl), ?_, (by rw [e35]; exact Ah8), hZ17, fun fs hr => ?_⟩
  · show Q_law n0 _ _
    exact ⟨rfl, N35⟩
  · refine t_iloadN 1 X0.here hx (hb hby at_0) rfl rfl ?_
    refine st1 _ ?_
    refine t_astore (pc' := 6) (L' := #[vi p0, vi p1, vi p2, vi p3, vi p4, vi p5, vr s1_1, .unset, .unset, .unset, .unset, .unset, .unset, .unset]) X1.here hx (hb hby at_4) rfl rfl rfl ?_
    refine t_iloadN 7 X1.here hx (hb hby at_6) rfl rfl ?_
    refine st3 _ ?_
    refine t_astore (pc' := 12) (L' := #[vi p0, vi p1, vi p2, vi p3, vi p4, vi p5, vr s1_1, vr s1_3, .unset, .unset, .unset, .unset, .unset, .unset]) X3.here hx (hb hby at_10) rfl rfl rfl ?_
    refine t_iloadN 13 X3.here hx (hb hby at_12) rfl rfl ?_
    refine st6 _ ?_
    refine t_astore (pc' := 18) (L' := #[vi p0, vi p1, vi p2, vi p3, vi p4, vi p5, vr s1_1, vr s1_3, vr s1_6, .unset, .unset, .unset, .unset, .unset]) X6.here hx (hb hby at_16) rfl rfl rfl ?_
    refine t_iloadN 19 X6.here hx (hb hby at_18) rfl rfl ?_
    refine st9 _ ?_
    refine t_astore (pc' := 24) (L' := #[vi p0, vi p1, vi p2, vi p3, vi p4, vi p5, vr s1_1, vr s1_3, vr s1_6, vr s1_9, .unset, .unset, .unset, .unset]) X9.here hx (hb hby at_22) rfl rfl rfl ?_
    refine st12 _ ?_
    refine t_dup 28 X12.here hx (hb hby at_27) rfl rfl ?_
    refine t_aload 30 X12.here hx (hb hby at_28) rfl rfl rfl ?_
    refine t_aload 32 X12.here hx (hb hby at_30) rfl rfl rfl ?_
    refine t_iload 34 X12.here hx (hb hby at_32) rfl rfl ?_
    refine st13 _ ?_
    refine t_astore (pc' := 39) (L' := #[vi p0, vi p1, vi p2, vi p3, vi p4, vi p5, vr s1_1, vr s1_3, vr s1_6, vr s1_9, vr b12, .unset, .unset, .unset]) X13.here hx (hb hby at_37) rfl rfl rfl ?_
    refine st16 _ ?_
    refine t_dup 43 X16.here hx (hb hby at_42) rfl rfl ?_
    refine t_aload 45 X16.here hx (hb hby at_43) rfl rfl rfl ?_
    refine t_aload 47 X16.here hx (hb hby at_45) rfl rfl rfl ?_
    refine t_iload 49 X16.here hx (hb hby at_47) rfl rfl ?_
    refine st17 _ ?_
    refine t_astore (pc' := 54) (L' := #[vi p0, vi p1, vi p2, vi p3, vi p4, vi p5, vr s1_1, vr s1_3, vr s1_6, vr s1_9, vr b12, vr b16, .unset, .unset]) X17.here hx (hb hby at_52) rfl rfl rfl ?_
    refine t_iloadN 55 X17.here hx (hb hby at_54) rfl rfl ?_
    refine t_bipush 57 (r := 28) X17.here hx (hb hby at_55) (by decide) rfl ?_
    refine t_iushr 58 (r := (own_u28 p0)) X17.here hx (hb hby at_57) (Eq.refl (own_u28 p0)) rfl ?_
    refine t_iconst 59 (r := 3) X17.here hx (hb hby at_58) (by decide) rfl ?_
    refine t_iand 60 (r := 0) X17.here hx (hb hby at_59) hm rfl ?_
    refine t_istore (pc' := 62) (L' := #[vi p0, vi p1, vi p2, vi p3, vi p4, vi p5, vr s1_1, vr s1_3, vr s1_6, vr s1_9, vr b12, vr b16, vi 0, .unset]) X17.here hx (hb hby at_60) rfl rfl ?_
    refine t_iload 64 X17.here hx (hb hby at_62) rfl rfl ?_
    refine t_iconst 65 (r := 1) X17.here hx (hb hby at_64) (by decide) rfl ?_
    refine t_icmpYes (pc := 65) 83 X17.here hx (hb hby at_65) (by decide) (by decide) (by decide) ?_
    refine t_iload 85 X17.here hx (hb hby at_83) rfl rfl ?_
    refine t_iconst 86 (r := 2) X17.here hx (hb hby at_85) (by decide) rfl ?_
    refine t_icmpYes (pc := 86) 105 X17.here hx (hb hby at_86) (by decide) (by decide) (by decide) ?_
    refine t_iload 107 X17.here hx (hb hby at_105) rfl rfl ?_
    refine t_iconst 108 (r := 3) X17.here hx (hb hby at_107) (by decide) rfl ?_
    refine t_icmpYes (pc := 108) 119 X17.here hx (hb hby at_108) (by decide) (by decide) (by decide) ?_
    refine t_iload 121 X17.here hx (hb hby at_119) rfl rfl ?_
    refine t_iload 123 X17.here hx (hb hby at_121) rfl rfl ?_
    refine t_icmpNo 126 X17.here hx (hb hby at_123) (teq hrel).2 rfl ?_
    refine t_iloadN 127 X17.here hx (hb hby at_126) rfl rfl ?_
    refine t_iloadN 128 X17.here hx (hb hby at_127) rfl rfl ?_
    refine st20 _ ?_
    refine t_ifYes (pc := 131) 146 X20.here hx (hb hby at_131) ((if0 _ _).trans (teq hab).1) (by decide) (by decide) ?_
    refine t_iconst 147 (r := 0) X20.here hx (hb hby at_146) (by decide) rfl ?_
    refine t_istore (pc' := 149) (L' := #[vi p0, vi p1, vi p2, vi p3, vi p4, vi p5, vr s1_1, vr s1_3, vr s1_6, vr s1_9, vr b12, vr b16, vi 0, vi 0]) X20.here hx (hb hby at_147) rfl rfl ?_
    refine t_aload 151 X20.here hx (hb hby at_149) rfl rfl rfl ?_
    refine t_aload 153 X20.here hx (hb hby at_151) rfl rfl rfl ?_
    refine st21 _ ?_
    refine t_iload 158 X21.here hx (hb hby at_156) rfl rfl ?_
    refine t_icmpNo 161 X21.here hx (hb hby at_158) (by decide) rfl ?_
    refine t_aload 163 X21.here hx (hb hby at_161) rfl rfl rfl ?_
    refine t_aload 165 X21.here hx (hb hby at_163) rfl rfl rfl ?_
    refine st35 _ ?_
    refine t_iload 170 X35.here hx (hb hby at_168) rfl rfl ?_
    refine t_icmpNo 173 X35.here hx (hb hby at_170) (by decide) rfl ?_
    refine t_iconst 174 (r := 1) X35.here hx (hb hby at_173) (by decide) rfl ?_
    refine t_goto (pc := 174) 178 X35.here hx (hb hby at_174) (by decide) (by decide) ?_
    exact retN X35 hx (t := .boolean) hret (by simp) (hb hby at_178) hr
def Q_r35_equals (Z : State) (o0 o1 : Addr) (i_3 i_5 : Int32) (o_7 o_9 : Addr) (i_11 : Int32) (o_12 o_13 : Addr) (i_14 : Int32) (k_o_12 : ClassId) (i_15 : Int32) (k_o_13 : ClassId) (o_17 o_19 o_21 o_22 : Addr) (i_23 : Int32) (k_o_21 : ClassId) (i_24 : Int32) (k_o_22 : ClassId) (h0 : Heap) (n0 : Nat) (v : Option Value) (h : Heap) (L : List Loc) : Prop := v = some z0 ∧ Fr n0 L ∧ h = h0
theorem ef_r35_equals (o0 o1 : Addr) (m : MethodId) : entryFrame m #[(.ref o0), (.ref o1)] 3 = mkF m 0 #[.val (.ref o0), .val (.ref o1), .unset] [] := by first | (simp [entryFrame, mkF, argsToLocals, Value.category]; done) | rfl
set_option maxRecDepth 65536 in
set_option maxHeartbeats 40000000 in
theorem r35_equals (l : Launch) (Z : State) (a0 : Array Value) (hw : HW Z a0) (ws : List Jvm.Cond) (o0 o1 : Addr) (i_3 i_5 : Int32) (o_7 o_9 : Addr) (i_11 : Int32) (o_12 o_13 : Addr) (i_14 : Int32) (k_o_12 : ClassId) (i_15 : Int32) (k_o_13 : ClassId) (o_17 o_19 o_21 o_22 : Addr) (i_23 : Int32) (k_o_21 : ClassId) (i_24 : Int32) (k_o_22 : ClassId) (h0 : Heap) (n0 : Nat) (Z0 : n0 ≤ h0.size) (E_o1 : Ex1 Z h0 o1) (F_o0_relevance : Fd4 Z h0 o0 (.int i_3)) (F_o1_relevance : Fd4 Z h0 o1 (.int i_5)) (hp0 : i_3 = i_5) (F_o0_request : Fd2 Z h0 o0 (.ref o_7)) (F_o1_request : Fd2 Z h0 o1 (.ref o_9)) (E_o_7 : Ex0 Z h0 o_7) (E_o_9 : Ex0 Z h0 o_9) (S_COMPACT_STRINGS : SCS Z i_11) (F_o_7_coder : Fd1 Z h0 o_7 z0) (F_o_9_coder : Fd1 Z h0 o_9 z0) (F_o_7_value : Fd0 Z h0 o_7 (.ref o_12)) (F_o_9_value : Fd0 Z h0 o_9 (.ref o_13)) (V_o_12 : Arv Z h0 o_12 k_o_12 .byte (own_ln i_14) (own_vs i_14) z0) (V_o_13 : Arv Z h0 o_13 k_o_13 .byte (own_ln i_15) (own_vs i_15) z0) (hp1 : ¬ (i_11 = (0 : Int32))) (ne_o_7_o_9 : o_7 ≠ o_9) (O0 : Old Z n0 h0) (hp2 : ¬ ((own_same i_14 i_15) = (0 : Int32))) (F_o0_record : Fd3 Z h0 o0 (.ref o_17)) (F_o1_record : Fd3 Z h0 o1 (.ref o_19)) (E_o_17 : Ex0 Z h0 o_17) (E_o_19 : Ex0 Z h0 o_19) (F_o_17_coder : Fd1 Z h0 o_17 z0) (F_o_19_coder : Fd1 Z h0 o_19 z0) (F_o_17_value : Fd0 Z h0 o_17 (.ref o_21)) (F_o_19_value : Fd0 Z h0 o_19 (.ref o_22)) (V_o_21 : Arv Z h0 o_21 k_o_21 .byte (own_ln i_23) (own_vs i_23) z0) (V_o_22 : Arv Z h0 o_22 k_o_22 .byte (own_ln i_24) (own_vs i_24) z0) (ne_o_17_o_19 : o_17 ≠ o_19) (hp3 : (own_same i_23 i_24) = (0 : Int32)) :
    MF l Z y18_equals b18_ 3 (some .boolean) ws ⟨4, 0, 0, 74⟩ #[(.ref o0), (.ref o1)] h0 (Q_r35_equals Z o0 o1 i_3 i_5 o_7 o_9 i_11 o_12 o_13 i_14 k_o_12 i_15 k_o_13 o_17 o_19 o_21 o_22 i_23 k_o_21 i_24 k_o_22 h0 n0) := by
  refine own_body (plainFor_of_name pn_Judgment86) (ef_r35_equals o0 o1) (by decide) (by decide) ?_
  intro p e s m below meth c s₁ hx hby hml hown hnm hret hZ hh e0 X0
  have N0 := Fr.nil n0
  obtain ⟨T1, X1, e1, st1⟩ := instY X0 hx hZ hown (w85 hw) e0 (Ins.self E_o1) (g := (mkF m 1 #[vr o0, vr o1, .unset] [(.ref o1)])) rfl rfl (hb hby d280)
  obtain ⟨T2, X2, e2, st2⟩ := castY X1 hx hZ hown (w85 hw) e1 (Ins.self E_o1) (g := (mkF m 8 #[vr o0, vr o1, .unset] [(.ref o1)])) rfl rfl (hb hby d285)
  obtain ⟨T4, X4, e4, st4⟩ := getF X2 hx hZ hown (host := "") (Or.inl (w78 hw)) Via.refl e2 F_o0_relevance (g := (mkF m 18 #[vr o0, vr o1, vr o1] [(.ref o0)])) rfl rfl (hb hby d289)
  obtain ⟨T6, X6, e6, st6⟩ := getF X4 hx hZ hown (host := "") (Or.inl (w78 hw)) Via.refl e4 F_o1_relevance (g := (mkF m 22 #[vr o0, vr o1, vr o1] [(.ref o1), (.int i_3)])) rfl rfl (hb hby d291)
  obtain ⟨T8, X8, e8, st8⟩ := getF X6 hx hZ hown (host := "") (Or.inl (w73 hw)) Via.refl e6 F_o0_request (g := (mkF m 29 #[vr o0, vr o1, vr o1] [(.ref o0)])) rfl rfl (hb hby d294)
  obtain ⟨T10, X10, e10, st10⟩ := getF X8 hx hZ hown (host := "") (Or.inl (w73 hw)) Via.refl e8 F_o1_request (g := (mkF m 33 #[vr o0, vr o1, vr o1] [(.ref o1), (.ref o_7)])) rfl rfl (hb hby d296)
  obtain ⟨_, T16, L16, X16, hQ16, st16⟩ := own_virtual X10 hx hZ hown (w87 hw) (w88 hw) (notFace_of_selects (args := #[]) (mvT hZ (w90 hw))) (w90 hw) (w89 hw) (w9 hw) (w91 hw) (by decide) (r_seq l Z a0 hw [] o_7 o_9 o_12 o_13 i_11 k_o_12 k_o_13 i_14 i_15 h0 n0 Z0 hp1 ne_o_7_o_9 E_o_9 S_COMPACT_STRINGS O0 F_o_7_coder F_o_9_coder F_o_7_value F_o_9_value V_o_12 V_o_13) e10 E_o_7 (W := 0) (by decide) (g := (mkF m 36 #[vr o0, vr o1, vr o1] [(.ref o_9), (.ref o_7)])) rfl (by rw [hml]; rfl) (argsL := [(.ref o_9)]) (rest := []) (lenOf pd_15 rfl) rfl rfl (own_wr rfl rfl) (hb hby d297)
  obtain ⟨rfl, N16q, e16⟩ := hQ16
  have N16 := Fr.app N0 N16q
  obtain ⟨T18, X18, e18, st18⟩ := getF X16 hx hZ hown (host := "") (Or.inl (w76 hw)) Via.refl e16 F_o0_record (g := (mkF m 43 #[vr o0, vr o1, vr o1] [(.ref o0)])) rfl rfl (hb hby d302)
  obtain ⟨T20, X20, e20, st20⟩ := getF X18 hx hZ hown (host := "") (Or.inl (w76 hw)) Via.refl e18 F_o1_record (g := (mkF m 47 #[vr o0, vr o1, vr o1] [(.ref o1), (.ref o_17)])) rfl rfl (hb hby d304)
  obtain ⟨_, T25, L25, X25, hQ25, st25⟩ := own_virtual X20 hx hZ hown (w87 hw) (w88 hw) (notFace_of_selects (args := #[]) (mvT hZ (w90 hw))) (w90 hw) (w89 hw) (w9 hw) (w91 hw) (by decide) (r_seq l Z a0 hw [] o_17 o_19 o_21 o_22 i_11 k_o_21 k_o_22 i_23 i_24 h0 n0 Z0 hp1 ne_o_17_o_19 E_o_19 S_COMPACT_STRINGS O0 F_o_17_coder F_o_19_coder F_o_17_value F_o_19_value V_o_21 V_o_22) e20 E_o_17 (W := 0) (by decide) (g := (mkF m 50 #[vr o0, vr o1, vr o1] [(.ref o_19), (.ref o_17)])) rfl (by rw [hml]; rfl) (argsL := [(.ref o_19)]) (rest := []) (lenOf pd_15 rfl) rfl rfl (own_wr rfl rfl) (hb hby d305)
  obtain ⟨rfl, N25q, e25⟩ := hQ25
  have N25 := Fr.app N16 N25q
  refine ⟨T25, _, some z0, X25, (fun h => by cases h <;> rfl), ?_, fun fs hr => ?_⟩
  · show Q_r35_equals Z o0 o1 i_3 i_5 o_7 o_9 i_11 o_12 o_13 i_14 k_o_12 i_15 k_o_13 o_17 o_19 o_21 o_22 i_23 k_o_21 i_24 k_o_22 h0 n0 _ T25.heap _
    rw [e25]
    exact ⟨rfl, N25, rfl⟩
  · refine t_aloadN 1 X0.here hx (hb hby d279) rfl rfl rfl ?_
    refine st1 _ ?_
    refine t_ifNo 7 X1.here hx (hb hby d281) (by decide) rfl ?_
    refine t_aloadN 8 X1.here hx (hb hby d284) rfl rfl rfl ?_
    refine st2 _ ?_
    refine t_astoreN (pc' := 12) (L' := #[vr o0, vr o1, vr o1]) X2.here hx (hb hby d286) rfl rfl rfl ?_
    refine t_goto (pc := 12) 17 X2.here hx (hb hby d287) (by decide) (by decide) ?_
    refine t_aloadN 18 X2.here hx (hb hby d288) rfl rfl rfl ?_
    refine st4 _ ?_
    refine t_aloadN 22 X4.here hx (hb hby d290) rfl rfl rfl ?_
    refine st6 _ ?_
    refine t_icmpNo 28 X6.here hx (hb hby d292) (teq hp0).2 rfl ?_
    refine t_aloadN 29 X6.here hx (hb hby d293) rfl rfl rfl ?_
    refine st8 _ ?_
    refine t_aloadN 33 X8.here hx (hb hby d295) rfl rfl rfl ?_
    refine st10 _ ?_
    refine st16 _ ?_
    refine t_ifNo 42 X16.here hx (hb hby d300) ((if0 _ _).trans (feq hp2).1) rfl ?_
    refine t_aloadN 43 X16.here hx (hb hby d301) rfl rfl rfl ?_
    refine st18 _ ?_
    refine t_aloadN 47 X18.here hx (hb hby d303) rfl rfl rfl ?_
    refine st20 _ ?_
    refine st25 _ ?_
    refine t_ifYes (pc := 53) 60 X25.here hx (hb hby d306) ((if0 _ _).trans (teq hp3).1) (by decide) (by decide) ?_
    refine t_iconst 61 (r := 0) X25.here hx (hb hby d310) (by decide) rfl ?_
    exact retN X25 hx (t := .boolean) hret (by simp) (hb hby d309) hr
theorem ef_law_c (p0 p1 p2 p3 p4 p5 : Int32) (m : MethodId) : entryFrame m #[(.int p0), (.int p1), (.int p2), (.int p3), (.int p4), (.int p5)] maxLocals = mkF m 0 #[.val (.int p0), .val (.int p1), .val (.int p2), .val (.int p3), .val (.int p4), .val (.int p5), .unset, .unset, .unset, .unset, .unset, .unset, .unset, .unset] [] := by first | (simp [entryFrame, mkF, argsToLocals, Value.category, maxLocals]; done) | rfl
set_option maxRecDepth 65536 in
set_option maxHeartbeats 40000000 in
theorem law_c (l : Launch) (Z : State) (a0 : Array Value) (hw : HW Z a0) (ws : List Jvm.Cond) (p0 p1 p2 p3 p4 p5 cs : Int32) (h0 : Heap) (n0 : Nat) (Z0 : n0 ≤ h0.size) (hrel : p4 = p5) (hab : ¬ ((own_same p0 p1) = (0 : Int32))) (hcd : (own_same p2 p3) = (0 : Int32)) (hcs : ¬ (cs = (0 : Int32))) (hm : ((own_u28 p0) &&& (3 : Int32)) = (0 : Int32)) (S_COMPACT_STRINGS : SCS Z cs) (O0 : Old Z n0 h0) :
    MetFree l x (head1 (Jvm.Cond.code x code maxLocals ret :: ws) room_1) (fun a U => a = #[(.int p0), (.int p1), (.int p2), (.int p3), (.int p4), (.int p5)] ∧ Z.Warmed39 U.vm ∧ U.heap = h0 ∧ CHv Z consts_1 U.vm h0 ∧ ∀ x ∈ ([] : List Addr), Safe Z consts_1 U.vm h0 x) (fun _ _ _ _ _ => True) (fun _ U o U' => ∃ v L, o = .returned v ∧ Q_law n0 v L ∧ CHr Z consts_1 U.vm U.heap U'.vm U'.heap ∧ ReturnedEndW U o U' L 48 3264) := by
  refine own_bodyH (k := 34) (n := 174) (y := x) (Q := fun v _ L => Q_law n0 v L) (own_EW hw) (plainFor_of_name pn_JudgmentEqualsPinLaw295) (ef_law_c p0 p1 p2 p3 p4 p5) (by decide) (by decide) ?_
  intro p e s m below meth c s₁ hx hby hml hown hnm hret hZ e0 hS0 hk0 X0 hC0 hSF0
  have N0 := Fr.nil n0
  obtain ⟨_, T1, L1, X1, hS1, hk1, hZ1, hown1, hQ1, hC1, st1⟩ := own_Hstatic X0 hx hZ hown (w0 hw) (w1 hw) (w2 hw) (w3 hw) (by decide) (r_str l Z a0 hw [] p0 cs h0 n0 Z0 hcs S_COMPACT_STRINGS O0) e0 (W := 0) (by decide) (g := (mkF m 1 #[vi p0, vi p1, vi p2, vi p3, vi p4, vi p5, .unset, .unset, .unset, .unset, .unset, .unset, .unset, .unset] [(.int p0)])) rfl (by rw [hml]; rfl) (argsL := [(.int p0)]) (rest := []) (lenOf pd_12 rfl) rfl rfl (own_wr rfl rfl) (hb hby at_1) hS0 hk0 (own_EW hw) (CHr.refl hC0).1 sf0
  obtain ⟨s1_1, b1_1, k1_1, rfl, N1q, K1, Q1_0, Q1_1, Q1_2, Q1_3, Q1_4, Q1_5⟩ := hQ1
  have N1 := Fr.app N0 N1q
  have Ah1 := (CHr.refl hC0).trans hC1
  have f4 := (kOld K1 O0 na0)
  obtain ⟨_, T3, L3, X3, hS3, hk3, hZ3, hown3, hQ3, hC3, st3⟩ := own_Hstatic X1 hx hZ1 hown1 (w0 hw) (w1 hw) (w2 hw) (w3 hw) (by decide) (r_str l Z a0 hw [] p1 cs T1.heap n0 (Nat.le_trans Z0 K1.1) hcs S_COMPACT_STRINGS f4) rfl (W := 0) (by decide) (g := (mkF m 7 #[vi p0, vi p1, vi p2, vi p3, vi p4, vi p5, vr s1_1, .unset, .unset, .unset, .unset, .unset, .unset, .unset] [(.int p1)])) rfl (by rw [hml]; rfl) (argsL := [(.int p1)]) (rest := []) (lenOf pd_12 rfl) rfl rfl (own_wr rfl rfl) (hb hby at_7) hS1 hk1 (own_EW hw) Ah1.1 sf0
  obtain ⟨s1_3, b1_3, k1_3, rfl, N3q, K3, Q3_0, Q3_1, Q3_2, Q3_3, Q3_4, Q3_5⟩ := hQ3
  have N3 := Fr.app N1 N3q
  have Ah2 := Ah1.trans hC3
  have f7 := (kOld K3 f4 na0)
  have sz_0_2 := (Nat.le_trans K1.1 K3.1)
  obtain ⟨_, T6, L6, X6, hS6, hk6, hZ6, hown6, hQ6, hC6, st6⟩ := own_Hstatic X3 hx hZ3 hown3 (w0 hw) (w1 hw) (w2 hw) (w3 hw) (by decide) (r_str l Z a0 hw [] p2 cs T3.heap n0 (Nat.le_trans Z0 sz_0_2) hcs S_COMPACT_STRINGS f7) rfl (W := 0) (by decide) (g := (mkF m 13 #[vi p0, vi p1, vi p2, vi p3, vi p4, vi p5, vr s1_1, vr s1_3, .unset, .unset, .unset, .unset, .unset, .unset] [(.int p2)])) rfl (by rw [hml]; rfl) (argsL := [(.int p2)]) (rest := []) (lenOf pd_12 rfl) rfl rfl (own_wr rfl rfl) (hb hby at_13) hS3 hk3 (own_EW hw) Ah2.1 sf0
  obtain ⟨s1_6, b1_6, k1_6, rfl, N6q, K6, Q6_0, Q6_1, Q6_2, Q6_3, Q6_4, Q6_5⟩ := hQ6
  have N6 := Fr.app N3 N6q
  have Ah3 := Ah2.trans hC6
  have f10 := (kOld K6 f7 na0)
  have sz_0_3 := (Nat.le_trans sz_0_2 K6.1)
  obtain ⟨_, T9, L9, X9, hS9, hk9, hZ9, hown9, hQ9, hC9, st9⟩ := own_Hstatic X6 hx hZ6 hown6 (w0 hw) (w1 hw) (w2 hw) (w3 hw) (by decide) (r_str l Z a0 hw [] p3 cs T6.heap n0 (Nat.le_trans Z0 sz_0_3) hcs S_COMPACT_STRINGS f10) rfl (W := 0) (by decide) (g := (mkF m 19 #[vi p0, vi p1, vi p2, vi p3, vi p4, vi p5, vr s1_1, vr s1_3, vr s1_6, .unset, .unset, .unset, .unset, .unset] [(.int p3)])) rfl (by rw [hml]; rfl) (argsL := [(.int p3)]) (rest := []) (lenOf pd_12 rfl) rfl rfl (own_wr rfl rfl) (hb hby at_19) hS6 hk6 (own_EW hw) Ah3.1 sf0
  obtain ⟨s1_9, b1_9, k1_9, rfl, N9q, K9, Q9_0, Q9_1, Q9_2, Q9_3, Q9_4, Q9_5⟩ := hQ9
  have N9 := Fr.app N6 N9q
  have Ah4 := Ah3.trans hC9
  obtain ⟨T12, h12, X12, e12, E12, A12, D12, -, st12⟩ := newO X9 hx hZ9 hown9 (w60 hw) (w61 hw) (w62 hw) rfl (g := (mkF m 24 #[vi p0, vi p1, vi p2, vi p3, vi p4, vi p5, vr s1_1, vr s1_3, vr s1_6, vr s1_9, .unset, .unset, .unset, .unset] [])) rfl (hb hby at_24) (by decide) (by decide)
  obtain ⟨b12, g12⟩ : ∃ z, z = T9.heap.size := ⟨_, rfl⟩
  rw [← g12] at A12 D12 st12
  have ge_b12 : T9.heap.size ≤ b12 := Nat.le_of_eq g12.symm
  have K12 := KL.ofE E12
  have Ck4 := own_chK K12 na0 Ah4.1
  have Ah5 := Ah4.trans Ck4.1
  have F_b12_request : Fd2 Z h12 b12 .null := D12 (Or.inr (w74 hw)) (ty := (.object "java/lang/String")) (by decide)
  have F_b12_record : Fd3 Z h12 b12 .null := D12 (Or.inr (w77 hw)) (ty := (.object "java/lang/String")) (by decide)
  have F_b12_relevance : Fd4 Z h12 b12 z0 := D12 (Or.inr (w79 hw)) (ty := .int) (by decide)
  have f14 := (kExa K12 (kExa K9 (kExa K6 (kExa K3 Q1_2))))
  have sz_0_4 := (Nat.le_trans sz_0_3 K9.1)
  have f15 := (kExa K12 (kExa K9 Q6_2))
  have sz_0_5 := (Nat.le_trans sz_0_4 K12.1)
  obtain ⟨_, T13, L13, X13, hS13, hk13, hZ13, hown13, hQ13, hC13, st13⟩ := own_Hinit X12 hx hZ9 rfl hown9 (w63 hw) (w64 hw) (w62 hw) (w65 hw) (by decide) (r27__init_ l Z a0 hw [] b12 s1_1 s1_6 p4 h12 n0 (Nat.le_trans Z0 sz_0_5) f14 F_b12_request A12 (Nat.le_trans Z0 (Nat.le_trans sz_0_4 ge_b12)) f15 F_b12_record F_b12_relevance) e12 (W := 1) (by decide) (g := (mkF m 34 #[vi p0, vi p1, vi p2, vi p3, vi p4, vi p5, vr s1_1, vr s1_3, vr s1_6, vr s1_9, .unset, .unset, .unset, .unset] [(.int p4), (.ref s1_6), (.ref s1_1), (.ref b12), (.ref b12)])) rfl (by rw [hml]; rfl) (argsL := [(.ref s1_1), (.ref s1_6), (.int p4)]) (rest := [(.ref b12)]) (lenOf pd_14 rfl) rfl rfl (own_wr rfl rfl) (hb hby at_34) hS9 (Nat.le_trans hk9 K12.1) (own_EW hw) Ah5.1 sf0
  obtain ⟨rfl, N13q, K13, Q13_0, Q13_1, Q13_2⟩ := hQ13
  have N13 := Fr.app N9 N13q
  have Ah6 := Ah5.trans hC13
  obtain ⟨T16, h16, X16, e16, E16, A16, D16, -, st16⟩ := newO X13 hx hZ13 hown13 (w60 hw) (w61 hw) (w62 hw) rfl (g := (mkF m 39 #[vi p0, vi p1, vi p2, vi p3, vi p4, vi p5, vr s1_1, vr s1_3, vr s1_6, vr s1_9, vr b12, .unset, .unset, .unset] [])) rfl (hb hby at_39) (by decide) (by decide)
  obtain ⟨b16, g16⟩ : ∃ z, z = T13.heap.size := ⟨_, rfl⟩
  rw [← g16] at A16 D16 st16
  have ge_b16 : T13.heap.size ≤ b16 := Nat.le_of_eq g16.symm
  have K16 := KL.ofE E16
  have Ck6 := own_chK K16 na0 Ah6.1
  have Ah7 := Ah6.trans Ck6.1
  have F_b16_request : Fd2 Z h16 b16 .null := D16 (Or.inr (w74 hw)) (ty := (.object "java/lang/String")) (by decide)
  have F_b16_record : Fd3 Z h16 b16 .null := D16 (Or.inr (w77 hw)) (ty := (.object "java/lang/String")) (by decide)
  have F_b16_relevance : Fd4 Z h16 b16 z0 := D16 (Or.inr (w79 hw)) (ty := .int) (by decide)
  have f18 := (kExa K16 (kExa K13 (kExa K12 (kExa K9 (kExa K6 Q3_2)))))
  have sz_0_6 := (Nat.le_trans sz_0_5 K13.1)
  have f19 := (kExa K16 (kExa K13 (kExa K12 Q9_2)))
  have sz_0_7 := (Nat.le_trans sz_0_6 K16.1)
  obtain ⟨_, T17, L17, X17, hS17, hk17, hZ17, hown17, hQ17, hC17, st17⟩ := own_Hinit X16 hx hZ13 rfl hown13 (w63 hw) (w64 hw) (w62 hw) (w65 hw) (by decide) (r27__init_ l Z a0 hw [] b16 s1_3 s1_9 p5 h16 n0 (Nat.le_trans Z0 sz_0_7) f18 F_b16_request A16 (Nat.le_trans Z0 (Nat.le_trans sz_0_6 ge_b16)) f19 F_b16_record F_b16_relevance) e16 (W := 1) (by decide) (g := (mkF m 49 #[vi p0, vi p1, vi p2, vi p3, vi p4, vi p5, vr s1_1, vr s1_3, vr s1_6, vr s1_9, vr b12, .unset, .unset, .unset] [(.int p5), (.ref s1_9), (.ref s1_3), (.ref b16), (.ref b16)])) rfl (by rw [hml]; rfl) (argsL := [(.ref s1_3), (.ref s1_9), (.int p5)]) (rest := [(.ref b16)]) (lenOf pd_14 rfl) rfl rfl (own_wr rfl rfl) (hb hby at_49) hS13 (Nat.le_trans hk13 K16.1) (own_EW hw) Ah7.1 sf0
  obtain ⟨rfl, N17q, K17, Q17_0, Q17_1, Q17_2⟩ := hQ17
  have N17 := Fr.app N13 N17q
  have Ah8 := Ah7.trans hC17
  have sz_0_8 := (Nat.le_trans sz_0_7 K17.1)
  obtain ⟨_, T20, L20, X20, hQ20, st20⟩ := own_static X17 hx hZ17 hown17 (w94 hw) (w95 hw) (w2 hw) (w96 hw) (by decide) (r_same l Z a0 hw [] p0 p1 T17.heap n0 (Nat.le_trans Z0 sz_0_8)) rfl (W := 0) (by decide) (g := (mkF m 128 #[vi p0, vi p1, vi p2, vi p3, vi p4, vi p5, vr s1_1, vr s1_3, vr s1_6, vr s1_9, vr b12, vr b16, vi 0, .unset] [(.int p1), (.int p0)])) rfl (by rw [hml]; rfl) (argsL := [(.int p0), (.int p1)]) (rest := []) (lenOf pd_16 rfl) rfl rfl (own_wr rfl rfl) (hb hby at_128)
  obtain ⟨rfl, N20q, e20⟩ := hQ20
  have N20 := Fr.app N17 N20q
  obtain ⟨_, T21, L21, X21, hQ21, st21⟩ := own_static X20 hx hZ17 hown17 (w94 hw) (w95 hw) (w2 hw) (w96 hw) (by decide) (r_same l Z a0 hw [] p2 p3 T17.heap n0 (Nat.le_trans Z0 sz_0_8)) e20 (W := 0) (by decide) (g := (mkF m 136 #[vi p0, vi p1, vi p2, vi p3, vi p4, vi p5, vr s1_1, vr s1_3, vr s1_6, vr s1_9, vr b12, vr b16, vi 0, .unset] [(.int p3), (.int p2)])) rfl (by rw [hml]; rfl) (argsL := [(.int p2), (.int p3)]) (rest := []) (lenOf pd_16 rfl) rfl rfl (own_wr rfl rfl) (hb hby at_136)
  obtain ⟨rfl, N21q, e21⟩ := hQ21
  have N21 := Fr.app N20 N21q
  have f23 := (kExa K17 A16)
  have lt_b12 : b12 < h12.size := Exa.lt A12
  have f24 := (kFld K17 (kFld K16 Q13_2 nw0) (nwM 3 rfl (lt_ne (Nat.lt_of_lt_of_le lt_b12 K13.1) ge_b16) nw0))
  have f25 := (kFld K17 (kFld K16 Q13_0 nw0) (nwM 3 rfl (lt_ne (Nat.lt_of_lt_of_le lt_b12 K13.1) ge_b16) nw0))
  have f26 := (kExa K17 (kExa K16 (kExa K13 f14)))
  have f27 := (kExa K17 f18)
  have lt_s1_1 : s1_1 < T1.heap.size := Exa.lt Q1_2
  have sz_1_3 := (Nat.le_trans K3.1 K6.1)
  have sz_1_4 := (Nat.le_trans sz_1_3 K9.1)
  have sz_1_5 := (Nat.le_trans sz_1_4 K12.1)
  have sz_1_6 := (Nat.le_trans sz_1_5 K13.1)
  have f28 := (kFld K17 (kFld K16 (kFld K13 (kFld K12 (kFld K9 (kFld K6 (kFld K3 Q1_3 nw0) nw0) nw0) nw0) (nwM 3 rfl (lt_ne (Nat.lt_of_lt_of_le lt_s1_1 sz_1_4) ge_b12) nw0)) nw0) (nwM 3 rfl (lt_ne (Nat.lt_of_lt_of_le lt_s1_1 sz_1_6) ge_b16) nw0))
  have lt_s1_3 : s1_3 < T3.heap.size := Exa.lt Q3_2
  have sz_2_4 := (Nat.le_trans K6.1 K9.1)
  have sz_2_5 := (Nat.le_trans sz_2_4 K12.1)
  have sz_2_6 := (Nat.le_trans sz_2_5 K13.1)
  have f29 := (kFld K17 (kFld K16 (kFld K13 (kFld K12 (kFld K9 (kFld K6 Q3_3 nw0) nw0) nw0) (nwM 3 rfl (lt_ne (Nat.lt_of_lt_of_le lt_s1_3 sz_2_4) ge_b12) nw0)) nw0) (nwM 3 rfl (lt_ne (Nat.lt_of_lt_of_le lt_s1_3 sz_2_6) ge_b16) nw0))
  have f30 := (kFld K17 (kFld K16 (kFld K13 (kFld K12 (kFld K9 (kFld K6 (kFld K3 Q1_4 nw0) nw0) nw0) nw0) (nwM 3 rfl (lt_ne (Nat.lt_of_lt_of_le lt_s1_1 sz_1_4) ge_b12) nw0)) nw0) (nwM 3 rfl (lt_ne (Nat.lt_of_lt_of_le lt_s1_1 sz_1_6) ge_b16) nw0))
  have f31 := (kFld K17 (kFld K16 (kFld K13 (kFld K12 (kFld K9 (kFld K6 Q3_4 nw0) nw0) nw0) (nwM 3 rfl (lt_ne (Nat.lt_of_lt_of_le lt_s1_3 sz_2_4) ge_b12) nw0)) nw0) (nwM 3 rfl (lt_ne (Nat.lt_of_lt_of_le lt_s1_3 sz_2_6) ge_b16) nw0))
  have f32 := (kArv K17 (kArv K16 (kArv K13 (kArv K12 (kArv K9 (kArv K6 (kArv K3 Q1_5 na0) na0) na0) na0) (naNM 3 rfl (Ne.symm (lt_ne (Nat.lt_of_lt_of_le Q1_1 sz_1_4) ge_b12)) na0)) na0) (naNM 3 rfl (Ne.symm (lt_ne (Nat.lt_of_lt_of_le Q1_1 sz_1_6) ge_b16)) na0))
  have f33 := (kArv K17 (kArv K16 (kArv K13 (kArv K12 (kArv K9 (kArv K6 Q3_5 na0) na0) na0) (naNM 3 rfl (Ne.symm (lt_ne (Nat.lt_of_lt_of_le Q3_1 sz_2_4) ge_b12)) na0)) na0) (naNM 3 rfl (Ne.symm (lt_ne (Nat.lt_of_lt_of_le Q3_1 sz_2_6) ge_b16)) na0))
  have f34 := (kOld K17 (kOld K16 (kOld K13 (kOld K12 (kOld K9 f10 na0) na0) (naGM 3 rfl (Nat.le_trans Z0 (Nat.le_trans sz_0_4 ge_b12)) na0)) na0) (naGM 3 rfl (Nat.le_trans Z0 (Nat.le_trans sz_0_6 ge_b16)) na0))
  have f35 := (kFld K17 (kFld K16 Q13_1 nw0) (nwM 3 rfl (lt_ne (Nat.lt_of_lt_of_le lt_b12 K13.1) ge_b16) nw0))
  have f36 := (kExa K17 (kExa K16 (kExa K13 f15)))
  have f37 := (kExa K17 f19)
  have lt_s1_6 : s1_6 < T6.heap.size := Exa.lt Q6_2
  have sz_3_5 := (Nat.le_trans K9.1 K12.1)
  have sz_3_6 := (Nat.le_trans sz_3_5 K13.1)
  have f38 := (kFld K17 (kFld K16 (kFld K13 (kFld K12 (kFld K9 Q6_3 nw0) nw0) (nwM 3 rfl (lt_ne (Nat.lt_of_lt_of_le lt_s1_6 K9.1) ge_b12) nw0)) nw0) (nwM 3 rfl (lt_ne (Nat.lt_of_lt_of_le lt_s1_6 sz_3_6) ge_b16) nw0))
  have lt_s1_9 : s1_9 < T9.heap.size := Exa.lt Q9_2
  have sz_4_6 := (Nat.le_trans K12.1 K13.1)
  have f39 := (kFld K17 (kFld K16 (kFld K13 (kFld K12 Q9_3 nw0) (nwM 3 rfl (lt_ne lt_s1_9 ge_b12) nw0)) nw0) (nwM 3 rfl (lt_ne (Nat.lt_of_lt_of_le lt_s1_9 sz_4_6) ge_b16) nw0))
  have f40 := (kFld K17 (kFld K16 (kFld K13 (kFld K12 (kFld K9 Q6_4 nw0) nw0) (nwM 3 rfl (lt_ne (Nat.lt_of_lt_of_le lt_s1_6 K9.1) ge_b12) nw0)) nw0) (nwM 3 rfl (lt_ne (Nat.lt_of_lt_of_le lt_s1_6 sz_3_6) ge_b16) nw0))
  have f41 := (kFld K17 (kFld K16 (kFld K13 (kFld K12 Q9_4 nw0) (nwM 3 rfl (lt_ne lt_s1_9 ge_b12) nw0)) nw0) (nwM 3 rfl (lt_ne (Nat.lt_of_lt_of_le lt_s1_9 sz_4_6) ge_b16) nw0))
  have f42 := (kArv K17 (kArv K16 (kArv K13 (kArv K12 (kArv K9 Q6_5 na0) na0) (naNM 3 rfl (Ne.symm (lt_ne (Nat.lt_of_lt_of_le Q6_1 K9.1) ge_b12)) na0)) na0) (naNM 3 rfl (Ne.symm (lt_ne (Nat.lt_of_lt_of_le Q6_1 sz_3_6) ge_b16)) na0))
  have f43 := (kArv K17 (kArv K16 (kArv K13 (kArv K12 Q9_5 na0) (naNM 3 rfl (Ne.symm (lt_ne Q9_1 ge_b12)) na0)) na0) (naNM 3 rfl (Ne.symm (lt_ne (Nat.lt_of_lt_of_le Q9_1 sz_4_6) ge_b16)) na0))
  have f44 := (kExa K17 (kExa K16 (kExa K13 A12)))
  obtain ⟨_, T22, L22, X22, hQ22, st22⟩ := own_virtual X21 hx hZ17 hown17 (w80 hw) (w81 hw) (notFace_of_selects (args := #[]) (mvT hZ17 (w83 hw))) (w83 hw) (w82 hw) (w62 hw) (w84 hw) (by decide) (r35_equals l Z a0 hw [] b12 b16 p4 p5 s1_1 s1_3 cs b1_1 b1_3 p0 k1_1 p1 k1_3 s1_6 s1_9 b1_6 b1_9 p2 k1_6 p3 k1_9 T17.heap n0 (Nat.le_trans Z0 sz_0_8) f23 f24 Q17_2 hrel f25 Q17_0 f26 f27 S_COMPACT_STRINGS f28 f29 f30 f31 f32 f33 hcs (lt_ne lt_s1_1 Q3_0) f34 hab f35 Q17_1 f36 f37 f38 f39 f40 f41 f42 f43 (lt_ne lt_s1_6 Q9_0) hcd) e21 f44 (W := 0) (by decide) (g := (mkF m 153 #[vi p0, vi p1, vi p2, vi p3, vi p4, vi p5, vr s1_1, vr s1_3, vr s1_6, vr s1_9, vr b12, vr b16, vi 0, vi 0] [(.ref b16), (.ref b12)])) rfl (by rw [hml]; rfl) (argsL := [(.ref b16)]) (rest := []) (lenOf pd_15 rfl) rfl rfl (own_wr rfl rfl) (hb hby at_153)
  obtain ⟨rfl, N22q, e22⟩ := hQ22
  have N22 := Fr.app N21 N22q
  obtain ⟨_, T45, L45, X45, hQ45, st45⟩ := own_virtual X22 hx hZ17 hown17 (w80 hw) (w81 hw) (notFace_of_selects (args := #[]) (mvT hZ17 (w83 hw))) (w83 hw) (w82 hw) (w62 hw) (w84 hw) (by decide) (r35_equals l Z a0 hw [] b16 b12 p5 p4 s1_3 s1_1 cs b1_3 b1_1 p1 k1_3 p0 k1_1 s1_9 s1_6 b1_9 b1_6 p3 k1_9 p2 k1_6 T17.heap n0 (Nat.le_trans Z0 sz_0_8) f44 Q17_2 f24 (Eq.symm hrel) Q17_0 f25 f27 f26 S_COMPACT_STRINGS f29 f28 f31 f30 f33 f32 hcs (Ne.symm (lt_ne lt_s1_1 Q3_0)) f34 (own_cmn hab) Q17_1 f35 f37 f36 f39 f38 f41 f40 f43 f42 (Ne.symm (lt_ne lt_s1_6 Q9_0)) (own_cme hcd)) e22 f23 (W := 0) (by decide) (g := (mkF m 165 #[vi p0, vi p1, vi p2, vi p3, vi p4, vi p5, vr s1_1, vr s1_3, vr s1_6, vr s1_9, vr b12, vr b16, vi 0, vi 0] [(.ref b12), (.ref b16)])) rfl (by rw [hml]; rfl) (argsL := [(.ref b12)]) (rest := []) (lenOf pd_15 rfl) rfl rfl (own_wr rfl rfl) (hb hby at_165)
  obtain ⟨rfl, N45q, e45⟩ := hQ45
  have N45 := Fr.app N22 N45q
  refine ⟨T45, _, some (.int 1), _, _, X45, hS17, (by rw [e45]; exact hk17), (fun h => by cases h <;> rfl), ?_, (by rw [e45]; exact Ah8), hZ17, fun fs hr => ?_⟩
  · show Q_law n0 _ _
    exact ⟨rfl, N45⟩
  · refine t_iloadN 1 X0.here hx (hb hby at_0) rfl rfl ?_
    refine st1 _ ?_
    refine t_astore (pc' := 6) (L' := #[vi p0, vi p1, vi p2, vi p3, vi p4, vi p5, vr s1_1, .unset, .unset, .unset, .unset, .unset, .unset, .unset]) X1.here hx (hb hby at_4) rfl rfl rfl ?_
    refine t_iloadN 7 X1.here hx (hb hby at_6) rfl rfl ?_
    refine st3 _ ?_
    refine t_astore (pc' := 12) (L' := #[vi p0, vi p1, vi p2, vi p3, vi p4, vi p5, vr s1_1, vr s1_3, .unset, .unset, .unset, .unset, .unset, .unset]) X3.here hx (hb hby at_10) rfl rfl rfl ?_
    refine t_iloadN 13 X3.here hx (hb hby at_12) rfl rfl ?_
    refine st6 _ ?_
    refine t_astore (pc' := 18) (L' := #[vi p0, vi p1, vi p2, vi p3, vi p4, vi p5, vr s1_1, vr s1_3, vr s1_6, .unset, .unset, .unset, .unset, .unset]) X6.here hx (hb hby at_16) rfl rfl rfl ?_
    refine t_iloadN 19 X6.here hx (hb hby at_18) rfl rfl ?_
    refine st9 _ ?_
    refine t_astore (pc' := 24) (L' := #[vi p0, vi p1, vi p2, vi p3, vi p4, vi p5, vr s1_1, vr s1_3, vr s1_6, vr s1_9, .unset, .unset, .unset, .unset]) X9.here hx (hb hby at_22) rfl rfl rfl ?_
    refine st12 _ ?_
    refine t_dup 28 X12.here hx (hb hby at_27) rfl rfl ?_
    refine t_aload 30 X12.here hx (hb hby at_28) rfl rfl rfl ?_
    refine t_aload 32 X12.here hx (hb hby at_30) rfl rfl rfl ?_
    refine t_iload 34 X12.here hx (hb hby at_32) rfl rfl ?_
    refine st13 _ ?_
    refine t_astore (pc' := 39) (L' := #[vi p0, vi p1, vi p2, vi p3, vi p4, vi p5, vr s1_1, vr s1_3, vr s1_6, vr s1_9, vr b12, .unset, .unset, .unset]) X13.here hx (hb hby at_37) rfl rfl rfl ?_
    refine st16 _ ?_
    refine t_dup 43 X16.here hx (hb hby at_42) rfl rfl ?_
    refine t_aload 45 X16.here hx (hb hby at_43) rfl rfl rfl ?_
    refine t_aload 47 X16.here hx (hb hby at_45) rfl rfl rfl ?_
    refine t_iload 49 X16.here hx (hb hby at_47) rfl rfl ?_
    refine st17 _ ?_
    refine t_astore (pc' := 54) (L' := #[vi p0, vi p1, vi p2, vi p3, vi p4, vi p5, vr s1_1, vr s1_3, vr s1_6, vr s1_9, vr b12, vr b16, .unset, .unset]) X17.here hx (hb hby at_52) rfl rfl rfl ?_
    refine t_iloadN 55 X17.here hx (hb hby at_54) rfl rfl ?_
    refine t_bipush 57 (r := 28) X17.here hx (hb hby at_55) (by decide) rfl ?_
    refine t_iushr 58 (r := (own_u28 p0)) X17.here hx (hb hby at_57) (Eq.refl (own_u28 p0)) rfl ?_
    refine t_iconst 59 (r := 3) X17.here hx (hb hby at_58) (by decide) rfl ?_
    refine t_iand 60 (r := 0) X17.here hx (hb hby at_59) hm rfl ?_
    refine t_istore (pc' := 62) (L' := #[vi p0, vi p1, vi p2, vi p3, vi p4, vi p5, vr s1_1, vr s1_3, vr s1_6, vr s1_9, vr b12, vr b16, vi 0, .unset]) X17.here hx (hb hby at_60) rfl rfl ?_
    refine t_iload 64 X17.here hx (hb hby at_62) rfl rfl ?_
    refine t_iconst 65 (r := 1) X17.here hx (hb hby at_64) (by decide) rfl ?_
    refine t_icmpYes (pc := 65) 83 X17.here hx (hb hby at_65) (by decide) (by decide) (by decide) ?_
    refine t_iload 85 X17.here hx (hb hby at_83) rfl rfl ?_
    refine t_iconst 86 (r := 2) X17.here hx (hb hby at_85) (by decide) rfl ?_
    refine t_icmpYes (pc := 86) 105 X17.here hx (hb hby at_86) (by decide) (by decide) (by decide) ?_
    refine t_iload 107 X17.here hx (hb hby at_105) rfl rfl ?_
    refine t_iconst 108 (r := 3) X17.here hx (hb hby at_107) (by decide) rfl ?_
    refine t_icmpYes (pc := 108) 119 X17.here hx (hb hby at_108) (by decide) (by decide) (by decide) ?_
    refine t_iload 121 X17.here hx (hb hby at_119) rfl rfl ?_
    refine t_iload 123 X17.here hx (hb hby at_121) rfl rfl ?_
    refine t_icmpNo 126 X17.here hx (hb hby at_123) (teq hrel).2 rfl ?_
    refine t_iloadN 127 X17.here hx (hb hby at_126) rfl rfl ?_
    refine t_iloadN 128 X17.here hx (hb hby at_127) rfl rfl ?_
    refine st20 _ ?_
    refine t_ifNo 134 X20.here hx (hb hby at_131) ((if0 _ _).trans (feq hab).1) rfl ?_
    refine t_iloadN 135 X20.here hx (hb hby at_134) rfl rfl ?_
    refine t_iloadN 136 X20.here hx (hb hby at_135) rfl rfl ?_
    refine st21 _ ?_
    refine t_ifYes (pc := 139) 146 X21.here hx (hb hby at_139) ((if0 _ _).trans (teq hcd).1) (by decide) (by decide) ?_
    refine t_iconst 147 (r := 0) X21.here hx (hb hby at_146) (by decide) rfl ?_
    refine t_istore (pc' := 149) (L' := #[vi p0, vi p1, vi p2, vi p3, vi p4, vi p5, vr s1_1, vr s1_3, vr s1_6, vr s1_9, vr b12, vr b16, vi 0, vi 0]) X21.here hx (hb hby at_147) rfl rfl ?_
    refine t_aload 151 X21.here hx (hb hby at_149) rfl rfl rfl ?_
    refine t_aload 153 X21.here hx (hb hby at_151) rfl rfl rfl ?_
    refine st22 _ ?_
    refine t_iload 158 X22.here hx (hb hby at_156) rfl rfl ?_
    refine t_icmpNo 161 X22.here hx (hb hby at_158) (by decide) rfl ?_
    refine t_aload 163 X22.here hx (hb hby at_161) rfl rfl rfl ?_
    refine t_aload 165 X22.here hx (hb hby at_163) rfl rfl rfl ?_
    refine st45 _ ?_
    refine t_iload 170 X45.here hx (hb hby at_168) rfl rfl ?_
    refine t_icmpNo 173 X45.here hx (hb hby at_170) (by decide) rfl ?_
    refine t_iconst 174 (r := 1) X45.here hx (hb hby at_173) (by decide) rfl ?_
    refine t_goto (pc := 174) 178 X45.here hx (hb hby at_174) (by decide) (by decide) ?_
    exact retN X45 hx (t := .boolean) hret (by simp) (hb hby at_178) hr
def Q_r36_equals (Z : State) (o0 o1 : Addr) (i_3 i_5 : Int32) (o_7 o_9 : Addr) (i_11 : Int32) (o_12 o_13 : Addr) (i_14 : Int32) (k_o_12 : ClassId) (i_15 : Int32) (k_o_13 : ClassId) (o_17 o_19 o_21 o_22 : Addr) (i_23 : Int32) (k_o_21 : ClassId) (i_24 : Int32) (k_o_22 : ClassId) (h0 : Heap) (n0 : Nat) (v : Option Value) (h : Heap) (L : List Loc) : Prop := v = some (.int 1) ∧ Fr n0 L ∧ h = h0
theorem ef_r36_equals (o0 o1 : Addr) (m : MethodId) : entryFrame m #[(.ref o0), (.ref o1)] 3 = mkF m 0 #[.val (.ref o0), .val (.ref o1), .unset] [] := by first | (simp [entryFrame, mkF, argsToLocals, Value.category]; done) | rfl
set_option maxRecDepth 65536 in
set_option maxHeartbeats 40000000 in
theorem r36_equals (l : Launch) (Z : State) (a0 : Array Value) (hw : HW Z a0) (ws : List Jvm.Cond) (o0 o1 : Addr) (i_3 i_5 : Int32) (o_7 o_9 : Addr) (i_11 : Int32) (o_12 o_13 : Addr) (i_14 : Int32) (k_o_12 : ClassId) (i_15 : Int32) (k_o_13 : ClassId) (o_17 o_19 o_21 o_22 : Addr) (i_23 : Int32) (k_o_21 : ClassId) (i_24 : Int32) (k_o_22 : ClassId) (h0 : Heap) (n0 : Nat) (Z0 : n0 ≤ h0.size) (E_o1 : Ex1 Z h0 o1) (F_o0_relevance : Fd4 Z h0 o0 (.int i_3)) (F_o1_relevance : Fd4 Z h0 o1 (.int i_5)) (hp0 : i_3 = i_5) (F_o0_request : Fd2 Z h0 o0 (.ref o_7)) (F_o1_request : Fd2 Z h0 o1 (.ref o_9)) (E_o_7 : Ex0 Z h0 o_7) (E_o_9 : Ex0 Z h0 o_9) (S_COMPACT_STRINGS : SCS Z i_11) (F_o_7_coder : Fd1 Z h0 o_7 z0) (F_o_9_coder : Fd1 Z h0 o_9 z0) (F_o_7_value : Fd0 Z h0 o_7 (.ref o_12)) (F_o_9_value : Fd0 Z h0 o_9 (.ref o_13)) (V_o_12 : Arv Z h0 o_12 k_o_12 .byte (own_ln i_14) (own_vs i_14) z0) (V_o_13 : Arv Z h0 o_13 k_o_13 .byte (own_ln i_15) (own_vs i_15) z0) (hp1 : ¬ (i_11 = (0 : Int32))) (ne_o_7_o_9 : o_7 ≠ o_9) (O0 : Old Z n0 h0) (hp2 : ¬ ((own_same i_14 i_15) = (0 : Int32))) (F_o0_record : Fd3 Z h0 o0 (.ref o_17)) (F_o1_record : Fd3 Z h0 o1 (.ref o_19)) (E_o_17 : Ex0 Z h0 o_17) (E_o_19 : Ex0 Z h0 o_19) (F_o_17_coder : Fd1 Z h0 o_17 z0) (F_o_19_coder : Fd1 Z h0 o_19 z0) (F_o_17_value : Fd0 Z h0 o_17 (.ref o_21)) (F_o_19_value : Fd0 Z h0 o_19 (.ref o_22)) (V_o_21 : Arv Z h0 o_21 k_o_21 .byte (own_ln i_23) (own_vs i_23) z0) (V_o_22 : Arv Z h0 o_22 k_o_22 .byte (own_ln i_24) (own_vs i_24) z0) (ne_o_17_o_19 : o_17 ≠ o_19) (hp3 : ¬ ((own_same i_23 i_24) = (0 : Int32))) :
    MF l Z y18_equals b18_ 3 (some .boolean) ws ⟨4, 0, 0, 74⟩ #[(.ref o0), (.ref o1)] h0 (Q_r36_equals Z o0 o1 i_3 i_5 o_7 o_9 i_11 o_12 o_13 i_14 k_o_12 i_15 k_o_13 o_17 o_19 o_21 o_22 i_23 k_o_21 i_24 k_o_22 h0 n0) := by
  refine own_body (plainFor_of_name pn_Judgment86) (ef_r36_equals o0 o1) (by decide) (by decide) ?_
  intro p e s m below meth c s₁ hx hby hml hown hnm hret hZ hh e0 X0
  have N0 := Fr.nil n0
  obtain ⟨T1, X1, e1, st1⟩ := instY X0 hx hZ hown (w85 hw) e0 (Ins.self E_o1) (g := (mkF m 1 #[vr o0, vr o1, .unset] [(.ref o1)])) rfl rfl (hb hby d280)
  obtain ⟨T2, X2, e2, st2⟩ := castY X1 hx hZ hown (w85 hw) e1 (Ins.self E_o1) (g := (mkF m 8 #[vr o0, vr o1, .unset] [(.ref o1)])) rfl rfl (hb hby d285)
  obtain ⟨T4, X4, e4, st4⟩ := getF X2 hx hZ hown (host := "") (Or.inl (w78 hw)) Via.refl e2 F_o0_relevance (g := (mkF m 18 #[vr o0, vr o1, vr o1] [(.ref o0)])) rfl rfl (hb hby d289)
  obtain ⟨T6, X6, e6, st6⟩ := getF X4 hx hZ hown (host := "") (Or.inl (w78 hw)) Via.refl e4 F_o1_relevance (g := (mkF m 22 #[vr o0, vr o1, vr o1] [(.ref o1), (.int i_3)])) rfl rfl (hb hby d291)
  obtain ⟨T8, X8, e8, st8⟩ := getF X6 hx hZ hown (host := "") (Or.inl (w73 hw)) Via.refl e6 F_o0_request (g := (mkF m 29 #[vr o0, vr o1, vr o1] [(.ref o0)])) rfl rfl (hb hby d294)
  obtain ⟨T10, X10, e10, st10⟩ := getF X8 hx hZ hown (host := "") (Or.inl (w73 hw)) Via.refl e8 F_o1_request (g := (mkF m 33 #[vr o0, vr o1, vr o1] [(.ref o1), (.ref o_7)])) rfl rfl (hb hby d296)
  obtain ⟨_, T16, L16, X16, hQ16, st16⟩ := own_virtual X10 hx hZ hown (w87 hw) (w88 hw) (notFace_of_selects (args := #[]) (mvT hZ (w90 hw))) (w90 hw) (w89 hw) (w9 hw) (w91 hw) (by decide) (r_seq l Z a0 hw [] o_7 o_9 o_12 o_13 i_11 k_o_12 k_o_13 i_14 i_15 h0 n0 Z0 hp1 ne_o_7_o_9 E_o_9 S_COMPACT_STRINGS O0 F_o_7_coder F_o_9_coder F_o_7_value F_o_9_value V_o_12 V_o_13) e10 E_o_7 (W := 0) (by decide) (g := (mkF m 36 #[vr o0, vr o1, vr o1] [(.ref o_9), (.ref o_7)])) rfl (by rw [hml]; rfl) (argsL := [(.ref o_9)]) (rest := []) (lenOf pd_15 rfl) rfl rfl (own_wr rfl rfl) (hb hby d297)
  obtain ⟨rfl, N16q, e16⟩ := hQ16
  have N16 := Fr.app N0 N16q
  obtain ⟨T18, X18, e18, st18⟩ := getF X16 hx hZ hown (host := "") (Or.inl (w76 hw)) Via.refl e16 F_o0_record (g := (mkF m 43 #[vr o0, vr o1, vr o1] [(.ref o0)])) rfl rfl (hb hby d302)
  obtain ⟨T20, X20, e20, st20⟩ := getF X18 hx hZ hown (host := "") (Or.inl (w76 hw)) Via.refl e18 F_o1_record (g := (mkF m 47 #[vr o0, vr o1, vr o1] [(.ref o1), (.ref o_17)])) rfl rfl (hb hby d304)
  obtain ⟨_, T25, L25, X25, hQ25, st25⟩ := own_virtual X20 hx hZ hown (w87 hw) (w88 hw) (notFace_of_selects (args := #[]) (mvT hZ (w90 hw))) (w90 hw) (w89 hw) (w9 hw) (w91 hw) (by decide) (r_seq l Z a0 hw [] o_17 o_19 o_21 o_22 i_11 k_o_21 k_o_22 i_23 i_24 h0 n0 Z0 hp1 ne_o_17_o_19 E_o_19 S_COMPACT_STRINGS O0 F_o_17_coder F_o_19_coder F_o_17_value F_o_19_value V_o_21 V_o_22) e20 E_o_17 (W := 0) (by decide) (g := (mkF m 50 #[vr o0, vr o1, vr o1] [(.ref o_19), (.ref o_17)])) rfl (by rw [hml]; rfl) (argsL := [(.ref o_19)]) (rest := []) (lenOf pd_15 rfl) rfl rfl (own_wr rfl rfl) (hb hby d305)
  obtain ⟨rfl, N25q, e25⟩ := hQ25
  have N25 := Fr.app N16 N25q
  refine ⟨T25, _, some (.int 1), X25, (fun h => by cases h <;> rfl), ?_, fun fs hr => ?_⟩
  · show Q_r36_equals Z o0 o1 i_3 i_5 o_7 o_9 i_11 o_12 o_13 i_14 k_o_12 i_15 k_o_13 o_17 o_19 o_21 o_22 i_23 k_o_21 i_24 k_o_22 h0 n0 _ T25.heap _
    rw [e25]
    exact ⟨rfl, N25, rfl⟩
  · refine t_aloadN 1 X0.here hx (hb hby d279) rfl rfl rfl ?_
    refine st1 _ ?_
    refine t_ifNo 7 X1.here hx (hb hby d281) (by decide) rfl ?_
    refine t_aloadN 8 X1.here hx (hb hby d284) rfl rfl rfl ?_
    refine st2 _ ?_
    refine t_astoreN (pc' := 12) (L' := #[vr o0, vr o1, vr o1]) X2.here hx (hb hby d286) rfl rfl rfl ?_
    refine t_goto (pc := 12) 17 X2.here hx (hb hby d287) (by decide) (by decide) ?_
    refine t_aloadN 18 X2.here hx (hb hby d288) rfl rfl rfl ?_
    refine st4 _ ?_
    refine t_aloadN 22 X4.here hx (hb hby d290) rfl rfl rfl ?_
    refine st6 _ ?_
    refine t_icmpNo 28 X6.here hx (hb hby d292) (teq hp0).2 rfl ?_
    refine t_aloadN 29 X6.here hx (hb hby d293) rfl rfl rfl ?_
    refine st8 _ ?_
    refine t_aloadN 33 X8.here hx (hb hby d295) rfl rfl rfl ?_
    refine st10 _ ?_
    refine st16 _ ?_
    refine t_ifNo 42 X16.here hx (hb hby d300) ((if0 _ _).trans (feq hp2).1) rfl ?_
    refine t_aloadN 43 X16.here hx (hb hby d301) rfl rfl rfl ?_
    refine st18 _ ?_
    refine t_aloadN 47 X18.here hx (hb hby d303) rfl rfl rfl ?_
    refine st20 _ ?_
    refine st25 _ ?_
    refine t_ifNo 56 X25.here hx (hb hby d306) ((if0 _ _).trans (feq hp3).1) rfl ?_
    refine t_iconst 57 (r := 1) X25.here hx (hb hby d307) (by decide) rfl ?_
    refine t_goto (pc := 57) 61 X25.here hx (hb hby d308) (by decide) (by decide) ?_
    exact retN X25 hx (t := .boolean) hret (by simp) (hb hby d309) hr
theorem ef_law_y (p0 p1 p2 p3 p4 p5 : Int32) (m : MethodId) : entryFrame m #[(.int p0), (.int p1), (.int p2), (.int p3), (.int p4), (.int p5)] maxLocals = mkF m 0 #[.val (.int p0), .val (.int p1), .val (.int p2), .val (.int p3), .val (.int p4), .val (.int p5), .unset, .unset, .unset, .unset, .unset, .unset, .unset, .unset] [] := by first | (simp [entryFrame, mkF, argsToLocals, Value.category, maxLocals]; done) | rfl
set_option maxRecDepth 65536 in
set_option maxHeartbeats 40000000 in
theorem law_y (l : Launch) (Z : State) (a0 : Array Value) (hw : HW Z a0) (ws : List Jvm.Cond) (p0 p1 p2 p3 p4 p5 cs : Int32) (h0 : Heap) (n0 : Nat) (Z0 : n0 ≤ h0.size) (hrel : p4 = p5) (hab : ¬ ((own_same p0 p1) = (0 : Int32))) (hcd : ¬ ((own_same p2 p3) = (0 : Int32))) (hcs : ¬ (cs = (0 : Int32))) (hm : ((own_u28 p0) &&& (3 : Int32)) = (0 : Int32)) (S_COMPACT_STRINGS : SCS Z cs) (O0 : Old Z n0 h0) :
    MetFree l x (head1 (Jvm.Cond.code x code maxLocals ret :: ws) room_1) (fun a U => a = #[(.int p0), (.int p1), (.int p2), (.int p3), (.int p4), (.int p5)] ∧ Z.Warmed39 U.vm ∧ U.heap = h0 ∧ CHv Z consts_1 U.vm h0 ∧ ∀ x ∈ ([] : List Addr), Safe Z consts_1 U.vm h0 x) (fun _ _ _ _ _ => True) (fun _ U o U' => ∃ v L, o = .returned v ∧ Q_law n0 v L ∧ CHr Z consts_1 U.vm U.heap U'.vm U'.heap ∧ ReturnedEndW U o U' L 48 3264) := by
  refine own_bodyH (k := 34) (n := 174) (y := x) (Q := fun v _ L => Q_law n0 v L) (own_EW hw) (plainFor_of_name pn_JudgmentEqualsPinLaw295) (ef_law_y p0 p1 p2 p3 p4 p5) (by decide) (by decide) ?_
  intro p e s m below meth c s₁ hx hby hml hown hnm hret hZ e0 hS0 hk0 X0 hC0 hSF0
  have N0 := Fr.nil n0
  obtain ⟨_, T1, L1, X1, hS1, hk1, hZ1, hown1, hQ1, hC1, st1⟩ := own_Hstatic X0 hx hZ hown (w0 hw) (w1 hw) (w2 hw) (w3 hw) (by decide) (r_str l Z a0 hw [] p0 cs h0 n0 Z0 hcs S_COMPACT_STRINGS O0) e0 (W := 0) (by decide) (g := (mkF m 1 #[vi p0, vi p1, vi p2, vi p3, vi p4, vi p5, .unset, .unset, .unset, .unset, .unset, .unset, .unset, .unset] [(.int p0)])) rfl (by rw [hml]; rfl) (argsL := [(.int p0)]) (rest := []) (lenOf pd_12 rfl) rfl rfl (own_wr rfl rfl) (hb hby at_1) hS0 hk0 (own_EW hw) (CHr.refl hC0).1 sf0
  obtain ⟨s1_1, b1_1, k1_1, rfl, N1q, K1, Q1_0, Q1_1, Q1_2, Q1_3, Q1_4, Q1_5⟩ := hQ1
  have N1 := Fr.app N0 N1q
  have Ah1 := (CHr.refl hC0).trans hC1
  have f4 := (kOld K1 O0 na0)
  obtain ⟨_, T3, L3, X3, hS3, hk3, hZ3, hown3, hQ3, hC3, st3⟩ := own_Hstatic X1 hx hZ1 hown1 (w0 hw) (w1 hw) (w2 hw) (w3 hw) (by decide) (r_str l Z a0 hw [] p1 cs T1.heap n0 (Nat.le_trans Z0 K1.1) hcs S_COMPACT_STRINGS f4) rfl (W := 0) (by decide) (g := (mkF m 7 #[vi p0, vi p1, vi p2, vi p3, vi p4, vi p5, vr s1_1, .unset, .unset, .unset, .unset, .unset, .unset, .unset] [(.int p1)])) rfl (by rw [hml]; rfl) (argsL := [(.int p1)]) (rest := []) (lenOf pd_12 rfl) rfl rfl (own_wr rfl rfl) (hb hby at_7) hS1 hk1 (own_EW hw) Ah1.1 sf0
  obtain ⟨s1_3, b1_3, k1_3, rfl, N3q, K3, Q3_0, Q3_1, Q3_2, Q3_3, Q3_4, Q3_5⟩ := hQ3
  have N3 := Fr.app N1 N3q
  have Ah2 := Ah1.trans hC3
  have f7 := (kOld K3 f4 na0)
  have sz_0_2 := (Nat.le_trans K1.1 K3.1)
  obtain ⟨_, T6, L6, X6, hS6, hk6, hZ6, hown6, hQ6, hC6, st6⟩ := own_Hstatic X3 hx hZ3 hown3 (w0 hw) (w1 hw) (w2 hw) (w3 hw) (by decide) (r_str l Z a0 hw [] p2 cs T3.heap n0 (Nat.le_trans Z0 sz_0_2) hcs S_COMPACT_STRINGS f7) rfl (W := 0) (by decide) (g := (mkF m 13 #[vi p0, vi p1, vi p2, vi p3, vi p4, vi p5, vr s1_1, vr s1_3, .unset, .unset, .unset, .unset, .unset, .unset] [(.int p2)])) rfl (by rw [hml]; rfl) (argsL := [(.int p2)]) (rest := []) (lenOf pd_12 rfl) rfl rfl (own_wr rfl rfl) (hb hby at_13) hS3 hk3 (own_EW hw) Ah2.1 sf0
  obtain ⟨s1_6, b1_6, k1_6, rfl, N6q, K6, Q6_0, Q6_1, Q6_2, Q6_3, Q6_4, Q6_5⟩ := hQ6
  have N6 := Fr.app N3 N6q
  have Ah3 := Ah2.trans hC6
  have f10 := (kOld K6 f7 na0)
  have sz_0_3 := (Nat.le_trans sz_0_2 K6.1)
  obtain ⟨_, T9, L9, X9, hS9, hk9, hZ9, hown9, hQ9, hC9, st9⟩ := own_Hstatic X6 hx hZ6 hown6 (w0 hw) (w1 hw) (w2 hw) (w3 hw) (by decide) (r_str l Z a0 hw [] p3 cs T6.heap n0 (Nat.le_trans Z0 sz_0_3) hcs S_COMPACT_STRINGS f10) rfl (W := 0) (by decide) (g := (mkF m 19 #[vi p0, vi p1, vi p2, vi p3, vi p4, vi p5, vr s1_1, vr s1_3, vr s1_6, .unset, .unset, .unset, .unset, .unset] [(.int p3)])) rfl (by rw [hml]; rfl) (argsL := [(.int p3)]) (rest := []) (lenOf pd_12 rfl) rfl rfl (own_wr rfl rfl) (hb hby at_19) hS6 hk6 (own_EW hw) Ah3.1 sf0
  obtain ⟨s1_9, b1_9, k1_9, rfl, N9q, K9, Q9_0, Q9_1, Q9_2, Q9_3, Q9_4, Q9_5⟩ := hQ9
  have N9 := Fr.app N6 N9q
  have Ah4 := Ah3.trans hC9
  obtain ⟨T12, h12, X12, e12, E12, A12, D12, -, st12⟩ := newO X9 hx hZ9 hown9 (w60 hw) (w61 hw) (w62 hw) rfl (g := (mkF m 24 #[vi p0, vi p1, vi p2, vi p3, vi p4, vi p5, vr s1_1, vr s1_3, vr s1_6, vr s1_9, .unset, .unset, .unset, .unset] [])) rfl (hb hby at_24) (by decide) (by decide)
  obtain ⟨b12, g12⟩ : ∃ z, z = T9.heap.size := ⟨_, rfl⟩
  rw [← g12] at A12 D12 st12
  have ge_b12 : T9.heap.size ≤ b12 := Nat.le_of_eq g12.symm
  have K12 := KL.ofE E12
  have Ck4 := own_chK K12 na0 Ah4.1
  have Ah5 := Ah4.trans Ck4.1
  have F_b12_request : Fd2 Z h12 b12 .null := D12 (Or.inr (w74 hw)) (ty := (.object "java/lang/String")) (by decide)
  have F_b12_record : Fd3 Z h12 b12 .null := D12 (Or.inr (w77 hw)) (ty := (.object "java/lang/String")) (by decide)
  have F_b12_relevance : Fd4 Z h12 b12 z0 := D12 (Or.inr (w79 hw)) (ty := .int) (by decide)
  have f14 := (kExa K12 (kExa K9 (kExa K6 (kExa K3 Q1_2))))
  have sz_0_4 := (Nat.le_trans sz_0_3 K9.1)
  have f15 := (kExa K12 (kExa K9 Q6_2))
  have sz_0_5 := (Nat.le_trans sz_0_4 K12.1)
  obtain ⟨_, T13, L13, X13, hS13, hk13, hZ13, hown13, hQ13, hC13, st13⟩ := own_Hinit X12 hx hZ9 rfl hown9 (w63 hw) (w64 hw) (w62 hw) (w65 hw) (by decide) (r27__init_ l Z a0 hw [] b12 s1_1 s1_6 p4 h12 n0 (Nat.le_trans Z0 sz_0_5) f14 F_b12_request A12 (Nat.le_trans Z0 (Nat.le_trans sz_0_4 ge_b12)) f15 F_b12_record F_b12_relevance) e12 (W := 1) (by decide) (g := (mkF m 34 #[vi p0, vi p1, vi p2, vi p3, vi p4, vi p5, vr s1_1, vr s1_3, vr s1_6, vr s1_9, .unset, .unset, .unset, .unset] [(.int p4), (.ref s1_6), (.ref s1_1), (.ref b12), (.ref b12)])) rfl (by rw [hml]; rfl) (argsL := [(.ref s1_1), (.ref s1_6), (.int p4)]) (rest := [(.ref b12)]) (lenOf pd_14 rfl) rfl rfl (own_wr rfl rfl) (hb hby at_34) hS9 (Nat.le_trans hk9 K12.1) (own_EW hw) Ah5.1 sf0
  obtain ⟨rfl, N13q, K13, Q13_0, Q13_1, Q13_2⟩ := hQ13
  have N13 := Fr.app N9 N13q
  have Ah6 := Ah5.trans hC13
  obtain ⟨T16, h16, X16, e16, E16, A16, D16, -, st16⟩ := newO X13 hx hZ13 hown13 (w60 hw) (w61 hw) (w62 hw) rfl (g := (mkF m 39 #[vi p0, vi p1, vi p2, vi p3, vi p4, vi p5, vr s1_1, vr s1_3, vr s1_6, vr s1_9, vr b12, .unset, .unset, .unset] [])) rfl (hb hby at_39) (by decide) (by decide)
  obtain ⟨b16, g16⟩ : ∃ z, z = T13.heap.size := ⟨_, rfl⟩
  rw [← g16] at A16 D16 st16
  have ge_b16 : T13.heap.size ≤ b16 := Nat.le_of_eq g16.symm
  have K16 := KL.ofE E16
  have Ck6 := own_chK K16 na0 Ah6.1
  have Ah7 := Ah6.trans Ck6.1
  have F_b16_request : Fd2 Z h16 b16 .null := D16 (Or.inr (w74 hw)) (ty := (.object "java/lang/String")) (by decide)
  have F_b16_record : Fd3 Z h16 b16 .null := D16 (Or.inr (w77 hw)) (ty := (.object "java/lang/String")) (by decide)
  have F_b16_relevance : Fd4 Z h16 b16 z0 := D16 (Or.inr (w79 hw)) (ty := .int) (by decide)
  have f18 := (kExa K16 (kExa K13 (kExa K12 (kExa K9 (kExa K6 Q3_2)))))
  have sz_0_6 := (Nat.le_trans sz_0_5 K13.1)
  have f19 := (kExa K16 (kExa K13 (kExa K12 Q9_2)))
  have sz_0_7 := (Nat.le_trans sz_0_6 K16.1)
  obtain ⟨_, T17, L17, X17, hS17, hk17, hZ17, hown17, hQ17, hC17, st17⟩ := own_Hinit X16 hx hZ13 rfl hown13 (w63 hw) (w64 hw) (w62 hw) (w65 hw) (by decide) (r27__init_ l Z a0 hw [] b16 s1_3 s1_9 p5 h16 n0 (Nat.le_trans Z0 sz_0_7) f18 F_b16_request A16 (Nat.le_trans Z0 (Nat.le_trans sz_0_6 ge_b16)) f19 F_b16_record F_b16_relevance) e16 (W := 1) (by decide) (g := (mkF m 49 #[vi p0, vi p1, vi p2, vi p3, vi p4, vi p5, vr s1_1, vr s1_3, vr s1_6, vr s1_9, vr b12, .unset, .unset, .unset] [(.int p5), (.ref s1_9), (.ref s1_3), (.ref b16), (.ref b16)])) rfl (by rw [hml]; rfl) (argsL := [(.ref s1_3), (.ref s1_9), (.int p5)]) (rest := [(.ref b16)]) (lenOf pd_14 rfl) rfl rfl (own_wr rfl rfl) (hb hby at_49) hS13 (Nat.le_trans hk13 K16.1) (own_EW hw) Ah7.1 sf0
  obtain ⟨rfl, N17q, K17, Q17_0, Q17_1, Q17_2⟩ := hQ17
  have N17 := Fr.app N13 N17q
  have Ah8 := Ah7.trans hC17
  have sz_0_8 := (Nat.le_trans sz_0_7 K17.1)
  obtain ⟨_, T20, L20, X20, hQ20, st20⟩ := own_static X17 hx hZ17 hown17 (w94 hw) (w95 hw) (w2 hw) (w96 hw) (by decide) (r_same l Z a0 hw [] p0 p1 T17.heap n0 (Nat.le_trans Z0 sz_0_8)) rfl (W := 0) (by decide) (g := (mkF m 128 #[vi p0, vi p1, vi p2, vi p3, vi p4, vi p5, vr s1_1, vr s1_3, vr s1_6, vr s1_9, vr b12, vr b16, vi 0, .unset] [(.int p1), (.int p0)])) rfl (by rw [hml]; rfl) (argsL := [(.int p0), (.int p1)]) (rest := []) (lenOf pd_16 rfl) rfl rfl (own_wr rfl rfl) (hb hby at_128)
  obtain ⟨rfl, N20q, e20⟩ := hQ20
  have N20 := Fr.app N17 N20q
  obtain ⟨_, T21, L21, X21, hQ21, st21⟩ := own_static X20 hx hZ17 hown17 (w94 hw) (w95 hw) (w2 hw) (w96 hw) (by decide) (r_same l Z a0 hw [] p2 p3 T17.heap n0 (Nat.le_trans Z0 sz_0_8)) e20 (W := 0) (by decide) (g := (mkF m 136 #[vi p0, vi p1, vi p2, vi p3, vi p4, vi p5, vr s1_1, vr s1_3, vr s1_6, vr s1_9, vr b12, vr b16, vi 0, .unset] [(.int p3), (.int p2)])) rfl (by rw [hml]; rfl) (argsL := [(.int p2), (.int p3)]) (rest := []) (lenOf pd_16 rfl) rfl rfl (own_wr rfl rfl) (hb hby at_136)
  obtain ⟨rfl, N21q, e21⟩ := hQ21
  have N21 := Fr.app N20 N21q
  have f23 := (kExa K17 A16)
  have lt_b12 : b12 < h12.size := Exa.lt A12
  have f24 := (kFld K17 (kFld K16 Q13_2 nw0) (nwM 3 rfl (lt_ne (Nat.lt_of_lt_of_le lt_b12 K13.1) ge_b16) nw0))
  have f25 := (kFld K17 (kFld K16 Q13_0 nw0) (nwM 3 rfl (lt_ne (Nat.lt_of_lt_of_le lt_b12 K13.1) ge_b16) nw0))
  have f26 := (kExa K17 (kExa K16 (kExa K13 f14)))
  have f27 := (kExa K17 f18)
  have lt_s1_1 : s1_1 < T1.heap.size := Exa.lt Q1_2
  have sz_1_3 := (Nat.le_trans K3.1 K6.1)
  have sz_1_4 := (Nat.le_trans sz_1_3 K9.1)
  have sz_1_5 := (Nat.le_trans sz_1_4 K12.1)
  have sz_1_6 := (Nat.le_trans sz_1_5 K13.1)
  have f28 := (kFld K17 (kFld K16 (kFld K13 (kFld K12 (kFld K9 (kFld K6 (kFld K3 Q1_3 nw0) nw0) nw0) nw0) (nwM 3 rfl (lt_ne (Nat.lt_of_lt_of_le lt_s1_1 sz_1_4) ge_b12) nw0)) nw0) (nwM 3 rfl (lt_ne (Nat.lt_of_lt_of_le lt_s1_1 sz_1_6) ge_b16) nw0))
  have lt_s1_3 : s1_3 < T3.heap.size := Exa.lt Q3_2
  have sz_2_4 := (Nat.le_trans K6.1 K9.1)
  have sz_2_5 := (Nat.le_trans sz_2_4 K12.1)
  have sz_2_6 := (Nat.le_trans sz_2_5 K13.1)
  have f29 := (kFld K17 (kFld K16 (kFld K13 (kFld K12 (kFld K9 (kFld K6 Q3_3 nw0) nw0) nw0) (nwM 3 rfl (lt_ne (Nat.lt_of_lt_of_le lt_s1_3 sz_2_4) ge_b12) nw0)) nw0) (nwM 3 rfl (lt_ne (Nat.lt_of_lt_of_le lt_s1_3 sz_2_6) ge_b16) nw0))
  have f30 := (kFld K17 (kFld K16 (kFld K13 (kFld K12 (kFld K9 (kFld K6 (kFld K3 Q1_4 nw0) nw0) nw0) nw0) (nwM 3 rfl (lt_ne (Nat.lt_of_lt_of_le lt_s1_1 sz_1_4) ge_b12) nw0)) nw0) (nwM 3 rfl (lt_ne (Nat.lt_of_lt_of_le lt_s1_1 sz_1_6) ge_b16) nw0))
  have f31 := (kFld K17 (kFld K16 (kFld K13 (kFld K12 (kFld K9 (kFld K6 Q3_4 nw0) nw0) nw0) (nwM 3 rfl (lt_ne (Nat.lt_of_lt_of_le lt_s1_3 sz_2_4) ge_b12) nw0)) nw0) (nwM 3 rfl (lt_ne (Nat.lt_of_lt_of_le lt_s1_3 sz_2_6) ge_b16) nw0))
  have f32 := (kArv K17 (kArv K16 (kArv K13 (kArv K12 (kArv K9 (kArv K6 (kArv K3 Q1_5 na0) na0) na0) na0) (naNM 3 rfl (Ne.symm (lt_ne (Nat.lt_of_lt_of_le Q1_1 sz_1_4) ge_b12)) na0)) na0) (naNM 3 rfl (Ne.symm (lt_ne (Nat.lt_of_lt_of_le Q1_1 sz_1_6) ge_b16)) na0))
  have f33 := (kArv K17 (kArv K16 (kArv K13 (kArv K12 (kArv K9 (kArv K6 Q3_5 na0) na0) na0) (naNM 3 rfl (Ne.symm (lt_ne (Nat.lt_of_lt_of_le Q3_1 sz_2_4) ge_b12)) na0)) na0) (naNM 3 rfl (Ne.symm (lt_ne (Nat.lt_of_lt_of_le Q3_1 sz_2_6) ge_b16)) na0))
  have f34 := (kOld K17 (kOld K16 (kOld K13 (kOld K12 (kOld K9 f10 na0) na0) (naGM 3 rfl (Nat.le_trans Z0 (Nat.le_trans sz_0_4 ge_b12)) na0)) na0) (naGM 3 rfl (Nat.le_trans Z0 (Nat.le_trans sz_0_6 ge_b16)) na0))
  have f35 := (kFld K17 (kFld K16 Q13_1 nw0) (nwM 3 rfl (lt_ne (Nat.lt_of_lt_of_le lt_b12 K13.1) ge_b16) nw0))
  have f36 := (kExa K17 (kExa K16 (kExa K13 f15)))
  have f37 := (kExa K17 f19)
  have lt_s1_6 : s1_6 < T6.heap.size := Exa.lt Q6_2
  have sz_3_5 := (Nat.le_trans K9.1 K12.1)
  have sz_3_6 := (Nat.le_trans sz_3_5 K13.1)
  have f38 := (kFld K17 (kFld K16 (kFld K13 (kFld K12 (kFld K9 Q6_3 nw0) nw0) (nwM 3 rfl (lt_ne (Nat.lt_of_lt_of_le lt_s1_6 K9.1) ge_b12) nw0)) nw0) (nwM 3 rfl (lt_ne (Nat.lt_of_lt_of_le lt_s1_6 sz_3_6) ge_b16) nw0))
  have lt_s1_9 : s1_9 < T9.heap.size := Exa.lt Q9_2
  have sz_4_6 := (Nat.le_trans K12.1 K13.1)
  have f39 := (kFld K17 (kFld K16 (kFld K13 (kFld K12 Q9_3 nw0) (nwM 3 rfl (lt_ne lt_s1_9 ge_b12) nw0)) nw0) (nwM 3 rfl (lt_ne (Nat.lt_of_lt_of_le lt_s1_9 sz_4_6) ge_b16) nw0))
  have f40 := (kFld K17 (kFld K16 (kFld K13 (kFld K12 (kFld K9 Q6_4 nw0) nw0) (nwM 3 rfl (lt_ne (Nat.lt_of_lt_of_le lt_s1_6 K9.1) ge_b12) nw0)) nw0) (nwM 3 rfl (lt_ne (Nat.lt_of_lt_of_le lt_s1_6 sz_3_6) ge_b16) nw0))
  have f41 := (kFld K17 (kFld K16 (kFld K13 (kFld K12 Q9_4 nw0) (nwM 3 rfl (lt_ne lt_s1_9 ge_b12) nw0)) nw0) (nwM 3 rfl (lt_ne (Nat.lt_of_lt_of_le lt_s1_9 sz_4_6) ge_b16) nw0))
  have f42 := (kArv K17 (kArv K16 (kArv K13 (kArv K12 (kArv K9 Q6_5 na0) na0) (naNM 3 rfl (Ne.symm (lt_ne (Nat.lt_of_lt_of_le Q6_1 K9.1) ge_b12)) na0)) na0) (naNM 3 rfl (Ne.symm (lt_ne (Nat.lt_of_lt_of_le Q6_1 sz_3_6) ge_b16)) na0))
  have f43 := (kArv K17 (kArv K16 (kArv K13 (kArv K12 Q9_5 na0) (naNM 3 rfl (Ne.symm (lt_ne Q9_1 ge_b12)) na0)) na0) (naNM 3 rfl (Ne.symm (lt_ne (Nat.lt_of_lt_of_le Q9_1 sz_4_6) ge_b16)) na0))
  have f44 := (kExa K17 (kExa K16 (kExa K13 A12)))
  obtain ⟨_, T22, L22, X22, hQ22, st22⟩ := own_virtual X21 hx hZ17 hown17 (w80 hw) (w81 hw) (notFace_of_selects (args := #[]) (mvT hZ17 (w83 hw))) (w83 hw) (w82 hw) (w62 hw) (w84 hw) (by decide) (r36_equals l Z a0 hw [] b12 b16 p4 p5 s1_1 s1_3 cs b1_1 b1_3 p0 k1_1 p1 k1_3 s1_6 s1_9 b1_6 b1_9 p2 k1_6 p3 k1_9 T17.heap n0 (Nat.le_trans Z0 sz_0_8) f23 f24 Q17_2 hrel f25 Q17_0 f26 f27 S_COMPACT_STRINGS f28 f29 f30 f31 f32 f33 hcs (lt_ne lt_s1_1 Q3_0) f34 hab f35 Q17_1 f36 f37 f38 f39 f40 f41 f42 f43 (lt_ne lt_s1_6 Q9_0) hcd) e21 f44 (W := 0) (by decide) (g := (mkF m 153 #[vi p0, vi p1, vi p2, vi p3, vi p4, vi p5, vr s1_1, vr s1_3, vr s1_6, vr s1_9, vr b12, vr b16, vi 0, vi 1] [(.ref b16), (.ref b12)])) rfl (by rw [hml]; rfl) (argsL := [(.ref b16)]) (rest := []) (lenOf pd_15 rfl) rfl rfl (own_wr rfl rfl) (hb hby at_153)
  obtain ⟨rfl, N22q, e22⟩ := hQ22
  have N22 := Fr.app N21 N22q
  obtain ⟨_, T45, L45, X45, hQ45, st45⟩ := own_virtual X22 hx hZ17 hown17 (w80 hw) (w81 hw) (notFace_of_selects (args := #[]) (mvT hZ17 (w83 hw))) (w83 hw) (w82 hw) (w62 hw) (w84 hw) (by decide) (r36_equals l Z a0 hw [] b16 b12 p5 p4 s1_3 s1_1 cs b1_3 b1_1 p1 k1_3 p0 k1_1 s1_9 s1_6 b1_9 b1_6 p3 k1_9 p2 k1_6 T17.heap n0 (Nat.le_trans Z0 sz_0_8) f44 Q17_2 f24 (Eq.symm hrel) Q17_0 f25 f27 f26 S_COMPACT_STRINGS f29 f28 f31 f30 f33 f32 hcs (Ne.symm (lt_ne lt_s1_1 Q3_0)) f34 (own_cmn hab) Q17_1 f35 f37 f36 f39 f38 f41 f40 f43 f42 (Ne.symm (lt_ne lt_s1_6 Q9_0)) (own_cmn hcd)) e22 f23 (W := 0) (by decide) (g := (mkF m 165 #[vi p0, vi p1, vi p2, vi p3, vi p4, vi p5, vr s1_1, vr s1_3, vr s1_6, vr s1_9, vr b12, vr b16, vi 0, vi 1] [(.ref b12), (.ref b16)])) rfl (by rw [hml]; rfl) (argsL := [(.ref b12)]) (rest := []) (lenOf pd_15 rfl) rfl rfl (own_wr rfl rfl) (hb hby at_165)
  obtain ⟨rfl, N45q, e45⟩ := hQ45
  have N45 := Fr.app N22 N45q
  refine ⟨T45, _, some (.int 1), _, _, X45, hS17, (by rw [e45]; exact hk17), (fun h => by cases h <;> rfl), ?_, (by rw [e45]; exact Ah8), hZ17, fun fs hr => ?_⟩
  · show Q_law n0 _ _
    exact ⟨rfl, N45⟩
  · refine t_iloadN 1 X0.here hx (hb hby at_0) rfl rfl ?_
    refine st1 _ ?_
    refine t_astore (pc' := 6) (L' := #[vi p0, vi p1, vi p2, vi p3, vi p4, vi p5, vr s1_1, .unset, .unset, .unset, .unset, .unset, .unset, .unset]) X1.here hx (hb hby at_4) rfl rfl rfl ?_
    refine t_iloadN 7 X1.here hx (hb hby at_6) rfl rfl ?_
    refine st3 _ ?_
    refine t_astore (pc' := 12) (L' := #[vi p0, vi p1, vi p2, vi p3, vi p4, vi p5, vr s1_1, vr s1_3, .unset, .unset, .unset, .unset, .unset, .unset]) X3.here hx (hb hby at_10) rfl rfl rfl ?_
    refine t_iloadN 13 X3.here hx (hb hby at_12) rfl rfl ?_
    refine st6 _ ?_
    refine t_astore (pc' := 18) (L' := #[vi p0, vi p1, vi p2, vi p3, vi p4, vi p5, vr s1_1, vr s1_3, vr s1_6, .unset, .unset, .unset, .unset, .unset]) X6.here hx (hb hby at_16) rfl rfl rfl ?_
    refine t_iloadN 19 X6.here hx (hb hby at_18) rfl rfl ?_
    refine st9 _ ?_
    refine t_astore (pc' := 24) (L' := #[vi p0, vi p1, vi p2, vi p3, vi p4, vi p5, vr s1_1, vr s1_3, vr s1_6, vr s1_9, .unset, .unset, .unset, .unset]) X9.here hx (hb hby at_22) rfl rfl rfl ?_
    refine st12 _ ?_
    refine t_dup 28 X12.here hx (hb hby at_27) rfl rfl ?_
    refine t_aload 30 X12.here hx (hb hby at_28) rfl rfl rfl ?_
    refine t_aload 32 X12.here hx (hb hby at_30) rfl rfl rfl ?_
    refine t_iload 34 X12.here hx (hb hby at_32) rfl rfl ?_
    refine st13 _ ?_
    refine t_astore (pc' := 39) (L' := #[vi p0, vi p1, vi p2, vi p3, vi p4, vi p5, vr s1_1, vr s1_3, vr s1_6, vr s1_9, vr b12, .unset, .unset, .unset]) X13.here hx (hb hby at_37) rfl rfl rfl ?_
    refine st16 _ ?_
    refine t_dup 43 X16.here hx (hb hby at_42) rfl rfl ?_
    refine t_aload 45 X16.here hx (hb hby at_43) rfl rfl rfl ?_
    refine t_aload 47 X16.here hx (hb hby at_45) rfl rfl rfl ?_
    refine t_iload 49 X16.here hx (hb hby at_47) rfl rfl ?_
    refine st17 _ ?_
    refine t_astore (pc' := 54) (L' := #[vi p0, vi p1, vi p2, vi p3, vi p4, vi p5, vr s1_1, vr s1_3, vr s1_6, vr s1_9, vr b12, vr b16, .unset, .unset]) X17.here hx (hb hby at_52) rfl rfl rfl ?_
    refine t_iloadN 55 X17.here hx (hb hby at_54) rfl rfl ?_
    refine t_bipush 57 (r := 28) X17.here hx (hb hby at_55) (by decide) rfl ?_
    refine t_iushr 58 (r := (own_u28 p0)) X17.here hx (hb hby at_57) (Eq.refl (own_u28 p0)) rfl ?_
    refine t_iconst 59 (r := 3) X17.here hx (hb hby at_58) (by decide) rfl ?_
    refine t_iand 60 (r := 0) X17.here hx (hb hby at_59) hm rfl ?_
    refine t_istore (pc' := 62) (L' := #[vi p0, vi p1, vi p2, vi p3, vi p4, vi p5, vr s1_1, vr s1_3, vr s1_6, vr s1_9, vr b12, vr b16, vi 0, .unset]) X17.here hx (hb hby at_60) rfl rfl ?_
    refine t_iload 64 X17.here hx (hb hby at_62) rfl rfl ?_
    refine t_iconst 65 (r := 1) X17.here hx (hb hby at_64) (by decide) rfl ?_
    refine t_icmpYes (pc := 65) 83 X17.here hx (hb hby at_65) (by decide) (by decide) (by decide) ?_
    refine t_iload 85 X17.here hx (hb hby at_83) rfl rfl ?_
    refine t_iconst 86 (r := 2) X17.here hx (hb hby at_85) (by decide) rfl ?_
    refine t_icmpYes (pc := 86) 105 X17.here hx (hb hby at_86) (by decide) (by decide) (by decide) ?_
    refine t_iload 107 X17.here hx (hb hby at_105) rfl rfl ?_
    refine t_iconst 108 (r := 3) X17.here hx (hb hby at_107) (by decide) rfl ?_
    refine t_icmpYes (pc := 108) 119 X17.here hx (hb hby at_108) (by decide) (by decide) (by decide) ?_
    refine t_iload 121 X17.here hx (hb hby at_119) rfl rfl ?_
    refine t_iload 123 X17.here hx (hb hby at_121) rfl rfl ?_
    refine t_icmpNo 126 X17.here hx (hb hby at_123) (teq hrel).2 rfl ?_
    refine t_iloadN 127 X17.here hx (hb hby at_126) rfl rfl ?_
    refine t_iloadN 128 X17.here hx (hb hby at_127) rfl rfl ?_
    refine st20 _ ?_
    refine t_ifNo 134 X20.here hx (hb hby at_131) ((if0 _ _).trans (feq hab).1) rfl ?_
    refine t_iloadN 135 X20.here hx (hb hby at_134) rfl rfl ?_
    refine t_iloadN 136 X20.here hx (hb hby at_135) rfl rfl ?_
    refine st21 _ ?_
    refine t_ifNo 142 X21.here hx (hb hby at_139) ((if0 _ _).trans (feq hcd).1) rfl ?_
    refine t_iconst 143 (r := 1) X21.here hx (hb hby at_142) (by decide) rfl ?_
    refine t_goto (pc := 143) 147 X21.here hx (hb hby at_143) (by decide) (by decide) ?_
    refine t_istore (pc' := 149) (L' := #[vi p0, vi p1, vi p2, vi p3, vi p4, vi p5, vr s1_1, vr s1_3, vr s1_6, vr s1_9, vr b12, vr b16, vi 0, vi 1]) X21.here hx (hb hby at_147) rfl rfl ?_
    refine t_aload 151 X21.here hx (hb hby at_149) rfl rfl rfl ?_
    refine t_aload 153 X21.here hx (hb hby at_151) rfl rfl rfl ?_
    refine st22 _ ?_
    refine t_iload 158 X22.here hx (hb hby at_156) rfl rfl ?_
    refine t_icmpNo 161 X22.here hx (hb hby at_158) (by decide) rfl ?_
    refine t_aload 163 X22.here hx (hb hby at_161) rfl rfl rfl ?_
    refine t_aload 165 X22.here hx (hb hby at_163) rfl rfl rfl ?_
    refine st45 _ ?_
    refine t_iload 170 X45.here hx (hb hby at_168) rfl rfl ?_
    refine t_icmpNo 173 X45.here hx (hb hby at_170) (by decide) rfl ?_
    refine t_iconst 174 (r := 1) X45.here hx (hb hby at_173) (by decide) rfl ?_
    refine t_goto (pc := 174) 178 X45.here hx (hb hby at_174) (by decide) (by decide) ?_
    exact retN X45 hx (t := .boolean) hret (by simp) (hb hby at_178) hr
set_option maxRecDepth 65536 in
set_option maxHeartbeats 40000000 in
theorem rm_law (l : Launch) (Z : State) (a0 : Array Value) (hw : HW Z a0) (ws : List Jvm.Cond) (p0 p1 p2 p3 p4 p5 : Int32) (h0 : Heap) (n0 : Nat) (Z0 : n0 ≤ h0.size) (cs : Int32) (hcs : ¬ (cs = (0 : Int32))) (S_COMPACT_STRINGS : SCS Z cs) (O0 : Old Z n0 h0) :
    MetFree l x (head1 (Jvm.Cond.code x code maxLocals ret :: ws) room_1) (fun a U => a = #[(.int p0), (.int p1), (.int p2), (.int p3), (.int p4), (.int p5)] ∧ Z.Warmed39 U.vm ∧ U.heap = h0 ∧ CHv Z consts_1 U.vm h0 ∧ ∀ x ∈ ([] : List Addr), Safe Z consts_1 U.vm h0 x) (fun _ _ _ _ _ => True) (fun _ U o U' => ∃ v L, o = .returned v ∧ Q_law n0 v L ∧ CHr Z consts_1 U.vm U.heap U'.vm U'.heap ∧ ReturnedEndW U o U' L 48 3264) := by
  rcases own_and3 (own_u28 p0) with hm | hm | hm | hm
  · by_cases hrel : p4 = p5
    · by_cases hab : (own_same p0 p1) = (0 : Int32)
      · exact law_a l Z a0 hw ws p0 p1 p2 p3 p4 p5 cs h0 n0 Z0 hrel hab hcs hm S_COMPACT_STRINGS O0
      · by_cases hcd : (own_same p2 p3) = (0 : Int32)
        · exact law_c l Z a0 hw ws p0 p1 p2 p3 p4 p5 cs h0 n0 Z0 hrel hab hcd hcs hm S_COMPACT_STRINGS O0
        · exact law_y l Z a0 hw ws p0 p1 p2 p3 p4 p5 cs h0 n0 Z0 hrel hab hcd hcs hm S_COMPACT_STRINGS O0
    · exact law_n l Z a0 hw ws p0 p1 p2 p3 p4 p5 cs h0 n0 Z0 hrel hcs hm S_COMPACT_STRINGS O0
  · exact law_m1 l Z a0 hw ws p0 p1 p2 p3 p4 p5 cs h0 n0 Z0 hcs hm S_COMPACT_STRINGS O0
  · exact law_m2 l Z a0 hw ws p0 p1 p2 p3 p4 p5 cs h0 n0 Z0 hcs hm S_COMPACT_STRINGS O0
  · exact law_m3 l Z a0 hw ws p0 p1 p2 p3 p4 p5 cs h0 n0 Z0 hcs hm S_COMPACT_STRINGS O0
set_option maxRecDepth 65536 in
set_option maxHeartbeats 40000000 in
theorem comes_1 {Post : Tables → Env → Array Value → State → Outcome → State → Prop} (hpost : ∀ tb e args s v u, (limb_1_1.after args s (.returned v) u = true ∧ limb_1_2.after args s (.returned v) u = true ∧ True) → ReturnedEndW s (.returned v) u (Jvm.fieldLocs frame_1_writes args s ++ Jvm.arrayLocs frame_1_arrays args s ++ Jvm.staticLocs frame_1_statics s) 48 3264 → Post tb e args s (.returned v) u) :
    ArmFor flags0 classFile x code maxLocals ret World_1 tables_1 room_1 Calls_1 rest_1 Pre_1 Post := by
  intro l hfl _ _ p e ha hc hk s m args below hf hA hF happ hP
  obtain ⟨hcalls, hrest, hpre⟩ := hP
  obtain ⟨-, -, -, hnamed, -, -, -, hat⟩ := (Spec.applies_iff hf).mp happ
  obtain ⟨hg, hn⟩ := and_e (Cond.before_iff.mp (show (Jvm.Cond.and given_1 narrow_1).before args s = true from hpre))
  obtain ⟨g1, g2⟩ := and_e hg
  obtain ⟨g3, g4⟩ := and_e g2
  obtain ⟨g5, g6⟩ := and_e g4
  obtain ⟨g7, g8⟩ := and_e g6
  obtain ⟨g9, g10⟩ := and_e g8
  obtain ⟨g11, g12⟩ := and_e g10
  obtain ⟨w0, w1, w2, w3, w4, w5, rfl⟩ : ∃ w0 w1 w2 w3 w4 w5 : Value, args = #[w0, w1, w2, w3, w4, w5] := by
    have hs : args.size = 6 := by simpa [Cond.value, given_1] using g1
    obtain ⟨L⟩ := args
    match L, hs with
    | [w0, w1, w2, w3, w4, w5], _ => exact ⟨w0, w1, w2, w3, w4, w5, rfl⟩
  have hw := fun d (hd : d ∈ tables_1) => atoms_spec (ws := Jvm.Cond.code x code maxLocals ret :: tables_1) hat d (List.mem_cons_of_mem _ hd)
  have hfit : Fit s := fun {y c} hc i hi => by
    obtain ⟨ha, rfl⟩ := Array.getElem?_eq_some_iff.mp hc
    have q := List.all_eq_true.mp ((Array.all_eq_true_iff_forall_mem.mp hF) _ (Array.getElem_mem ha)) i (List.mem_range.mpr hi)
    simpa [Array.getElem?_eq_getElem hi] using q
  obtain ⟨hsets, hown0⟩ := atoms_of _ (rest_1_c_eq ▸ (show rest_1_c.before _ s = true from hrest))
  have hr0 := Cond.before_iff.mp hown0
  obtain ⟨i0, ei0⟩ := is_v g3
  obtain rfl : w0 = (.int i0) := Option.some.inj ei0
  obtain ⟨i1, ei1⟩ := is_v g5
  obtain rfl : w1 = (.int i1) := Option.some.inj ei1
  obtain ⟨i2, ei2⟩ := is_v g7
  obtain rfl : w2 = (.int i2) := Option.some.inj ei2
  obtain ⟨i3, ei3⟩ := is_v g9
  obtain rfl : w3 = (.int i3) := Option.some.inj ei3
  obtain ⟨i4, ei4⟩ := is_v g11
  obtain rfl : w4 = (.int i4) := Option.some.inj ei4
  obtain ⟨i5, ei5⟩ := is_v g12
  obtain rfl : w5 = (.int i5) := Option.some.inj ei5
  obtain ⟨cs, ev_cs⟩ := is_v (Cond.before_iff.mp (hsets _ (List.mem_of_getElem? (i := 1) rfl)))
  have S_COMPACT_STRINGS := Sta.start ev_cs (Or.inl (hsets _ (List.mem_of_getElem? (i := 0) rfl)))
  have hcs : ¬ (cs = (0 : Int32)) := by
    have q := Cond.before_iff.mp (hsets _ (List.mem_of_getElem? (i := 2) rfl))
    simp only [Cond.value, ev_cs, Term.int_eval] at q
    simpa using q
  obtain ⟨fm, ev_fm, hfm⟩ := isR_v (Cond.before_iff.mp (hsets _ (List.mem_of_getElem? (i := 8) rfl)))
  have S_SIOOBE_FORMATTER := Sta.start ev_fm (Or.inl (hsets _ (List.mem_of_getElem? (i := 7) rfl)))
  have hCH : CHv s consts_1 s.vm s.heap := CHv.start (own_EW hw) (fun p hp => hcalls.1 p hp) (hsets _ (List.mem_of_getElem? (i := 2) rfl)) (own_wS hw _ (by simp [Bundle.stringAtoms])) (own_wS hw _ (by simp [Bundle.stringAtoms, Bundle.sN]))
  obtain ⟨n, o, h1, h2, h3, _, L, rfl, ⟨rfl, N⟩, -, hq⟩ := rm_law l s _ hw tables_1 i0 i1 i2 i3 i4 i5 s.heap s.heap.size (Nat.le_refl _) cs hcs S_COMPACT_STRINGS (Old.start s) p e ha hc hk s m _ below hf ((Spec.applies_iff_loose hf).mp happ).1 ⟨rfl, State.Warmed39.refl s, rfl, hCH, sf0⟩ trivial
  refine ⟨n, _, h1, h2, h3, hpost _ _ _ _ _ _ ⟨Cond.after_iff.mpr rfl, Cond.after_iff.mpr (eq_i res_at (Term.int_eval (1)) rfl), trivial⟩ ⟨hq.1, hq.2.1, hq.2.2.1, (hq.2.2.2.sift fun y hy => Or.inr (N y hy)).mono (by decide) (by decide)⟩⟩
theorem main_1_1 : Claimed_1_1 := comes_1 fun _ _ _ _ _ _ h hF => ⟨h.1, hF⟩
theorem main_1_2 : Claimed_1_2 := comes_1 fun _ _ _ _ _ _ h hF => ⟨h.2.1, hF⟩
end Jvm.Pilot.@@N@@
namespace Jvm.Pilot.@@N@@
open Jvm Jvm.ClassFile Sem Op Lib Jvm.Free Jvm.Stand Jvm.Pilot.@@N@@.Jvm.D
/-! MADE BY PROGRAM (witnessworld.py) out of the Statement's table words and the real class files: 21 classes; the members and pool entries that the words name. The judged class is class 1, her method 1. -/
namespace start1
open Jvm.ClassFile
def u (s : String) : CpInfo := .utf8 (stringToUtf16 s)
/-- a pool by its gaps: so many unusable entries, then the entry; so many at the end -/
def gap : Nat → List CpInfo → List CpInfo
  | 0, r => r
  | n + 1, r => .unusable :: gap n r
def poolList (es : List (Nat × CpInfo)) (last : Nat) : List CpInfo := es.foldr (fun e r => gap e.1 (e.2 :: r)) (gap last [])
def pool (es : List (Nat × CpInfo)) (last : Nat) : Array CpInfo := ⟨poolList es last⟩
def fileOf (pool : Array CpInfo) (this : Nat) (attrs : Array Attribute := #[]) (ms : Array MethodInfo := #[]) (fl : Nat := 33) (sup : Nat := 0) (ifs : Array Nat := #[]) (fds : Array FieldInfo := #[]) : ClassFile where
  minorVersion := 0
  majorVersion := 65
  constantPool := pool
  accessFlags := fl
  thisClass := this
  superClass := sup
  interfaces := ifs
  fields := fds
  methods := ms
  attributes := attrs
def plain (name : String) (sup : Option ClassId) : Class where
  name := name
  kind := .ordinary
  loader := none
  accessFlags := 33
  super := sup
  interfaces := #[]
  cf := none
  fields := #[]
  methods := #[]
  instanceTypes := #[]
  staticTypes := #[]
  resolved := #[]
  callSites := []
  init := .initialized
  statics := none
  mirror := none

def pool0 : Array CpInfo := pool [(5, u "<init>"), (0, u "()V"), (1, .class_ 10), (1, u "java/lang/Object")] 113

def k0c0 : Code := { maxStack := 0, maxLocals := 1, code := object_method_1_code, exceptionTable := #[], attributes := #[] }
def k0m0 : Method := { name := "<init>", desc := "()V", sig := { parameters := [], returnType := none }, accessFlags := 1, code := some k0c0 }
/-- java/lang/Object -/
def k0 : Class := { plain "java/lang/Object" none with
  accessFlags := 33
  interfaces := #[]
  cf := some (fileOf pool0 8 #[] #[{ accessFlags := 1, nameIndex := 5, descriptorIndex := 6, attributes := #[] }] 33 0 #[] #[])
  fields := #[]
  methods := #[k0m0]
  instanceTypes := #[]
  staticTypes := #[]
  resolved := Array.replicate 124 none
  statics := none }

def pool1 : Array CpInfo := pool [(2, .class_ 4), (1, u "java/lang/Object"), (0, u "<init>"), (0, u "()V"), (0, .methodref 8 9), (0, .class_ 10), (0, .nameAndType 11 12), (0, u "com/example/unearth/unearth/eval/JudgmentEqualsPinLaw"), (0, u "str"), (0, u "(I)Ljava/lang/String;"), (0, .class_ 14), (0, u "com/example/unearth/unearth/eval/Judgment"), (0, .methodref 13 16), (0, .nameAndType 5 17), (0, u "(Ljava/lang/String;Ljava/lang/String;I)V"), (0, .methodref 13 19), (0, .nameAndType 20 21), (0, u "equals"), (0, u "(Ljava/lang/Object;)Z"), (0, .methodref 8 23), (0, .nameAndType 24 25), (0, u "same"), (0, u "(II)Z"), (0, .methodref 8 27), (0, .nameAndType 28 29), (0, u "len"), (0, u "(I)I"), (0, .class_ 31), (0, u "java/lang/String"), (0, .methodref 30 33), (0, .nameAndType 5 34), (0, u "([C)V"), (0, .methodref 8 36), (0, .nameAndType 37 38), (0, u "ch0"), (0, u "(I)C"), (0, .methodref 30 40), (0, .nameAndType 41 42), (0, u "valueOf"), (0, u "(C)Ljava/lang/String;"), (0, .methodref 8 44), (0, .nameAndType 45 38), (0, u "ch1"), (2, u "law"), (0, u "(IIIIII)Z")] 3

def k1m0 : Method := { name := "<init>", desc := "()V", sig := { parameters := [], returnType := none }, accessFlags := 1, code := none }
def k1c1 : Code := { maxStack := 5, maxLocals := 14, code := code, exceptionTable := #[], attributes := #[] }
def k1m1 : Method := { name := "law", desc := "(IIIIII)Z", sig := { parameters := [.int, .int, .int, .int, .int, .int], returnType := some .boolean }, accessFlags := 9, code := some k1c1 }
def k1c2 : Code := { maxStack := 2, maxLocals := 1, code := method_3_code, exceptionTable := #[], attributes := #[] }
def k1m2 : Method := { name := "len", desc := "(I)I", sig := { parameters := [.int], returnType := some .int }, accessFlags := 10, code := some k1c2 }
def k1c3 : Code := { maxStack := 2, maxLocals := 1, code := method_4_code, exceptionTable := #[], attributes := #[] }
def k1m3 : Method := { name := "ch0", desc := "(I)C", sig := { parameters := [.int], returnType := some .char }, accessFlags := 10, code := some k1c3 }
def k1c4 : Code := { maxStack := 2, maxLocals := 1, code := method_5_code, exceptionTable := #[], attributes := #[] }
def k1m4 : Method := { name := "ch1", desc := "(I)C", sig := { parameters := [.int], returnType := some .char }, accessFlags := 10, code := some k1c4 }
def k1c5 : Code := { maxStack := 3, maxLocals := 3, code := method_6_code, exceptionTable := #[], attributes := #[] }
def k1m5 : Method := { name := "str", desc := "(I)Ljava/lang/String;", sig := { parameters := [.int], returnType := some (.object "java/lang/String") }, accessFlags := 10, code := some k1c5 }
def k1c6 : Code := { maxStack := 2, maxLocals := 3, code := method_7_code, exceptionTable := #[], attributes := #[] }
def k1m6 : Method := { name := "same", desc := "(II)Z", sig := { parameters := [.int, .int], returnType := some .boolean }, accessFlags := 10, code := some k1c6 }
/-- com/example/unearth/unearth/eval/JudgmentEqualsPinLaw -/
def k1 : Class := { plain "com/example/unearth/unearth/eval/JudgmentEqualsPinLaw" (some 0) with
  accessFlags := 49
  interfaces := #[]
  cf := some (fileOf pool1 8 #[] #[{ accessFlags := 1, nameIndex := 5, descriptorIndex := 6, attributes := #[] }, { accessFlags := 9, nameIndex := 48, descriptorIndex := 49, attributes := #[] }, { accessFlags := 10, nameIndex := 28, descriptorIndex := 29, attributes := #[] }, { accessFlags := 10, nameIndex := 37, descriptorIndex := 38, attributes := #[] }, { accessFlags := 10, nameIndex := 45, descriptorIndex := 38, attributes := #[] }, { accessFlags := 10, nameIndex := 11, descriptorIndex := 12, attributes := #[] }, { accessFlags := 10, nameIndex := 24, descriptorIndex := 25, attributes := #[] }] 49 2 #[] #[])
  fields := #[]
  methods := #[k1m0, k1m1, k1m2, k1m3, k1m4, k1m5, k1m6]
  instanceTypes := #[]
  staticTypes := #[]
  resolved := Array.replicate 53 none
  statics := none }

def pool2 : Array CpInfo := pool [(1, .class_ 2), (0, u "java/io/Serializable"), (0, .class_ 4), (0, u "java/lang/Object")] 2

/-- java/io/Serializable -/
def k2 : Class := { plain "java/io/Serializable" (some 0) with
  accessFlags := 1537
  interfaces := #[]
  cf := some (fileOf pool2 1 #[] #[] 1537 3 #[] #[])
  fields := #[]
  methods := #[]
  instanceTypes := #[]
  staticTypes := #[]
  resolved := Array.replicate 7 none
  statics := none }

def pool3 : Array CpInfo := pool [(1, .class_ 2), (0, u "java/lang/Comparable"), (0, .class_ 4), (0, u "java/lang/Object")] 7

/-- java/lang/Comparable -/
def k3 : Class := { plain "java/lang/Comparable" (some 0) with
  accessFlags := 1537
  interfaces := #[]
  cf := some (fileOf pool3 1 #[] #[] 1537 3 #[] #[])
  fields := #[]
  methods := #[]
  instanceTypes := #[]
  staticTypes := #[]
  resolved := Array.replicate 12 none
  statics := none }

def pool4 : Array CpInfo := pool [(2, .class_ 4), (1, u "java/lang/CharSequence"), (42, .class_ 48), (0, u "java/lang/CharSequence$1CodePointIterator"), (10, .class_ 60), (0, u "java/lang/CharSequence$1CharIterator"), (5, .class_ 67), (0, u "java/lang/Object")] 63

/-- java/lang/CharSequence -/
def k4 : Class := { plain "java/lang/CharSequence" (some 0) with
  accessFlags := 1537
  interfaces := #[]
  cf := some (fileOf pool4 2 #[.nestMembers #[47, 59]] #[] 1537 66 #[] #[])
  fields := #[]
  methods := #[]
  instanceTypes := #[]
  staticTypes := #[]
  resolved := Array.replicate 131 none
  statics := none }

def pool5 : Array CpInfo := pool [(1, .class_ 2), (0, u "java/lang/constant/Constable"), (0, .class_ 4), (0, u "java/lang/Object")] 6

/-- java/lang/constant/Constable -/
def k5 : Class := { plain "java/lang/constant/Constable" (some 0) with
  accessFlags := 1537
  interfaces := #[]
  cf := some (fileOf pool5 1 #[] #[] 1537 3 #[] #[])
  fields := #[]
  methods := #[]
  instanceTypes := #[]
  staticTypes := #[]
  resolved := Array.replicate 11 none
  statics := none }

def pool6 : Array CpInfo := pool [(1, .class_ 2), (0, u "java/lang/constant/ConstantDesc"), (0, .class_ 4), (0, u "java/lang/Object")] 32

/-- java/lang/constant/ConstantDesc -/
def k6 : Class := { plain "java/lang/constant/ConstantDesc" (some 0) with
  accessFlags := 1537
  interfaces := #[]
  cf := some (fileOf pool6 1 #[] #[] 1537 3 #[] #[])
  fields := #[]
  methods := #[]
  instanceTypes := #[]
  staticTypes := #[]
  resolved := Array.replicate 37 none
  statics := none }

def pool7 : Array CpInfo := pool [(1, .methodref 2 3), (0, .class_ 4), (0, .nameAndType 5 6), (0, u "java/lang/Object"), (0, u "<init>"), (0, u "()V"), (0, .string 8), (0, u ""), (0, .fieldref 10 11), (0, .class_ 12), (0, .nameAndType 13 14), (0, u "java/lang/String"), (0, u "value"), (0, u "[B"), (0, .fieldref 10 16), (0, .nameAndType 17 18), (0, u "coder"), (0, u "B"), (2, u "hash"), (0, u "I"), (2, u "hashIsZero"), (0, u "Z"), (0, .methodref 10 28), (0, .nameAndType 5 29), (0, u "([CIILjava/lang/Void;)V"), (8, .fieldref 10 39), (0, .nameAndType 40 26), (0, u "COMPACT_STRINGS"), (1, .class_ 44), (1, u "java/lang/StringUTF16"), (0, u "compress"), (1, .methodref 42 48), (0, .nameAndType 49 50), (0, u "coderFromArrayLen"), (0, u "([BI)B"), (2, u "toBytes"), (53, .class_ 109), (1, u "java/lang/StringLatin1"), (67, .methodref 42 178), (0, .nameAndType 45 179), (0, u "([CII)[B"), (29, .methodref 10 210), (0, .nameAndType 5 211), (0, u "([BB)V"), (157, u "(C)Z"), (171, .methodref 107 542), (0, .nameAndType 543 544), (0, u "equals"), (0, u "([B[B)Z"), (28, u "(Ljava/lang/Object;)Z"), (1, .class_ 576), (0, u "java/lang/CharSequence"), (22, u "CASE_INSENSITIVE_ORDER"), (0, u "Ljava/util/Comparator;"), (181, u "valueOf"), (0, u "(C)Ljava/lang/String;"), (226, u "([C)V"), (4, .methodref 107 1016), (0, .nameAndType 1017 369), (0, u "canEncode"), (0, .methodref 107 1019), (0, .nameAndType 53 1020), (0, u "(C)[B"), (80, u "serialPersistentFields"), (0, u "[Ljava/io/ObjectStreamField;"), (0, .class_ 1104), (0, u "java/lang/String$CaseInsensitiveComparator"), (1, .class_ 1107), (0, u "java/io/Serializable"), (0, .class_ 1109), (0, u "java/lang/Comparable"), (0, .class_ 1111), (0, u "java/lang/constant/Constable"), (0, .class_ 1113), (0, u "java/lang/constant/ConstantDesc"), (2, u "serialVersionUID"), (0, u "J"), (3, u "REPL"), (0, u "C"), (2, u "LATIN1"), (1, u "UTF16")] 323

def k7m0 : Method := { name := "<init>", desc := "()V", sig := { parameters := [], returnType := none }, accessFlags := 1, code := none }
def k7c1 : Code := { maxStack := 5, maxLocals := 2, code := jdk_42_method_3_code, exceptionTable := #[], attributes := #[] }
def k7m1 : Method := { name := "<init>", desc := "([C)V", sig := { parameters := [(.array .char)], returnType := none }, accessFlags := 1, code := some k7c1 }
def k7c2 : Code := { maxStack := 2, maxLocals := 3, code := jdk_42_method_66_code, exceptionTable := #[], attributes := #[] }
def k7m2 : Method := { name := "equals", desc := "(Ljava/lang/Object;)Z", sig := { parameters := [(.object "java/lang/Object")], returnType := some .boolean }, accessFlags := 1, code := some k7c2 }
def k7c3 : Code := { maxStack := 4, maxLocals := 1, code := jdk_42_method_139_code, exceptionTable := #[], attributes := #[] }
def k7m3 : Method := { name := "valueOf", desc := "(C)Ljava/lang/String;", sig := { parameters := [.char], returnType := some (.object "java/lang/String") }, accessFlags := 9, code := some k7c3 }
def k7c4 : Code := { maxStack := 4, maxLocals := 6, code := jdk_42_method_149_code, exceptionTable := #[], attributes := #[] }
def k7m4 : Method := { name := "<init>", desc := "([CIILjava/lang/Void;)V", sig := { parameters := [(.array .char), .int, .int, (.object "java/lang/Void")], returnType := none }, accessFlags := 2, code := some k7c4 }
def k7c5 : Code := { maxStack := 2, maxLocals := 3, code := jdk_42_method_151_code, exceptionTable := #[], attributes := #[] }
def k7m5 : Method := { name := "<init>", desc := "([BB)V", sig := { parameters := [(.array .byte), .byte], returnType := none }, accessFlags := 0, code := some k7c5 }
/-- java/lang/String -/
def k7 : Class := { plain "java/lang/String" (some 0) with
  accessFlags := 49
  interfaces := #[2, 3, 4, 5, 6]
  cf := some (fileOf pool7 10 #[.nestMembers #[1103]] #[{ accessFlags := 1, nameIndex := 5, descriptorIndex := 6, attributes := #[] }, { accessFlags := 1, nameIndex := 5, descriptorIndex := 1010, attributes := #[] }, { accessFlags := 1, nameIndex := 543, descriptorIndex := 573, attributes := #[] }, { accessFlags := 9, nameIndex := 782, descriptorIndex := 783, attributes := #[] }, { accessFlags := 2, nameIndex := 5, descriptorIndex := 29, attributes := #[] }, { accessFlags := 0, nameIndex := 5, descriptorIndex := 211, attributes := #[] }] 49 2 #[1106, 1108, 575, 1110, 1112] #[{ accessFlags := 18, nameIndex := 13, descriptorIndex := 14, attributes := #[] }, { accessFlags := 18, nameIndex := 17, descriptorIndex := 18, attributes := #[] }, { accessFlags := 2, nameIndex := 21, descriptorIndex := 22, attributes := #[] }, { accessFlags := 2, nameIndex := 25, descriptorIndex := 26, attributes := #[] }, { accessFlags := 26, nameIndex := 1116, descriptorIndex := 1117, attributes := #[] }, { accessFlags := 24, nameIndex := 40, descriptorIndex := 26, attributes := #[] }, { accessFlags := 26, nameIndex := 1101, descriptorIndex := 1102, attributes := #[] }, { accessFlags := 26, nameIndex := 1121, descriptorIndex := 1122, attributes := #[] }, { accessFlags := 25, nameIndex := 599, descriptorIndex := 600, attributes := #[] }, { accessFlags := 24, nameIndex := 1125, descriptorIndex := 18, attributes := #[] }, { accessFlags := 24, nameIndex := 1127, descriptorIndex := 18, attributes := #[] }])
  fields := #[{ name := "value", type := (.array .byte), accessFlags := 18, slot := 0, constantValue := 0 }, { name := "coder", type := .byte, accessFlags := 18, slot := 1, constantValue := 0 }, { name := "hash", type := .int, accessFlags := 2, slot := 2, constantValue := 0 }, { name := "hashIsZero", type := .boolean, accessFlags := 2, slot := 3, constantValue := 0 }, { name := "serialVersionUID", type := .long, accessFlags := 26, slot := 0, constantValue := 0 }, { name := "COMPACT_STRINGS", type := .boolean, accessFlags := 24, slot := 1, constantValue := 0 }, { name := "serialPersistentFields", type := (.array (.object "java/io/ObjectStreamField")), accessFlags := 26, slot := 2, constantValue := 0 }, { name := "REPL", type := .char, accessFlags := 26, slot := 3, constantValue := 0 }, { name := "CASE_INSENSITIVE_ORDER", type := (.object "java/util/Comparator"), accessFlags := 25, slot := 4, constantValue := 0 }, { name := "LATIN1", type := .byte, accessFlags := 24, slot := 5, constantValue := 0 }, { name := "UTF16", type := .byte, accessFlags := 24, slot := 6, constantValue := 0 }]
  methods := #[k7m0, k7m1, k7m2, k7m3, k7m4, k7m5]
  instanceTypes := #[(.array .byte), .byte, .int, .boolean]
  staticTypes := #[.long, .boolean, (.array (.object "java/io/ObjectStreamField")), .char, (.object "java/util/Comparator"), .byte, .byte]
  resolved := Array.replicate 1451 none
  statics := some 0 }

def pool8 : Array CpInfo := pool [(6, .class_ 8), (1, u "java/lang/Object"), (0, u "<init>"), (0, u "()V"), (1, .class_ 14), (1, u "java/lang/StringUTF16"), (31, u "$assertionsDisabled"), (0, u "Z"), (13, u "HI_BYTE_SHIFT"), (0, u "I"), (2, u "LO_BYTE_SHIFT"), (49, .methodref 12 116), (0, .nameAndType 117 118), (0, u "compress"), (0, u "([CI[BII)I"), (3, u "([CII)[B"), (138, u "coderFromArrayLen"), (0, u "([BI)B"), (106, .class_ 371), (1, u "java/lang/StringUTF16$LinesSpliterator"), (58, u "MAX_LENGTH"), (196, .class_ 628), (0, u "java/lang/StringUTF16$CodePointsSpliterator"), (0, .class_ 630), (0, u "java/lang/StringUTF16$CharsSpliterator")] 4

def k8m0 : Method := { name := "<init>", desc := "()V", sig := { parameters := [], returnType := none }, accessFlags := 0, code := none }
def k8c1 : Code := { maxStack := 2, maxLocals := 2, code := jdk_52_method_15_code, exceptionTable := #[], attributes := #[] }
def k8m1 : Method := { name := "coderFromArrayLen", desc := "([BI)B", sig := { parameters := [(.array .byte), .int], returnType := some .byte }, accessFlags := 8, code := some k8c1 }
def k8c2 : Code := { maxStack := 5, maxLocals := 6, code := jdk_52_method_16_code, exceptionTable := #[], attributes := #[] }
def k8m2 : Method := { name := "compress", desc := "([CII)[B", sig := { parameters := [(.array .char), .int, .int], returnType := some (.array .byte) }, accessFlags := 9, code := some k8c2 }
def k8c3 : Code := { maxStack := 3, maxLocals := 7, code := jdk_52_method_21_code, exceptionTable := #[], attributes := #[] }
def k8m3 : Method := { name := "compress", desc := "([CI[BII)I", sig := { parameters := [(.array .char), .int, (.array .byte), .int, .int], returnType := some .int }, accessFlags := 9, code := some k8c3 }
/-- java/lang/StringUTF16 -/
def k8 : Class := { plain "java/lang/StringUTF16" (some 0) with
  accessFlags := 48
  interfaces := #[]
  cf := some (fileOf pool8 12 #[.nestMembers #[627, 629, 369]] #[{ accessFlags := 0, nameIndex := 9, descriptorIndex := 10, attributes := #[] }, { accessFlags := 8, nameIndex := 261, descriptorIndex := 262, attributes := #[] }, { accessFlags := 9, nameIndex := 117, descriptorIndex := 122, attributes := #[] }, { accessFlags := 9, nameIndex := 117, descriptorIndex := 118, attributes := #[] }] 48 6 #[] #[{ accessFlags := 26, nameIndex := 61, descriptorIndex := 62, attributes := #[] }, { accessFlags := 26, nameIndex := 65, descriptorIndex := 62, attributes := #[] }, { accessFlags := 24, nameIndex := 430, descriptorIndex := 62, attributes := #[] }, { accessFlags := 4120, nameIndex := 46, descriptorIndex := 47, attributes := #[] }])
  fields := #[{ name := "HI_BYTE_SHIFT", type := .int, accessFlags := 26, slot := 0, constantValue := 0 }, { name := "LO_BYTE_SHIFT", type := .int, accessFlags := 26, slot := 1, constantValue := 0 }, { name := "MAX_LENGTH", type := .int, accessFlags := 24, slot := 2, constantValue := 0 }, { name := "$assertionsDisabled", type := .boolean, accessFlags := 4120, slot := 3, constantValue := 0 }]
  methods := #[k8m0, k8m1, k8m2, k8m3]
  instanceTypes := #[]
  staticTypes := #[.int, .int, .int, .boolean]
  resolved := Array.replicate 635 none
  statics := none }

def pool9 : Array CpInfo := pool [(4, .class_ 6), (1, u "java/lang/Object"), (0, u "<init>"), (0, u "()V"), (5, .class_ 16), (1, u "java/lang/StringLatin1"), (73, u "canEncode"), (14, u "(C)Z"), (15, u "$assertionsDisabled"), (0, u "Z"), (98, .class_ 223), (1, u "java/lang/StringLatin1$LinesSpliterator"), (57, u "equals"), (0, u "([B[B)Z"), (97, u "toBytes"), (1, u "(C)[B"), (7, .class_ 391), (0, u "java/lang/StringLatin1$CharsSpliterator")] 3

def k9m0 : Method := { name := "<init>", desc := "()V", sig := { parameters := [], returnType := none }, accessFlags := 0, code := none }
def k9c1 : Code := { maxStack := 2, maxLocals := 1, code := jdk_43_method_3_code, exceptionTable := #[], attributes := #[] }
def k9m1 : Method := { name := "canEncode", desc := "(C)Z", sig := { parameters := [.char], returnType := some .boolean }, accessFlags := 9, code := some k9c1 }
def k9c2 : Code := { maxStack := 3, maxLocals := 3, code := jdk_43_method_13_code, exceptionTable := #[], attributes := #[] }
def k9m2 : Method := { name := "equals", desc := "([B[B)Z", sig := { parameters := [(.array .byte), (.array .byte)], returnType := some .boolean }, accessFlags := 9, code := some k9c2 }
def k9c3 : Code := { maxStack := 4, maxLocals := 1, code := jdk_43_method_46_code, exceptionTable := #[], attributes := #[] }
def k9m3 : Method := { name := "toBytes", desc := "(C)[B", sig := { parameters := [.char], returnType := some (.array .byte) }, accessFlags := 9, code := some k9c3 }
/-- java/lang/StringLatin1 -/
def k9 : Class := { plain "java/lang/StringLatin1" (some 0) with
  accessFlags := 48
  interfaces := #[]
  cf := some (fileOf pool9 14 #[.nestMembers #[390, 221]] #[{ accessFlags := 0, nameIndex := 7, descriptorIndex := 8, attributes := #[] }, { accessFlags := 9, nameIndex := 90, descriptorIndex := 105, attributes := #[] }, { accessFlags := 9, nameIndex := 281, descriptorIndex := 282, attributes := #[] }, { accessFlags := 9, nameIndex := 380, descriptorIndex := 382, attributes := #[] }] 48 4 #[] #[{ accessFlags := 4120, nameIndex := 121, descriptorIndex := 122, attributes := #[] }])
  fields := #[{ name := "$assertionsDisabled", type := .boolean, accessFlags := 4120, slot := 0, constantValue := 0 }]
  methods := #[k9m0, k9m1, k9m2, k9m3]
  instanceTypes := #[]
  staticTypes := #[.boolean]
  resolved := Array.replicate 395 none
  statics := none }

def pool10 : Array CpInfo := pool [(1, .methodref 2 3), (0, .class_ 4), (0, .nameAndType 5 6), (0, u "java/lang/Object"), (0, u "<init>"), (0, u "()V"), (0, .string 8), (0, u "request"), (0, .methodref 10 11), (0, .class_ 12), (0, .nameAndType 13 14), (0, u "java/util/Objects"), (0, u "requireNonNull"), (0, u "(Ljava/lang/Object;Ljava/lang/String;)Ljava/lang/Object;"), (0, .class_ 16), (0, u "java/lang/String"), (0, .fieldref 18 19), (0, .class_ 20), (0, .nameAndType 8 21), (0, u "com/example/unearth/unearth/eval/Judgment"), (0, u "Ljava/lang/String;"), (0, .string 23), (0, u "record"), (0, .fieldref 18 25), (0, .nameAndType 23 21), (0, .fieldref 18 27), (0, .nameAndType 28 29), (0, u "relevance"), (0, u "I"), (6, u "COLUMNS"), (0, u "[Ljava/lang/String;"), (25, u "(Ljava/lang/String;Ljava/lang/String;I)V"), (0, .methodref 15 65), (0, .nameAndType 66 67), (0, u "equals"), (0, u "(Ljava/lang/Object;)Z")] 43

def k10c0 : Code := { maxStack := 3, maxLocals := 4, code := prog_11_method_1_code, exceptionTable := #[], attributes := #[] }
def k10m0 : Method := { name := "<init>", desc := "(Ljava/lang/String;Ljava/lang/String;I)V", sig := { parameters := [(.object "java/lang/String"), (.object "java/lang/String"), .int], returnType := none }, accessFlags := 1, code := some k10c0 }
def k10c1 : Code := { maxStack := 2, maxLocals := 3, code := prog_11_method_6_code, exceptionTable := #[], attributes := #[] }
def k10m1 : Method := { name := "equals", desc := "(Ljava/lang/Object;)Z", sig := { parameters := [(.object "java/lang/Object")], returnType := some .boolean }, accessFlags := 1, code := some k10c1 }
/-- com/example/unearth/unearth/eval/Judgment -/
def k10 : Class := { plain "com/example/unearth/unearth/eval/Judgment" (some 0) with
  accessFlags := 33
  interfaces := #[]
  cf := some (fileOf pool10 18 #[] #[{ accessFlags := 1, nameIndex := 5, descriptorIndex := 63, attributes := #[] }, { accessFlags := 1, nameIndex := 66, descriptorIndex := 67, attributes := #[] }] 33 2 #[] #[{ accessFlags := 26, nameIndex := 36, descriptorIndex := 37, attributes := #[] }, { accessFlags := 18, nameIndex := 8, descriptorIndex := 21, attributes := #[] }, { accessFlags := 18, nameIndex := 23, descriptorIndex := 21, attributes := #[] }, { accessFlags := 18, nameIndex := 28, descriptorIndex := 29, attributes := #[] }])
  fields := #[{ name := "COLUMNS", type := (.array (.object "java/lang/String")), accessFlags := 26, slot := 0, constantValue := 0 }, { name := "request", type := (.object "java/lang/String"), accessFlags := 18, slot := 0, constantValue := 0 }, { name := "record", type := (.object "java/lang/String"), accessFlags := 18, slot := 1, constantValue := 0 }, { name := "relevance", type := .int, accessFlags := 18, slot := 2, constantValue := 0 }]
  methods := #[k10m0, k10m1]
  instanceTypes := #[(.object "java/lang/String"), (.object "java/lang/String"), .int]
  staticTypes := #[(.array (.object "java/lang/String"))]
  resolved := Array.replicate 111 none
  statics := none }

def pool11 : Array CpInfo := pool [(2, .class_ 4), (1, u "java/lang/Object"), (0, u "<init>"), (0, u "()V"), (35, .class_ 44), (1, u "java/util/Objects"), (0, u "requireNonNull"), (48, u "(Ljava/lang/Object;Ljava/lang/String;)Ljava/lang/Object;")] 89

def k11m0 : Method := { name := "<init>", desc := "()V", sig := { parameters := [], returnType := none }, accessFlags := 2, code := none }
def k11c1 : Code := { maxStack := 3, maxLocals := 2, code := jdk_31_method_11_code, exceptionTable := #[], attributes := #[] }
def k11m1 : Method := { name := "requireNonNull", desc := "(Ljava/lang/Object;Ljava/lang/String;)Ljava/lang/Object;", sig := { parameters := [(.object "java/lang/Object"), (.object "java/lang/String")], returnType := some (.object "java/lang/Object") }, accessFlags := 9, code := some k11c1 }
/-- java/util/Objects -/
def k11 : Class := { plain "java/util/Objects" (some 0) with
  accessFlags := 49
  interfaces := #[]
  cf := some (fileOf pool11 42 #[] #[{ accessFlags := 2, nameIndex := 5, descriptorIndex := 6, attributes := #[] }, { accessFlags := 9, nameIndex := 45, descriptorIndex := 94, attributes := #[] }] 49 2 #[] #[])
  fields := #[]
  methods := #[k11m0, k11m1]
  instanceTypes := #[]
  staticTypes := #[]
  resolved := Array.replicate 184 none
  statics := none }

def pool12 : Array CpInfo := pool [(2, .class_ 4), (1, u "java/lang/Object"), (0, u "<init>"), (0, u "()V"), (17, .class_ 26), (1, u "jdk/internal/util/Preconditions"), (28, .class_ 56), (0, u "jdk/internal/util/Preconditions$4"), (57, .class_ 115), (0, u "jdk/internal/util/Preconditions$1"), (7, u "SIOOBE_FORMATTER"), (0, u "Ljava/util/function/BiFunction;"), (0, .class_ 126), (0, u "jdk/internal/util/Preconditions$2"), (3, u "AIOOBE_FORMATTER"), (0, .class_ 132), (0, u "jdk/internal/util/Preconditions$3"), (3, u "IOOBE_FORMATTER")] 57

def k12m0 : Method := { name := "<init>", desc := "()V", sig := { parameters := [], returnType := none }, accessFlags := 1, code := none }
/-- jdk/internal/util/Preconditions -/
def k12 : Class := { plain "jdk/internal/util/Preconditions" (some 0) with
  accessFlags := 33
  interfaces := #[]
  cf := some (fileOf pool12 24 #[.nestMembers #[55, 131, 125, 114]] #[{ accessFlags := 1, nameIndex := 5, descriptorIndex := 6, attributes := #[] }] 33 2 #[] #[{ accessFlags := 25, nameIndex := 123, descriptorIndex := 124, attributes := #[] }, { accessFlags := 25, nameIndex := 130, descriptorIndex := 124, attributes := #[] }, { accessFlags := 25, nameIndex := 136, descriptorIndex := 124, attributes := #[] }])
  fields := #[{ name := "SIOOBE_FORMATTER", type := (.object "java/util/function/BiFunction"), accessFlags := 25, slot := 0, constantValue := 0 }, { name := "AIOOBE_FORMATTER", type := (.object "java/util/function/BiFunction"), accessFlags := 25, slot := 1, constantValue := 0 }, { name := "IOOBE_FORMATTER", type := (.object "java/util/function/BiFunction"), accessFlags := 25, slot := 2, constantValue := 0 }]
  methods := #[k12m0]
  instanceTypes := #[]
  staticTypes := #[(.object "java/util/function/BiFunction"), (.object "java/util/function/BiFunction"), (.object "java/util/function/BiFunction")]
  resolved := Array.replicate 194 none
  statics := some 1 }

def pool13 : Array CpInfo := pool [(9, u "<init>"), (6, .class_ 18), (1, u "java/lang/Object"), (0, u "()V"), (1, .class_ 23), (1, u "jdk/internal/util/ArraysSupport"), (0, u "LOG2_ARRAY_LONG_INDEX_SCALE"), (0, u "I"), (2, u "U"), (0, u "Ljdk/internal/misc/Unsafe;"), (8, u "BIG_ENDIAN"), (0, u "Z"), (8, u "LOG2_BYTE_BIT_SIZE"), (4, u "LOG2_ARRAY_INT_INDEX_SCALE"), (54, u "JLA"), (0, u "Ljdk/internal/access/JavaLangAccess;"), (11, u "LOG2_ARRAY_BOOLEAN_INDEX_SCALE"), (9, u "LOG2_ARRAY_BYTE_INDEX_SCALE"), (5, u "LOG2_ARRAY_CHAR_INDEX_SCALE"), (5, u "LOG2_ARRAY_SHORT_INDEX_SCALE"), (18, u "LOG2_ARRAY_FLOAT_INDEX_SCALE"), (24, u "LOG2_ARRAY_DOUBLE_INDEX_SCALE"), (89, u "T_BOOLEAN"), (2, u "T_CHAR"), (1, u "T_FLOAT"), (1, u "T_DOUBLE"), (1, u "T_BYTE"), (1, u "T_SHORT"), (1, u "T_INT"), (1, u "T_LONG"), (1, u "SOFT_MAX_ARRAY_LENGTH")] 83

def k13m0 : Method := { name := "<init>", desc := "()V", sig := { parameters := [], returnType := none }, accessFlags := 2, code := none }
/-- jdk/internal/util/ArraysSupport -/
def k13 : Class := { plain "jdk/internal/util/ArraysSupport" (some 0) with
  accessFlags := 33
  interfaces := #[]
  cf := some (fileOf pool13 21 #[] #[{ accessFlags := 2, nameIndex := 9, descriptorIndex := 19, attributes := #[] }] 33 16 #[] #[{ accessFlags := 24, nameIndex := 28, descriptorIndex := 29, attributes := #[] }, { accessFlags := 26, nameIndex := 38, descriptorIndex := 39, attributes := #[] }, { accessFlags := 25, nameIndex := 121, descriptorIndex := 25, attributes := #[] }, { accessFlags := 25, nameIndex := 131, descriptorIndex := 25, attributes := #[] }, { accessFlags := 25, nameIndex := 137, descriptorIndex := 25, attributes := #[] }, { accessFlags := 25, nameIndex := 143, descriptorIndex := 25, attributes := #[] }, { accessFlags := 25, nameIndex := 53, descriptorIndex := 25, attributes := #[] }, { accessFlags := 25, nameIndex := 24, descriptorIndex := 25, attributes := #[] }, { accessFlags := 25, nameIndex := 162, descriptorIndex := 25, attributes := #[] }, { accessFlags := 25, nameIndex := 187, descriptorIndex := 25, attributes := #[] }, { accessFlags := 26, nameIndex := 48, descriptorIndex := 25, attributes := #[] }, { accessFlags := 25, nameIndex := 277, descriptorIndex := 25, attributes := #[] }, { accessFlags := 25, nameIndex := 280, descriptorIndex := 25, attributes := #[] }, { accessFlags := 25, nameIndex := 282, descriptorIndex := 25, attributes := #[] }, { accessFlags := 25, nameIndex := 284, descriptorIndex := 25, attributes := #[] }, { accessFlags := 25, nameIndex := 286, descriptorIndex := 25, attributes := #[] }, { accessFlags := 25, nameIndex := 288, descriptorIndex := 25, attributes := #[] }, { accessFlags := 25, nameIndex := 290, descriptorIndex := 25, attributes := #[] }, { accessFlags := 25, nameIndex := 292, descriptorIndex := 25, attributes := #[] }, { accessFlags := 26, nameIndex := 108, descriptorIndex := 109, attributes := #[] }, { accessFlags := 25, nameIndex := 294, descriptorIndex := 25, attributes := #[] }])
  fields := #[{ name := "U", type := (.object "jdk/internal/misc/Unsafe"), accessFlags := 24, slot := 0, constantValue := 0 }, { name := "BIG_ENDIAN", type := .boolean, accessFlags := 26, slot := 1, constantValue := 0 }, { name := "LOG2_ARRAY_BOOLEAN_INDEX_SCALE", type := .int, accessFlags := 25, slot := 2, constantValue := 0 }, { name := "LOG2_ARRAY_BYTE_INDEX_SCALE", type := .int, accessFlags := 25, slot := 3, constantValue := 0 }, { name := "LOG2_ARRAY_CHAR_INDEX_SCALE", type := .int, accessFlags := 25, slot := 4, constantValue := 0 }, { name := "LOG2_ARRAY_SHORT_INDEX_SCALE", type := .int, accessFlags := 25, slot := 5, constantValue := 0 }, { name := "LOG2_ARRAY_INT_INDEX_SCALE", type := .int, accessFlags := 25, slot := 6, constantValue := 0 }, { name := "LOG2_ARRAY_LONG_INDEX_SCALE", type := .int, accessFlags := 25, slot := 7, constantValue := 0 }, { name := "LOG2_ARRAY_FLOAT_INDEX_SCALE", type := .int, accessFlags := 25, slot := 8, constantValue := 0 }, { name := "LOG2_ARRAY_DOUBLE_INDEX_SCALE", type := .int, accessFlags := 25, slot := 9, constantValue := 0 }, { name := "LOG2_BYTE_BIT_SIZE", type := .int, accessFlags := 26, slot := 10, constantValue := 0 }, { name := "T_BOOLEAN", type := .int, accessFlags := 25, slot := 11, constantValue := 0 }, { name := "T_CHAR", type := .int, accessFlags := 25, slot := 12, constantValue := 0 }, { name := "T_FLOAT", type := .int, accessFlags := 25, slot := 13, constantValue := 0 }, { name := "T_DOUBLE", type := .int, accessFlags := 25, slot := 14, constantValue := 0 }, { name := "T_BYTE", type := .int, accessFlags := 25, slot := 15, constantValue := 0 }, { name := "T_SHORT", type := .int, accessFlags := 25, slot := 16, constantValue := 0 }, { name := "T_INT", type := .int, accessFlags := 25, slot := 17, constantValue := 0 }, { name := "T_LONG", type := .int, accessFlags := 25, slot := 18, constantValue := 0 }, { name := "JLA", type := (.object "jdk/internal/access/JavaLangAccess"), accessFlags := 26, slot := 19, constantValue := 0 }, { name := "SOFT_MAX_ARRAY_LENGTH", type := .int, accessFlags := 25, slot := 20, constantValue := 0 }]
  methods := #[k13m0]
  instanceTypes := #[]
  staticTypes := #[(.object "jdk/internal/misc/Unsafe"), .boolean, .int, .int, .int, .int, .int, .int, .int, .int, .int, .int, .int, .int, .int, .int, .int, .int, .int, (.object "jdk/internal/access/JavaLangAccess"), .int]
  resolved := Array.replicate 378 none
  statics := none }

def pool14 : Array CpInfo := pool [(1, u "java/lang/Cloneable"), (0, .class_ 1), (0, u "java/lang/Object"), (0, .class_ 3)] 3

/-- java/lang/Cloneable -/
def k14 : Class := { plain "java/lang/Cloneable" (some 0) with
  accessFlags := 1537
  interfaces := #[]
  cf := some (fileOf pool14 2 #[] #[] 1537 4 #[] #[])
  fields := #[]
  methods := #[]
  instanceTypes := #[]
  staticTypes := #[]
  resolved := Array.replicate 8 none
  statics := none }

/-- the primitive byte -/
def k15 : Class := { plain "byte" none with kind := .primitive 'B', accessFlags := 0x411 }
/-- [B -/
def k16 : Class := { plain "[B" (some 0) with kind := .array 15 .byte, interfaces := #[14, 2], accessFlags := 1041 }

/-- the primitive char -/
def k17 : Class := { plain "char" none with kind := .primitive 'C', accessFlags := 0x411 }
/-- [C -/
def k18 : Class := { plain "[C" (some 0) with kind := .array 17 .char, interfaces := #[14, 2], accessFlags := 1041 }

/-- the primitive int -/
def k19 : Class := { plain "int" none with kind := .primitive 'I', accessFlags := 0x411 }
/-- [I -/
def k20 : Class := { plain "[I" (some 0) with kind := .array 19 .int, interfaces := #[14, 2], accessFlags := 1041 }

def heap : Heap := #[{ cls := 7, slots := #[.long 0, .int 1, .null, .int 0, .null, .int 0, .int 0], vm := .statics 7 },
  { cls := 12, slots := #[.null, .null, .null], vm := .statics 12 }]
def classes : Array Class := #[k0, k1, k2, k3, k4, k5, k6, k7, k8, k9, k10, k11, k12, k13, k14, k15, k16, k17, k18, k19, k20]
def interned : List (Array UInt16 × Addr) := []
def slotsUsed : Nat := 10
def theMethod : MethodId := ⟨1, 1⟩
def args0 : Array Value := #[.int 5, .int 3, .int 7, .int 9, .int 11, .int 13]
def aboutOver (below : List Frame) : State where
  vm := { classes := classes, interned := interned.toArray }
  heap := heap
  slotsUsed := slotsUsed
  threads := #[{ frames := .invoking theMethod args0 :: below }]
def below0 : List Frame := [.native { method := ⟨0, 0⟩, args := #[] }]
def about1 : State := aboutOver below0
def p0 : Program := .bare "" "" ""
def e0 : Env := launch0.env 0 0 0
theorem w_frames : about1.frames = Frame.invoking theMethod args0 :: below0 := rfl
set_option maxRecDepth 65536 in
theorem w_args : argsFit about1.vm theMethod args0 = true := by decide +kernel
set_option maxRecDepth 65536 in
theorem w_heap : heapFits about1 = true := by decide +kernel
set_option maxRecDepth 65536 in
theorem w_runnable : about1.curStatus? = some .runnable := by decide +kernel
set_option maxRecDepth 65536 in
theorem w_alone : about1.alone = true := by decide +kernel
set_option maxRecDepth 65536 in
theorem w_named : about1.methodNamed? x = some theMethod := by decide +kernel
set_option maxRecDepth 65536 in
theorem w_hears : about1.hears theMethod below0 = true := by decide +kernel
set_option maxRecDepth 65536 in
theorem w_ripe : about1.ripe theMethod args0 below0 = true := by decide +kernel
theorem w_running : about1.status = .running := rfl
set_option maxRecDepth 65536 in
theorem w_room : about1.hasRoom e0.platform room_1 = true :=
  launch0.hasRoom_least _ room_1 (by decide +kernel) (by decide +kernel) (by decide +kernel) (by decide +kernel) (by decide +kernel) (by decide +kernel)
theorem allAtoms_all (ts : List Jvm.Cond) (a : Array Jvm.Value) (st : Jvm.State) : (allAtoms ts).before a st = ts.all (fun c => c.before a st) := by
  induction ts with
  | nil => rfl
  | cons c t ih =>
    show (Jvm.Cond.and c (allAtoms t)).before a st = _
    rw [Jvm.Cond.before_and, ih, List.all_cons]
def words1 : List Jvm.Cond := Jvm.Cond.code x code maxLocals ret :: tables_1
/-- a 'code' word, met by the world's own term for the bytes: nothing is compared byte by byte -/
theorem code_word {y : MethodName} {bytes : ByteArray} {mx : Nat} {rt : Option FieldType} {a : Array Value} {s : State} {m : MethodId} {meth : Method} {c : Code} (h1 : s.methodNamed? y = some m) (h2 : s.vm.method? m = some meth) (h3 : meth.code = some c) (h4 : c.code = bytes)
    (h5 : (c.maxLocals == mx && c.exceptionTable.isEmpty && decide (c.maxStack ≤ mostOperands) && decide (meth.sig.returnType = rt) && !meth.locks && decide (parseMethodDescriptor y.desc = some meth.sig)) = true) : (Jvm.Cond.code y bytes mx rt).before a s = true := by
  simp only [Bool.and_eq_true, beq_iff_eq, Bool.not_eq_true', decide_eq_true_eq] at h5
  obtain ⟨⟨⟨⟨⟨g1, g2⟩, g3⟩, g4⟩, g5⟩, g6⟩ := h5
  simp [Cond.before, Cond.holds, Cond.value, h1, h2, h3, h4, g1, g2, g3, g4, g5, g6]
def isCode : Jvm.Cond → Bool
  | .code _ _ _ _ => true
  | _ => false
theorem all_split {L : List Jvm.Cond} {P : Jvm.Cond → Bool} (h1 : L.all (fun c => isCode c || P c) = true) (h2 : ∀ c ∈ L.filter isCode, P c = true) : L.all P = true := by
  refine List.all_eq_true.mpr fun c hc => ?_
  have h := List.all_eq_true.mp h1 c hc
  rcases Bool.eq_false_or_eq_true (isCode c) with hi | hi
  · exact h2 c (List.mem_filter.mpr ⟨hc, hi⟩)
  · simpa [hi] using h
set_option maxRecDepth 65536 in
theorem w_c0 : (Jvm.Cond.code x code maxLocals ret).before args0 about1 = true := code_word (m := ⟨1, 1⟩) (meth := k1m1) (c := k1c1) (by decide +kernel) rfl rfl rfl (by decide +kernel)
set_option maxRecDepth 65536 in
theorem w_c1 : (Jvm.Cond.code ({ cls := "com/example/unearth/unearth/eval/JudgmentEqualsPinLaw", name := "str", desc := "(I)Ljava/lang/String;" } : Jvm.MethodName) method_6_code (3 : Nat) (Option.some (Jvm.ClassFile.FieldType.object "java/lang/String"))).before args0 about1 = true := code_word (m := ⟨1, 5⟩) (meth := k1m5) (c := k1c5) (by decide +kernel) rfl rfl rfl (by decide +kernel)
set_option maxRecDepth 65536 in
theorem w_c2 : (Jvm.Cond.code ({ cls := "com/example/unearth/unearth/eval/JudgmentEqualsPinLaw", name := "len", desc := "(I)I" } : Jvm.MethodName) method_3_code (1 : Nat) (Option.some Jvm.ClassFile.FieldType.int)).before args0 about1 = true := code_word (m := ⟨1, 2⟩) (meth := k1m2) (c := k1c2) (by decide +kernel) rfl rfl rfl (by decide +kernel)
set_option maxRecDepth 65536 in
theorem w_c3 : (Jvm.Cond.code ({ cls := "java/lang/String", name := "<init>", desc := "([C)V" } : Jvm.MethodName) jdk_42_method_3_code (2 : Nat) (Option.none : Option Jvm.ClassFile.FieldType)).before args0 about1 = true := code_word (m := ⟨7, 1⟩) (meth := k7m1) (c := k7c1) (by decide +kernel) rfl rfl rfl (by decide +kernel)
set_option maxRecDepth 65536 in
theorem w_c4 : (Jvm.Cond.code ({ cls := "java/lang/String", name := "<init>", desc := "([CIILjava/lang/Void;)V" } : Jvm.MethodName) jdk_42_method_149_code (6 : Nat) (Option.none : Option Jvm.ClassFile.FieldType)).before args0 about1 = true := code_word (m := ⟨7, 4⟩) (meth := k7m4) (c := k7c4) (by decide +kernel) rfl rfl rfl (by decide +kernel)
set_option maxRecDepth 65536 in
theorem w_c5 : (Jvm.Cond.code ({ cls := "java/lang/Object", name := "<init>", desc := "()V" } : Jvm.MethodName) object_method_1_code (1 : Nat) (Option.none : Option Jvm.ClassFile.FieldType)).before args0 about1 = true := code_word (m := ⟨0, 0⟩) (meth := k0m0) (c := k0c0) (by decide +kernel) rfl rfl rfl (by decide +kernel)
set_option maxRecDepth 65536 in
theorem w_c6 : (Jvm.Cond.code ({ cls := "com/example/unearth/unearth/eval/JudgmentEqualsPinLaw", name := "ch0", desc := "(I)C" } : Jvm.MethodName) method_4_code (1 : Nat) (Option.some Jvm.ClassFile.FieldType.char)).before args0 about1 = true := code_word (m := ⟨1, 3⟩) (meth := k1m3) (c := k1c3) (by decide +kernel) rfl rfl rfl (by decide +kernel)
set_option maxRecDepth 65536 in
theorem w_c7 : (Jvm.Cond.code ({ cls := "com/example/unearth/unearth/eval/JudgmentEqualsPinLaw", name := "ch1", desc := "(I)C" } : Jvm.MethodName) method_5_code (1 : Nat) (Option.some Jvm.ClassFile.FieldType.char)).before args0 about1 = true := code_word (m := ⟨1, 4⟩) (meth := k1m4) (c := k1c4) (by decide +kernel) rfl rfl rfl (by decide +kernel)
set_option maxRecDepth 65536 in
theorem w_c8 : (Jvm.Cond.code ({ cls := "java/lang/StringUTF16", name := "compress", desc := "([CII)[B" } : Jvm.MethodName) jdk_52_method_16_code (6 : Nat) (Option.some (Jvm.ClassFile.FieldType.array Jvm.ClassFile.FieldType.byte))).before args0 about1 = true := code_word (m := ⟨8, 2⟩) (meth := k8m2) (c := k8c2) (by decide +kernel) rfl rfl rfl (by decide +kernel)
set_option maxRecDepth 65536 in
theorem w_c9 : (Jvm.Cond.code ({ cls := "java/lang/StringUTF16", name := "compress", desc := "([CI[BII)I" } : Jvm.MethodName) jdk_52_method_21_code (7 : Nat) (Option.some Jvm.ClassFile.FieldType.int)).before args0 about1 = true := code_word (m := ⟨8, 3⟩) (meth := k8m3) (c := k8c3) (by decide +kernel) rfl rfl rfl (by decide +kernel)
set_option maxRecDepth 65536 in
theorem w_c10 : (Jvm.Cond.code ({ cls := "java/lang/StringUTF16", name := "coderFromArrayLen", desc := "([BI)B" } : Jvm.MethodName) jdk_52_method_15_code (2 : Nat) (Option.some Jvm.ClassFile.FieldType.byte)).before args0 about1 = true := code_word (m := ⟨8, 1⟩) (meth := k8m1) (c := k8c1) (by decide +kernel) rfl rfl rfl (by decide +kernel)
set_option maxRecDepth 65536 in
theorem w_c11 : (Jvm.Cond.code ({ cls := "java/lang/String", name := "valueOf", desc := "(C)Ljava/lang/String;" } : Jvm.MethodName) jdk_42_method_139_code (1 : Nat) (Option.some (Jvm.ClassFile.FieldType.object "java/lang/String"))).before args0 about1 = true := code_word (m := ⟨7, 3⟩) (meth := k7m3) (c := k7c3) (by decide +kernel) rfl rfl rfl (by decide +kernel)
set_option maxRecDepth 65536 in
theorem w_c12 : (Jvm.Cond.code ({ cls := "java/lang/StringLatin1", name := "canEncode", desc := "(C)Z" } : Jvm.MethodName) jdk_43_method_3_code (1 : Nat) (Option.some Jvm.ClassFile.FieldType.boolean)).before args0 about1 = true := code_word (m := ⟨9, 1⟩) (meth := k9m1) (c := k9c1) (by decide +kernel) rfl rfl rfl (by decide +kernel)
set_option maxRecDepth 65536 in
theorem w_c13 : (Jvm.Cond.code ({ cls := "java/lang/StringLatin1", name := "toBytes", desc := "(C)[B" } : Jvm.MethodName) jdk_43_method_46_code (1 : Nat) (Option.some (Jvm.ClassFile.FieldType.array Jvm.ClassFile.FieldType.byte))).before args0 about1 = true := code_word (m := ⟨9, 3⟩) (meth := k9m3) (c := k9c3) (by decide +kernel) rfl rfl rfl (by decide +kernel)
set_option maxRecDepth 65536 in
theorem w_c14 : (Jvm.Cond.code ({ cls := "java/lang/String", name := "<init>", desc := "([BB)V" } : Jvm.MethodName) jdk_42_method_151_code (3 : Nat) (Option.none : Option Jvm.ClassFile.FieldType)).before args0 about1 = true := code_word (m := ⟨7, 5⟩) (meth := k7m5) (c := k7c5) (by decide +kernel) rfl rfl rfl (by decide +kernel)
set_option maxRecDepth 65536 in
theorem w_c15 : (Jvm.Cond.code ({ cls := "com/example/unearth/unearth/eval/Judgment", name := "<init>", desc := "(Ljava/lang/String;Ljava/lang/String;I)V" } : Jvm.MethodName) prog_11_method_1_code (4 : Nat) (Option.none : Option Jvm.ClassFile.FieldType)).before args0 about1 = true := code_word (m := ⟨10, 0⟩) (meth := k10m0) (c := k10c0) (by decide +kernel) rfl rfl rfl (by decide +kernel)
set_option maxRecDepth 65536 in
theorem w_c16 : (Jvm.Cond.code ({ cls := "java/util/Objects", name := "requireNonNull", desc := "(Ljava/lang/Object;Ljava/lang/String;)Ljava/lang/Object;" } : Jvm.MethodName) jdk_31_method_11_code (2 : Nat) (Option.some (Jvm.ClassFile.FieldType.object "java/lang/Object"))).before args0 about1 = true := code_word (m := ⟨11, 1⟩) (meth := k11m1) (c := k11c1) (by decide +kernel) rfl rfl rfl (by decide +kernel)
set_option maxRecDepth 65536 in
theorem w_c17 : (Jvm.Cond.code ({ cls := "com/example/unearth/unearth/eval/Judgment", name := "equals", desc := "(Ljava/lang/Object;)Z" } : Jvm.MethodName) prog_11_method_6_code (3 : Nat) (Option.some Jvm.ClassFile.FieldType.boolean)).before args0 about1 = true := code_word (m := ⟨10, 1⟩) (meth := k10m1) (c := k10c1) (by decide +kernel) rfl rfl rfl (by decide +kernel)
set_option maxRecDepth 65536 in
theorem w_c18 : (Jvm.Cond.code ({ cls := "java/lang/String", name := "equals", desc := "(Ljava/lang/Object;)Z" } : Jvm.MethodName) jdk_42_method_66_code (3 : Nat) (Option.some Jvm.ClassFile.FieldType.boolean)).before args0 about1 = true := code_word (m := ⟨7, 2⟩) (meth := k7m2) (c := k7c2) (by decide +kernel) rfl rfl rfl (by decide +kernel)
set_option maxRecDepth 65536 in
theorem w_c19 : (Jvm.Cond.code ({ cls := "com/example/unearth/unearth/eval/JudgmentEqualsPinLaw", name := "same", desc := "(II)Z" } : Jvm.MethodName) method_7_code (3 : Nat) (Option.some Jvm.ClassFile.FieldType.boolean)).before args0 about1 = true := code_word (m := ⟨1, 6⟩) (meth := k1m6) (c := k1c6) (by decide +kernel) rfl rfl rfl (by decide +kernel)
set_option maxRecDepth 65536 in
theorem w_c20 : (Jvm.Cond.code ({ cls := "java/lang/StringLatin1", name := "equals", desc := "([B[B)Z" } : Jvm.MethodName) jdk_43_method_13_code (3 : Nat) (Option.some Jvm.ClassFile.FieldType.boolean)).before args0 about1 = true := code_word (m := ⟨9, 2⟩) (meth := k9m2) (c := k9c2) (by decide +kernel) rfl rfl rfl (by decide +kernel)
def codes1 : List Jvm.Cond := [Jvm.Cond.code x code maxLocals ret, Jvm.Cond.code ({ cls := "com/example/unearth/unearth/eval/JudgmentEqualsPinLaw", name := "str", desc := "(I)Ljava/lang/String;" } : Jvm.MethodName) method_6_code (3 : Nat) (Option.some (Jvm.ClassFile.FieldType.object "java/lang/String")), Jvm.Cond.code ({ cls := "com/example/unearth/unearth/eval/JudgmentEqualsPinLaw", name := "len", desc := "(I)I" } : Jvm.MethodName) method_3_code (1 : Nat) (Option.some Jvm.ClassFile.FieldType.int), Jvm.Cond.code ({ cls := "java/lang/String", name := "<init>", desc := "([C)V" } : Jvm.MethodName) jdk_42_method_3_code (2 : Nat) (Option.none : Option Jvm.ClassFile.FieldType), Jvm.Cond.code ({ cls := "java/lang/String", name := "<init>", desc := "([CIILjava/lang/Void;)V" } : Jvm.MethodName) jdk_42_method_149_code (6 : Nat) (Option.none : Option Jvm.ClassFile.FieldType), Jvm.Cond.code ({ cls := "java/lang/Object", name := "<init>", desc := "()V" } : Jvm.MethodName) object_method_1_code (1 : Nat) (Option.none : Option Jvm.ClassFile.FieldType), Jvm.Cond.code ({ cls := "com/example/unearth/unearth/eval/JudgmentEqualsPinLaw", name := "ch0", desc := "(I)C" } : Jvm.MethodName) method_4_code (1 : Nat) (Option.some Jvm.ClassFile.FieldType.char), Jvm.Cond.code ({ cls := "com/example/unearth/unearth/eval/JudgmentEqualsPinLaw", name := "ch1", desc := "(I)C" } : Jvm.MethodName) method_5_code (1 : Nat) (Option.some Jvm.ClassFile.FieldType.char), Jvm.Cond.code ({ cls := "java/lang/StringUTF16", name := "compress", desc := "([CII)[B" } : Jvm.MethodName) jdk_52_method_16_code (6 : Nat) (Option.some (Jvm.ClassFile.FieldType.array Jvm.ClassFile.FieldType.byte)), Jvm.Cond.code ({ cls := "java/lang/StringUTF16", name := "compress", desc := "([CI[BII)I" } : Jvm.MethodName) jdk_52_method_21_code (7 : Nat) (Option.some Jvm.ClassFile.FieldType.int), Jvm.Cond.code ({ cls := "java/lang/StringUTF16", name := "coderFromArrayLen", desc := "([BI)B" } : Jvm.MethodName) jdk_52_method_15_code (2 : Nat) (Option.some Jvm.ClassFile.FieldType.byte), Jvm.Cond.code ({ cls := "java/lang/String", name := "valueOf", desc := "(C)Ljava/lang/String;" } : Jvm.MethodName) jdk_42_method_139_code (1 : Nat) (Option.some (Jvm.ClassFile.FieldType.object "java/lang/String")), Jvm.Cond.code ({ cls := "java/lang/StringLatin1", name := "canEncode", desc := "(C)Z" } : Jvm.MethodName) jdk_43_method_3_code (1 : Nat) (Option.some Jvm.ClassFile.FieldType.boolean), Jvm.Cond.code ({ cls := "java/lang/StringLatin1", name := "toBytes", desc := "(C)[B" } : Jvm.MethodName) jdk_43_method_46_code (1 : Nat) (Option.some (Jvm.ClassFile.FieldType.array Jvm.ClassFile.FieldType.byte)), Jvm.Cond.code ({ cls := "java/lang/String", name := "<init>", desc := "([BB)V" } : Jvm.MethodName) jdk_42_method_151_code (3 : Nat) (Option.none : Option Jvm.ClassFile.FieldType), Jvm.Cond.code ({ cls := "com/example/unearth/unearth/eval/Judgment", name := "<init>", desc := "(Ljava/lang/String;Ljava/lang/String;I)V" } : Jvm.MethodName) prog_11_method_1_code (4 : Nat) (Option.none : Option Jvm.ClassFile.FieldType), Jvm.Cond.code ({ cls := "java/util/Objects", name := "requireNonNull", desc := "(Ljava/lang/Object;Ljava/lang/String;)Ljava/lang/Object;" } : Jvm.MethodName) jdk_31_method_11_code (2 : Nat) (Option.some (Jvm.ClassFile.FieldType.object "java/lang/Object")), Jvm.Cond.code ({ cls := "com/example/unearth/unearth/eval/Judgment", name := "equals", desc := "(Ljava/lang/Object;)Z" } : Jvm.MethodName) prog_11_method_6_code (3 : Nat) (Option.some Jvm.ClassFile.FieldType.boolean), Jvm.Cond.code ({ cls := "java/lang/String", name := "equals", desc := "(Ljava/lang/Object;)Z" } : Jvm.MethodName) jdk_42_method_66_code (3 : Nat) (Option.some Jvm.ClassFile.FieldType.boolean), Jvm.Cond.code ({ cls := "com/example/unearth/unearth/eval/JudgmentEqualsPinLaw", name := "same", desc := "(II)Z" } : Jvm.MethodName) method_7_code (3 : Nat) (Option.some Jvm.ClassFile.FieldType.boolean), Jvm.Cond.code ({ cls := "java/lang/StringLatin1", name := "equals", desc := "([B[B)Z" } : Jvm.MethodName) jdk_43_method_13_code (3 : Nat) (Option.some Jvm.ClassFile.FieldType.boolean)]
set_option maxRecDepth 65536 in
theorem codes_eq : words1.filter isCode = codes1 := rfl
theorem w_codes : ∀ c ∈ words1.filter isCode, c.before args0 about1 = true := by
  rw [codes_eq]
  intro c hc
  simp only [codes1, List.mem_cons, List.not_mem_nil, or_false] at hc
  rcases hc with rfl | rfl | rfl | rfl | rfl | rfl | rfl | rfl | rfl | rfl | rfl | rfl | rfl | rfl | rfl | rfl | rfl | rfl | rfl | rfl | rfl
  · exact w_c0
  · exact w_c1
  · exact w_c2
  · exact w_c3
  · exact w_c4
  · exact w_c5
  · exact w_c6
  · exact w_c7
  · exact w_c8
  · exact w_c9
  · exact w_c10
  · exact w_c11
  · exact w_c12
  · exact w_c13
  · exact w_c14
  · exact w_c15
  · exact w_c16
  · exact w_c17
  · exact w_c18
  · exact w_c19
  · exact w_c20
set_option maxRecDepth 65536 in
theorem w_t1 : (words1.take 24).all (fun c => isCode c || c.before args0 about1) = true := by decide +kernel
set_option maxRecDepth 65536 in
theorem w_t2 : ((words1.drop 24).take 24).all (fun c => isCode c || c.before args0 about1) = true := by decide +kernel
set_option maxRecDepth 65536 in
theorem w_t3 : (((words1.drop 24).drop 24).take 24).all (fun c => isCode c || c.before args0 about1) = true := by decide +kernel
set_option maxRecDepth 65536 in
theorem w_t4 : ((((words1.drop 24).drop 24).drop 24).take 24).all (fun c => isCode c || c.before args0 about1) = true := by decide +kernel
set_option maxRecDepth 65536 in
theorem w_t5 : ((((words1.drop 24).drop 24).drop 24).drop 24).all (fun c => isCode c || c.before args0 about1) = true := by decide +kernel
theorem w_tables : (allAtoms (Jvm.Cond.code x code maxLocals ret :: tables_1)).before args0 about1 = true := by
  rw [allAtoms_all]
  show words1.all (fun c => c.before args0 about1) = true
  refine all_split ?_ w_codes
  rw [← List.take_append_drop 24 words1, List.all_append, w_t1, ← List.take_append_drop 24 (words1.drop 24), List.all_append, w_t2, ← List.take_append_drop 24 ((words1.drop 24).drop 24), List.all_append, w_t3, ← List.take_append_drop 24 (((words1.drop 24).drop 24).drop 24), List.all_append, w_t4, w_t5]
  rfl
set_option maxRecDepth 65536 in
theorem w_rest : rest_1_c.before args0 about1 = true := by decide +kernel
set_option maxRecDepth 65536 in
theorem w_case : (Jvm.Cond.and given_1 narrow_1).before args0 about1 = true := by decide +kernel
set_option maxRecDepth 65536 in
theorem w_consts : constsHeld consts_1 about1 := Jvm.Lit.constsHeldB_iff.mp (by decide +kernel)
theorem w_applies : (headSpec (Jvm.Cond.code x code maxLocals ret :: tables_1) room_1).applies x e0.platform about1 = true :=
  (Spec.applies_iff w_frames).mpr ⟨w_running, w_runnable, w_alone, w_named, w_hears, w_ripe, w_room, w_tables⟩
theorem atStart : AtStart classFile x code maxLocals ret World_1 tables_1 room_1 Calls_1 rest_1 Pre_1 launch0 p0 e0 about1 theMethod args0 below0 :=
  ⟨lists_1, trivial, launch0.admits_env _ _ _, launch0.least_env, fairChoices_fair.cas, fairChoices_fair.clock, w_frames, w_args, w_heap, w_applies, ⟨w_consts, trivial⟩, w_rest, w_case⟩
end start1
theorem witness_1 : WitnessClaimed_1 := ⟨start1.p0, start1.e0, start1.about1, start1.theMethod, start1.args0, start1.below0, start1.atStart⟩
end Jvm.Pilot.@@N@@
